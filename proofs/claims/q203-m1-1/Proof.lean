import JvmDerived
import JvmDerived.Pilot.@@N@@Statement
import JvmDerived.Pilot.@@N@@Code
set_option linter.unusedVariables false
set_option linter.unusedSimpArgs false
namespace Jvm.Pilot.@@N@@
open Jvm Jvm.ClassFile Sem Op Lib Jvm.Free Jvm.Stand Jvm.LawKit Jvm.RoadKit Bundle Jvm.Pilot.@@N@@.Jvm.D
/-- cells made since the law began, none of them a booked literal's -/
def OwnL (Z : State) (EL : List (String × Nat)) (n0 : Nat) (vm : Vm) (h : Heap) (sf : List Addr) : Prop := ∀ x ∈ sf, x < h.size ∧ n0 ≤ x ∧ Safe Z EL vm h x
/-- all that a walk bears at one point -/
def Wk (l : Launch) (Z : State) (a0 : Array Value) (EL : List (String × Nat)) (n0 : Nat) (R : Room) (own : String) (bytes : ByteArray) (maxL : Nat) (ret : Option FieldType) (nm : String) (h : Heap) (sf : List Addr) (ce sl : Nat)
    (p : Program) (e : Env) (s : State) (m : MethodId) (args : Array Value) (below : List Frame) (meth : Method) (c : Code) (T : State) : Prop :=
  (p.tables.exec = Jvm.exec ∧ c.code = bytes ∧ c.maxLocals = maxL ∧ meth.sig.returnType = ret ∧ meth.name = nm ∧ meth.locks = false ∧ EW Z a0 EL ∧ Old Z n0 h) ∧
    ∃ (vm0 : Vm) (locs : List Loc) (k0 : Nat), Stand p l e R (s.setVm vm0) m args below meth c T locs ce sl ∧ T.heap = h ∧ s.Since vm0 k0 ∧ k0 ≤ h.size ∧ Z.Warmed39 vm0 ∧ vm0.findClass own = some m.cls ∧ Fr n0 locs ∧ CHr Z EL s.vm s.heap vm0 h ∧ OwnL Z EL n0 vm0 h sf
/-- the run from here ends as Q says -/
def Fin1 (Z : State) (EL : List (String × Nat)) (n0 : Nat) (R : Room) (Q : Option Value → Heap → List Addr → Prop) (p : Program) (e : Env) (s : State) (below : List Frame) (U : State) : Prop :=
  ∃ t o, Steps p.tables e below U t ∧ t.status = .running ∧ Ended t below o ∧ ∃ v L sf, o = .returned v ∧ Q v t.heap sf ∧ Fr n0 L ∧ CHr Z EL s.vm s.heap t.vm t.heap ∧ OwnL Z EL n0 t.vm t.heap sf ∧ Old Z n0 t.heap ∧ ReturnedEndW s o t L R.cells R.slots
/-- from every such point, with this frame on top, the run ends as Q says -/
def Go (l : Launch) (Z : State) (a0 : Array Value) (EL : List (String × Nat)) (n0 : Nat) (R : Room) (own : String) (bytes : ByteArray) (maxL : Nat) (ret : Option FieldType) (nm : String) (Q : Option Value → Heap → List Addr → Prop)
    (h : Heap) (sf : List Addr) (ce sl pc : Nat) (ls : Array Slot) (st : List Value) : Prop :=
  ∀ p e s m args below meth c T, Wk l Z a0 EL n0 R own bytes maxL ret nm h sf ce sl p e s m args below meth c T → Fin1 Z EL n0 R Q p e s below (T.setTop (mkF m pc ls st))
/-- a body's contract -/
def Con (l : Launch) (Z : State) (EL : List (String × Nat)) (n0 : Nat) (y : MethodName) (bytes : ByteArray) (maxL : Nat) (ret : Option FieldType) (ws : List Jvm.Cond) (R : Room) (as : Array Value) (h : Heap) (sf : List Addr) (Q : Option Value → Heap → List Addr → Prop) : Prop :=
  MetFree l y (head1 (Jvm.Cond.code y bytes maxL ret :: ws) R) (fun a U => a = as ∧ Z.Warmed39 U.vm ∧ U.heap = h ∧ CHv Z EL U.vm h ∧ OwnL Z EL n0 U.vm h sf ∧ Old Z n0 h) (fun _ _ _ _ _ => True)
    (fun _ U o U' => ∃ v L sf', o = .returned v ∧ Q v U'.heap sf' ∧ Fr n0 L ∧ CHr Z EL U.vm U.heap U'.vm U'.heap ∧ OwnL Z EL n0 U'.vm U'.heap sf' ∧ Old Z n0 U'.heap ∧ ReturnedEndW U o U' L R.cells R.slots)
section Walk
variable {l : Launch} {Z : State} {a0 : Array Value} {EL : List (String × Nat)} {n0 : Nat} {R : Room} {own : String} {bytes : ByteArray} {maxL : Nat} {ret : Option FieldType} {nm : String} {Q : Option Value → Heap → List Addr → Prop}
  {h : Heap} {sf : List Addr} {ce sl pc pc' pt : Nat} {ls ls' : Array Slot} {st rest : List Value}
theorem OwnL.nil {vm : Vm} : OwnL Z EL n0 vm h [] := fun _ q => nomatch q
theorem OwnL.cons {vm : Vm} {x : Addr} (h1 : x < h.size) (h2 : n0 ≤ x) (h3 : Safe Z EL vm h x) (O : OwnL Z EL n0 vm h sf) : OwnL Z EL n0 vm h (x :: sf) := fun y q => by
  rcases List.mem_cons.mp q with rfl | q
  · exact ⟨h1, h2, h3⟩
  · exact O y q
theorem OwnL.app {vm : Vm} {sf' : List Addr} (A : OwnL Z EL n0 vm h sf') (B : OwnL Z EL n0 vm h sf) : OwnL Z EL n0 vm h (sf' ++ sf) := fun y q => (List.mem_append.mp q).elim (A y) (B y)
theorem OwnL.sub {vm : Vm} {sf' : List Addr} (B : OwnL Z EL n0 vm h sf) (q : ∀ x ∈ sf', x ∈ sf) : OwnL Z EL n0 vm h sf' := fun y r => B y (q y r)
theorem OwnL.mv {vm vm1 : Vm} {h' : Heap} (A : CHr Z EL vm h vm1 h') (B : OwnL Z EL n0 vm h sf) : OwnL Z EL n0 vm1 h' sf := fun y r => by
  obtain ⟨q1, q2, q3⟩ := B y r
  exact ⟨Nat.lt_of_lt_of_le q1 A.2.1, q2, A.safe q1 q3⟩
/-- fewer owned cells, the same walk -/
theorem Go.sub {sf' : List Addr} (hr : Go l Z a0 EL n0 R own bytes maxL ret nm Q h sf' ce sl pc ls st) (q : ∀ x ∈ sf', x ∈ sf) : Go l Z a0 EL n0 R own bytes maxL ret nm Q h sf ce sl pc ls st := by
  intro p e s m args below meth c T W
  obtain ⟨W1, vm0, locs, k0, X, eT, hS, hk, hZ, hown, N, C, O⟩ := W
  exact hr p e s m args below meth c T ⟨W1, vm0, locs, k0, X, eT, hS, hk, hZ, hown, N, C, O.sub q⟩
theorem Go.old (hr : Old Z n0 h → Go l Z a0 EL n0 R own bytes maxL ret nm Q h sf ce sl pc ls st) : Go l Z a0 EL n0 R own bytes maxL ret nm Q h sf ce sl pc ls st := by
  intro p e s m args below meth c T W
  exact hr W.1.2.2.2.2.2.2.2 p e s m args below meth c T W
theorem Go.owned (hr : (∀ x ∈ sf, x < h.size ∧ n0 ≤ x) → Go l Z a0 EL n0 R own bytes maxL ret nm Q h sf ce sl pc ls st) : Go l Z a0 EL n0 R own bytes maxL ret nm Q h sf ce sl pc ls st := by
  intro p e s m args below meth c T W
  refine hr (fun x q => ?_) p e s m args below meth c T W
  obtain ⟨W1, vm0, locs, k0, X, eT, hS, hk, hZ, hown, N, C, O⟩ := W
  exact ⟨(O x q).1, (O x q).2.1⟩
theorem Go.more {ce' sl' : Nat} (hr : Go l Z a0 EL n0 R own bytes maxL ret nm Q h sf ce' sl' pc ls st) (q1 : ce ≤ ce') (q2 : sl ≤ sl') : Go l Z a0 EL n0 R own bytes maxL ret nm Q h sf ce sl pc ls st := by
  intro p e s m args below meth c T W
  obtain ⟨W1, vm0, locs, k0, X, r⟩ := W
  exact hr p e s m args below meth c T ⟨W1, vm0, locs, k0, ⟨X.admits, X.cas, X.clock, X.frames, X.room, X.hears, X.method, X.code, X.here, X.tail, X.warmed, X.limits, X.bytes, X.same.mono q1 q2⟩, r⟩
theorem Go.mono {Q' : Option Value → Heap → List Addr → Prop} (hr : Go l Z a0 EL n0 R own bytes maxL ret nm Q' h sf ce sl pc ls st) (q : ∀ v h' sf', Q' v h' sf' → Q v h' sf') : Go l Z a0 EL n0 R own bytes maxL ret nm Q h sf ce sl pc ls st := by
  intro p e s m args below meth c T W
  obtain ⟨t, o, h1, h2, h3, v, L, sf', e1, h4, h5⟩ := hr p e s m args below meth c T W
  exact ⟨t, o, h1, h2, h3, v, L, sf', e1, q _ _ _ h4, h5⟩
/-- one step that moves the frame alone -/
theorem go_step (hr : Go l Z a0 EL n0 R own bytes maxL ret nm Q h sf ce sl pc' ls' rest)
    (k : ∀ {p : Program} {e : Env} {m : MethodId} {below : List Frame} {c : Code} {T t : State}, At T m c below → p.tables.exec = Jvm.exec → c.code = bytes → Steps p.tables e below (T.setTop (mkF m pc' ls' rest)) t → Steps p.tables e below (T.setTop (mkF m pc ls st)) t) :
    Go l Z a0 EL n0 R own bytes maxL ret nm Q h sf ce sl pc ls st := by
  intro p e s m args below meth c T W
  obtain ⟨t, o, h1, h2⟩ := hr p e s m args below meth c T W
  obtain ⟨⟨hx, hby, -⟩, vm0, locs, k0, X, -⟩ := W
  exact ⟨t, o, k X.here hx hby h1, h2⟩
/-- one step that may resolve an entry: the heap as it was -/
theorem go_move (hr : Go l Z a0 EL n0 R own bytes maxL ret nm Q h sf ce sl pc' ls' rest)
    (k : ∀ {p : Program} {e : Env} {s : State} {m : MethodId} {args : Array Value} {below : List Frame} {meth : Method} {c : Code} {T : State} {locs : List Loc}, Stand p l e R s m args below meth c T locs ce sl → p.tables.exec = Jvm.exec → c.code = bytes → c.maxLocals = maxL → T.heap = h → Z.Warmed39 s.vm → s.vm.findClass own = some m.cls → Old Z n0 h →
      ∃ T', Stand p l e R s m args below meth c T' locs ce sl ∧ T'.heap = h ∧ ∀ t, Steps p.tables e below (T'.setTop (mkF m pc' ls' rest)) t → Steps p.tables e below (T.setTop (mkF m pc ls st)) t) :
    Go l Z a0 EL n0 R own bytes maxL ret nm Q h sf ce sl pc ls st := by
  intro p e s m args below meth c T W
  obtain ⟨⟨hx, hby, hml, hret, hnm, hlk, hEL, hOld⟩, vm0, locs, k0, X, eT, hS, hk, hZ, hown, N, C, O⟩ := W
  obtain ⟨T', X', eT', st'⟩ := k (s := s.setVm vm0) X hx hby hml eT hZ hown hOld
  obtain ⟨t, o, h1, h2⟩ := hr p e s m args below meth c T' ⟨⟨hx, hby, hml, hret, hnm, hlk, hEL, hOld⟩, vm0, locs, k0, X', eT', hS, hk, hZ, hown, N, C, O⟩
  exact ⟨t, o, st' _ h1, h2⟩
/-- one step that makes cells -/
theorem go_make {P : Heap → Addr → Prop} {ce' sl' : Nat}
    (k : ∀ {p : Program} {e : Env} {s : State} {m : MethodId} {args : Array Value} {below : List Frame} {meth : Method} {c : Code} {T : State} {locs : List Loc}, Stand p l e R s m args below meth c T locs ce sl → p.tables.exec = Jvm.exec → c.code = bytes → c.maxLocals = maxL → T.heap = h → Z.Warmed39 s.vm → s.vm.findClass own = some m.cls →
      ∃ T' h', Stand p l e R s m args below meth c T' locs ce' sl' ∧ T'.heap = h' ∧ Ext h h' ∧ h.size < h'.size ∧ P h' h.size ∧ ∀ t, Steps p.tables e below (T'.setTop (mkF m pc' ls' (.ref h.size :: rest))) t → Steps p.tables e below (T.setTop (mkF m pc ls st)) t)
    (hr : ∀ h' x, x = h.size → Ext h h' → P h' x → Go l Z a0 EL n0 R own bytes maxL ret nm Q h' (x :: sf) ce' sl' pc' ls' (.ref x :: rest)) :
    Go l Z a0 EL n0 R own bytes maxL ret nm Q h sf ce sl pc ls st := by
  intro p e s m args below meth c T W
  obtain ⟨⟨hx, hby, hml, hret, hnm, hlk, hEL, hOld⟩, vm0, locs, k0, X, eT, hS, hk, hZ, hown, N, C, O⟩ := W
  obtain ⟨T', h', X', eT', E, hlt, hP, st'⟩ := k (s := s.setVm vm0) X hx hby hml eT hZ hown
  have A := CHr.ext E C.1
  have hn : n0 ≤ h.size := by have := hOld.1; have := hOld.2.1; omega
  obtain ⟨t, o, h1, h2⟩ := hr h' h.size rfl E hP p e s m args below meth c T' ⟨⟨hx, hby, hml, hret, hnm, hlk, hEL, hOld.ext E⟩, vm0, locs, k0, X', eT', hS, Nat.le_trans hk E.1, hZ, hown, N, C.trans A,
    OwnL.cons hlt hn (Safe.ext E C.1 (Safe.new (Nat.le_refl _))) (O.mv A)⟩
  exact ⟨t, o, st' _ h1, h2⟩
/-- one step that writes one place of an owned cell -/
theorem go_write {x : Addr} {k1 : Nat} {v1 : Value} (hm : x ∈ sf)
    (k : ∀ {p : Program} {e : Env} {s : State} {m : MethodId} {args : Array Value} {below : List Frame} {meth : Method} {c : Code} {T : State} {locs : List Loc}, Stand p l e R s m args below meth c T locs ce sl → p.tables.exec = Jvm.exec → c.code = bytes → meth.name = nm → T.heap = h → Z.Warmed39 s.vm → s.vm.findClass own = some m.cls →
      ∃ T' h', Stand p l e R s m args below meth c T' (locs ++ [⟨x, k1⟩]) ce sl ∧ T'.heap = h' ∧ Wr h h' x k1 v1 ∧ ∀ t, Steps p.tables e below (T'.setTop (mkF m pc' ls' rest)) t → Steps p.tables e below (T.setTop (mkF m pc ls st)) t)
    (hr : ∀ h', Wr h h' x k1 v1 → Go l Z a0 EL n0 R own bytes maxL ret nm Q h' sf ce sl pc' ls' rest) :
    Go l Z a0 EL n0 R own bytes maxL ret nm Q h sf ce sl pc ls st := by
  intro p e s m args below meth c T W
  obtain ⟨⟨hx, hby, hml, hret, hnm, hlk, hEL, hOld⟩, vm0, locs, k0, X, eT, hS, hk, hZ, hown, N, C, O⟩ := W
  obtain ⟨T', h', X', eT', Ww, st'⟩ := k (s := s.setVm vm0) X hx hby hnm eT hZ hown
  obtain ⟨q1, q2, q3⟩ := O x hm
  have A := CHr.wr Ww q3 C.1
  obtain ⟨t, o, h1, h2⟩ := hr h' Ww p e s m args below meth c T' ⟨⟨hx, hby, hml, hret, hnm, hlk, hEL, hOld.wr Ww q2⟩, vm0, _, k0, X', eT', hS, by rw [Ww.size]; exact hk, hZ, hown, N.snoc X' q2, C.trans A, O.mv A⟩
  exact ⟨t, o, st' _ h1, h2⟩
/-- the end -/
theorem go_out {v : Option Value} {sf' : List Addr} (hv : ret = none → v = none) (hc : ce ≤ R.cells) (hs : sl ≤ R.slots) (hsub : ∀ x ∈ sf', x ∈ sf)
    (k : ∀ {p : Program} {e : Env} {s : State} {m : MethodId} {args : Array Value} {below : List Frame} {meth : Method} {c : Code} {T : State} {locs : List Loc} {fs : List Frame}, Stand p l e R s m args below meth c T locs ce sl → p.tables.exec = Jvm.exec → c.code = bytes → meth.sig.returnType = ret →
      (∀ (f : JFrame) (acts : List Action), f.method = m → f.locked = none → f.entered = [] → (doReturn e (T.setTop f) acts v).1 = T.setFrames fs) → Steps p.tables e below (T.setTop (mkF m pc ls st)) (T.setFrames fs))
    (hq : Q v h sf') : Go l Z a0 EL n0 R own bytes maxL ret nm Q h sf ce sl pc ls st := by
  intro p e s m args below meth c T W
  obtain ⟨⟨hx, hby, hml, hret, hnm, hlk, hEL, hOld⟩, vm0, locs, k0, X, eT, hS, hk, hZ, hown, N, C, O⟩ := W
  obtain ⟨fs, hl, hrun, hend, hR⟩ := X.leaveW (v := v) hS (by rw [eT]; exact hk) (by rw [hret]; exact hv) hlk
  have A := CHv.at X hZ hEL C.1
  subst eT
  refine ⟨_, _, k (s := s.setVm vm0) X hx hby hret hl, hrun, hend, v, locs, sf', rfl, hq, N, C.trans A, (O.mv A).sub hsub, hOld, hR.1, hR.2.1, hR.2.2.1, hR.2.2.2.mono hc hs⟩
/-- into a body -/
theorem con_of {y : MethodName} {ws : List Jvm.Cond} {as : Array Value} (hpl : plainFor y = true) (hEW : EW Z a0 EL) (hE : ∀ m, entryFrame m as maxL = mkF m 0 ls [])
    (hr : Go l Z a0 EL n0 R y.cls bytes maxL ret y.name Q h sf 0 0 0 ls []) : Con l Z EL n0 y bytes maxL ret ws R as h sf Q := by
  refine MetFree.of_bodySF hpl hisR ?_
  intro p e s m args below meth c s₁ Bd hml0 hP hK
  obtain ⟨rfl, hZ, hh, hC, hO, hOld⟩ := hP
  have X0 : Stand p l e R s m args below meth c s₁ [] 0 0 := Stand.of_body Bd
  have e0 : s₁.heap = h := by rw [← hh, Bd.state]; rfl
  subst hh
  obtain ⟨t, o, h1, h2⟩ := hr p e s m args below meth c s₁ ⟨⟨Bd.exec, Bd.bytes, hml0, Bd.returns, (name_of_methodNamed Bd.named Bd.method).1, Bd.notSynchronized, hEW, hOld⟩, s.vm, [], 0, X0, e0, (State.WarmedH.refl s).since 0, Nat.zero_le _, hZ, findClass_of_methodNamed Bd.named, Fr.nil n0, CHr.refl hC, hO⟩
  exact ⟨t, o, castTop (hE m) h1, h2⟩
/-- a contract as a payer -/
theorem back_of {p : Program} {e : Env} {s : State} {args : Array Value} {below : List Frame} {vm0 : Vm} {R' : Room} {y : MethodName} {as : Array Value} {len W : Nat}
    (hM : Con l Z EL n0 y bytes maxL ret [] R' as h sf Q) (hZ : Z.Warmed39 vm0) (wc : (Jvm.Cond.code y bytes maxL ret).before a0 Z = true) (wz : (Jvm.Cond.initialized y.cls).before a0 Z = true) (hf : R'.frames + 1 ≤ R.frames) (hl : W + (maxL + 11) + R'.locals ≤ R.locals) (hEL : EW Z a0 EL) (H : CHv Z EL vm0 h) (O : OwnL Z EL n0 vm0 h sf) (hOld : Old Z n0 h) :
    BackS l R p e below (s.setVm vm0) args y len W (fun A a => a = as ∧ A.U.heap = h ∧ A.cells + R'.cells ≤ R.cells ∧ A.slots + R'.slots ≤ R.slots)
      (fun A _ v B => ∃ L sf', Q v B.U.heap sf' ∧ Fr n0 L ∧ OwnL Z EL n0 B.U.vm B.U.heap sf' ∧ Old Z n0 B.U.heap ∧ B.locs = A.locs ++ L ∧ B.cells = A.cells + R'.cells ∧ B.slots = A.slots + R'.slots ∧ CHr Z EL vm0 h B.U.vm B.U.heap) :=
  BackS.of_freeW (bytes := bytes) (maxL := maxL) (ret := ret) (E := fun _ first o t L k n => k = R'.cells ∧ n = R'.slots ∧ Fr n0 L ∧ (∃ v sf', o = .returned v ∧ Q v t.heap sf' ∧ OwnL Z EL n0 t.vm t.heap sf' ∧ Old Z n0 t.heap) ∧ CHr Z EL first.vm first.heap t.vm t.heap) hM hf hl
    (fun m meth c A a Y hp => have hU : Z.Warmed39 A.U.vm := wtrans (s := s.setVm vm0) hZ Y.warmed
      ⟨by show (Jvm.Cond.and _ .tt).before a A.U = true; rw [Cond.before_and, RoadKit.mv hU wc]; rfl, RoadKit.mv hU wc, RoadKit.mv hU wz, hp.2.2.1, hp.2.2.2⟩)
    (fun m meth c A a g mk Y hp => ⟨hp.1, wtrans (s := s.setVm vm0) hZ Y.warmed, hp.2.1, (CHv.at Y hZ hEL H).1, show OwnL Z EL n0 A.U.vm h sf from O.mv (CHv.at Y hZ hEL H), hOld⟩) (fun _ _ _ _ _ _ _ _ _ => trivial)
    (fun _ _ _ _ ⟨v, L, sf', h1, h2, h3, h4, h5, h6, h7⟩ => ⟨L, _, _, h7, rfl, rfl, h3, ⟨v, sf', h1, h2, h5, h6⟩, h4⟩)
    (fun m meth c A a g mk v t L k n Y hp _ _ ⟨e1, e2, e3, ⟨v', sf', e4, e5, e6, e7⟩, e8⟩ => by
      cases e4; subst e1 e2
      refine ⟨L, sf', e5, e3, e6, e7, rfl, rfl, rfl, (CHv.at Y hZ hEL H).trans ?_⟩
      rw [← hp.2.1]; exact e8)
theorem go_aloadN {k : Fin 4} {v : Value} (hd : decode bytes pc = .ok (.aload_n k, 1)) (hp : pc + 1 = pc') (hl : ls[k.val]? = some (.val v)) (hv : v.isRef = true) (hr : Go l Z a0 EL n0 R own bytes maxL ret nm Q h sf ce sl pc' ls (v :: st)) : Go l Z a0 EL n0 R own bytes maxL ret nm Q h sf ce sl pc ls st := by
  subst hp
  exact go_step hr fun A hx hb kk => XS.aloadN A hx rfl (Jvm.hb hb hd) hl hv kk
theorem go_aload {k : Nat} {v : Value} (hd : decode bytes pc = .ok (.aload k, 2)) (hp : pc + 2 = pc') (hl : ls[k]? = some (.val v)) (hv : v.isRef = true) (hr : Go l Z a0 EL n0 R own bytes maxL ret nm Q h sf ce sl pc' ls (v :: st)) : Go l Z a0 EL n0 R own bytes maxL ret nm Q h sf ce sl pc ls st := by
  subst hp
  exact go_step hr fun A hx hb kk => XS.aload A hx rfl (Jvm.hb hb hd) hl hv kk
theorem go_iloadN {k : Fin 4} {v : Int32} (hd : decode bytes pc = .ok (.iload_n k, 1)) (hp : pc + 1 = pc') (hl : ls[k.val]? = some (.val (.int v))) (hr : Go l Z a0 EL n0 R own bytes maxL ret nm Q h sf ce sl pc' ls (.int v :: st)) : Go l Z a0 EL n0 R own bytes maxL ret nm Q h sf ce sl pc ls st := by
  subst hp
  exact go_step hr fun A hx hb kk => XS.iloadN A hx rfl (Jvm.hb hb hd) hl kk
theorem go_iload {k : Nat} {v : Int32} (hd : decode bytes pc = .ok (.iload k, 2)) (hp : pc + 2 = pc') (hl : ls[k]? = some (.val (.int v))) (hr : Go l Z a0 EL n0 R own bytes maxL ret nm Q h sf ce sl pc' ls (.int v :: st)) : Go l Z a0 EL n0 R own bytes maxL ret nm Q h sf ce sl pc ls st := by
  subst hp
  exact go_step hr fun A hx hb kk => XS.iload A hx rfl (Jvm.hb hb hd) hl kk
theorem go_lloadN {k : Fin 4} {v : Int64} (hd : decode bytes pc = .ok (.lload_n k, 1)) (hp : pc + 1 = pc') (hl : ls[k.val]? = some (.val (.long v))) (hr : Go l Z a0 EL n0 R own bytes maxL ret nm Q h sf ce sl pc' ls (.long v :: st)) : Go l Z a0 EL n0 R own bytes maxL ret nm Q h sf ce sl pc ls st := by
  subst hp
  exact go_step hr fun A hx hb kk => XT.lloadN A hx rfl (Jvm.hb hb hd) hl kk
theorem go_lload {k : Nat} {v : Int64} (hd : decode bytes pc = .ok (.lload k, 2)) (hp : pc + 2 = pc') (hl : ls[k]? = some (.val (.long v))) (hr : Go l Z a0 EL n0 R own bytes maxL ret nm Q h sf ce sl pc' ls (.long v :: st)) : Go l Z a0 EL n0 R own bytes maxL ret nm Q h sf ce sl pc ls st := by
  subst hp
  exact go_step hr fun A hx hb kk => XT.lload A hx rfl (Jvm.hb hb hd) hl kk
theorem go_iconst {i : Int} (v : Int32) (hd : decode bytes pc = .ok (.iconst i, 1)) (hp : pc + 1 = pc') (hv : Int32.ofInt i = v) (hr : Go l Z a0 EL n0 R own bytes maxL ret nm Q h sf ce sl pc' ls (.int v :: st)) : Go l Z a0 EL n0 R own bytes maxL ret nm Q h sf ce sl pc ls st := by
  subst hp
  exact go_step hr fun A hx hb kk => XT.iconstV A hx rfl v (Jvm.hb hb hd) hv kk
theorem go_bipush {i : Int} (v : Int32) (hd : decode bytes pc = .ok (.bipush i, 2)) (hp : pc + 2 = pc') (hv : (Int8.ofInt i).toInt32 = v) (hr : Go l Z a0 EL n0 R own bytes maxL ret nm Q h sf ce sl pc' ls (.int v :: st)) : Go l Z a0 EL n0 R own bytes maxL ret nm Q h sf ce sl pc ls st := by
  subst hp
  exact go_step hr fun A hx hb kk => XT.bipushV A hx rfl v (Jvm.hb hb hd) hv kk
theorem go_sipush {i : Int} (v : Int32) (hd : decode bytes pc = .ok (.sipush i, 3)) (hp : pc + 3 = pc') (hv : (Int16.ofInt i).toInt32 = v) (hr : Go l Z a0 EL n0 R own bytes maxL ret nm Q h sf ce sl pc' ls (.int v :: st)) : Go l Z a0 EL n0 R own bytes maxL ret nm Q h sf ce sl pc ls st := by
  subst hp
  exact go_step hr fun A hx hb kk => XT.sipushV A hx rfl v (Jvm.hb hb hd) hv kk
theorem go_lconst {k : Fin 2} (v : Int64) (hd : decode bytes pc = .ok (.lconst k, 1)) (hp : pc + 1 = pc') (hv : Int64.ofNat k = v) (hr : Go l Z a0 EL n0 R own bytes maxL ret nm Q h sf ce sl pc' ls (.long v :: st)) : Go l Z a0 EL n0 R own bytes maxL ret nm Q h sf ce sl pc ls st := by
  subst hp
  exact go_step hr fun A hx hb kk => XT.lconstV A hx rfl v (Jvm.hb hb hd) hv kk
theorem go_aconstNull (hd : decode bytes pc = .ok (.aconst_null, 1)) (hp : pc + 1 = pc') (hr : Go l Z a0 EL n0 R own bytes maxL ret nm Q h sf ce sl pc' ls (.null :: st)) : Go l Z a0 EL n0 R own bytes maxL ret nm Q h sf ce sl pc ls st := by
  subst hp
  exact go_step hr fun A hx hb kk => XS.aconstNull A hx rfl (Jvm.hb hb hd) kk
theorem go_iadd {x y : Int32} (hd : decode bytes pc = .ok (.iadd, 1)) (hp : pc + 1 = pc') (hr : Go l Z a0 EL n0 R own bytes maxL ret nm Q h sf ce sl pc' ls (.int (x + y) :: st)) : Go l Z a0 EL n0 R own bytes maxL ret nm Q h sf ce sl pc ls (.int y :: .int x :: st) := by
  subst hp
  exact go_step hr fun A hx hb kk => XS.iadd A hx rfl (Jvm.hb hb hd) rfl kk
theorem go_isub {x y : Int32} (hd : decode bytes pc = .ok (.isub, 1)) (hp : pc + 1 = pc') (hr : Go l Z a0 EL n0 R own bytes maxL ret nm Q h sf ce sl pc' ls (.int (x - y) :: st)) : Go l Z a0 EL n0 R own bytes maxL ret nm Q h sf ce sl pc ls (.int y :: .int x :: st) := by
  subst hp
  exact go_step hr fun A hx hb kk => XS.isub A hx rfl (Jvm.hb hb hd) rfl kk
theorem go_imul {x y : Int32} (hd : decode bytes pc = .ok (.imul, 1)) (hp : pc + 1 = pc') (hr : Go l Z a0 EL n0 R own bytes maxL ret nm Q h sf ce sl pc' ls (.int (x * y) :: st)) : Go l Z a0 EL n0 R own bytes maxL ret nm Q h sf ce sl pc ls (.int y :: .int x :: st) := by
  subst hp
  exact go_step hr fun A hx hb kk => XS.imul A hx rfl (Jvm.hb hb hd) rfl kk
theorem go_iand {x y : Int32} (hd : decode bytes pc = .ok (.iand, 1)) (hp : pc + 1 = pc') (hr : Go l Z a0 EL n0 R own bytes maxL ret nm Q h sf ce sl pc' ls (.int (x &&& y) :: st)) : Go l Z a0 EL n0 R own bytes maxL ret nm Q h sf ce sl pc ls (.int y :: .int x :: st) := by
  subst hp
  exact go_step hr fun A hx hb kk => XS.iand A hx rfl (Jvm.hb hb hd) rfl kk
theorem go_ior {x y : Int32} (hd : decode bytes pc = .ok (.ior, 1)) (hp : pc + 1 = pc') (hr : Go l Z a0 EL n0 R own bytes maxL ret nm Q h sf ce sl pc' ls (.int (x ||| y) :: st)) : Go l Z a0 EL n0 R own bytes maxL ret nm Q h sf ce sl pc ls (.int y :: .int x :: st) := by
  subst hp
  exact go_step hr fun A hx hb kk => XT.ior A hx rfl (Jvm.hb hb hd) rfl kk
theorem go_ixor {x y : Int32} (hd : decode bytes pc = .ok (.ixor, 1)) (hp : pc + 1 = pc') (hr : Go l Z a0 EL n0 R own bytes maxL ret nm Q h sf ce sl pc' ls (.int (x ^^^ y) :: st)) : Go l Z a0 EL n0 R own bytes maxL ret nm Q h sf ce sl pc ls (.int y :: .int x :: st) := by
  subst hp
  exact go_step hr fun A hx hb kk => XT.ixor A hx rfl (Jvm.hb hb hd) rfl kk
theorem go_iushr {x y : Int32} (hd : decode bytes pc = .ok (.iushr, 1)) (hp : pc + 1 = pc') (hr : Go l Z a0 EL n0 R own bytes maxL ret nm Q h sf ce sl pc' ls (.int (XT.ushr x y) :: st)) : Go l Z a0 EL n0 R own bytes maxL ret nm Q h sf ce sl pc ls (.int y :: .int x :: st) := by
  subst hp
  exact go_step hr fun A hx hb kk => XT.iushr A hx rfl (Jvm.hb hb hd) rfl kk
theorem go_ishl {x y : Int32} (hd : decode bytes pc = .ok (.ishl, 1)) (hp : pc + 1 = pc') (hr : Go l Z a0 EL n0 R own bytes maxL ret nm Q h sf ce sl pc' ls (.int (x <<< (y &&& 31)) :: st)) : Go l Z a0 EL n0 R own bytes maxL ret nm Q h sf ce sl pc ls (.int y :: .int x :: st) := by
  subst hp
  exact go_step hr fun A hx hb kk => XT.ishl A hx rfl (Jvm.hb hb hd) rfl kk
theorem go_ishr {x y : Int32} (hd : decode bytes pc = .ok (.ishr, 1)) (hp : pc + 1 = pc') (hr : Go l Z a0 EL n0 R own bytes maxL ret nm Q h sf ce sl pc' ls (.int (x >>> (y &&& 31)) :: st)) : Go l Z a0 EL n0 R own bytes maxL ret nm Q h sf ce sl pc ls (.int y :: .int x :: st) := by
  subst hp
  exact go_step hr fun A hx hb kk => XT.ishr A hx rfl (Jvm.hb hb hd) rfl kk
theorem go_ineg {x : Int32} (hd : decode bytes pc = .ok (.ineg, 1)) (hp : pc + 1 = pc') (hr : Go l Z a0 EL n0 R own bytes maxL ret nm Q h sf ce sl pc' ls (.int (-x) :: st)) : Go l Z a0 EL n0 R own bytes maxL ret nm Q h sf ce sl pc ls (.int x :: st) := by
  subst hp
  exact go_step hr fun A hx hb kk => XS.ineg A hx rfl (Jvm.hb hb hd) rfl kk
theorem go_i2b {x : Int32} (hd : decode bytes pc = .ok (.i2b, 1)) (hp : pc + 1 = pc') (hr : Go l Z a0 EL n0 R own bytes maxL ret nm Q h sf ce sl pc' ls (.int x.toInt8.toInt32 :: st)) : Go l Z a0 EL n0 R own bytes maxL ret nm Q h sf ce sl pc ls (.int x :: st) := by
  subst hp
  exact go_step hr fun A hx hb kk => XT.i2b A hx rfl (Jvm.hb hb hd) rfl kk
theorem go_i2c {x : Int32} (hd : decode bytes pc = .ok (.i2c, 1)) (hp : pc + 1 = pc') (hr : Go l Z a0 EL n0 R own bytes maxL ret nm Q h sf ce sl pc' ls (.int x.toUInt32.toUInt16.toUInt32.toInt32 :: st)) : Go l Z a0 EL n0 R own bytes maxL ret nm Q h sf ce sl pc ls (.int x :: st) := by
  subst hp
  exact go_step hr fun A hx hb kk => XT.i2c A hx rfl (Jvm.hb hb hd) rfl kk
theorem go_i2l {x : Int32} (hd : decode bytes pc = .ok (.i2l, 1)) (hp : pc + 1 = pc') (hr : Go l Z a0 EL n0 R own bytes maxL ret nm Q h sf ce sl pc' ls (.long x.toInt64 :: st)) : Go l Z a0 EL n0 R own bytes maxL ret nm Q h sf ce sl pc ls (.int x :: st) := by
  subst hp
  exact go_step hr fun A hx hb kk => XT.i2l A hx rfl (Jvm.hb hb hd) rfl kk
theorem go_l2i {x : Int64} (hd : decode bytes pc = .ok (.l2i, 1)) (hp : pc + 1 = pc') (hr : Go l Z a0 EL n0 R own bytes maxL ret nm Q h sf ce sl pc' ls (.int x.toInt32 :: st)) : Go l Z a0 EL n0 R own bytes maxL ret nm Q h sf ce sl pc ls (.long x :: st) := by
  subst hp
  exact go_step hr fun A hx hb kk => XT.l2i A hx rfl (Jvm.hb hb hd) rfl kk
theorem go_land {x y : Int64} (hd : decode bytes pc = .ok (.land, 1)) (hp : pc + 1 = pc') (hr : Go l Z a0 EL n0 R own bytes maxL ret nm Q h sf ce sl pc' ls (.long (x &&& y) :: st)) : Go l Z a0 EL n0 R own bytes maxL ret nm Q h sf ce sl pc ls (.long y :: .long x :: st) := by
  subst hp
  exact go_step hr fun A hx hb kk => XT.land A hx rfl (Jvm.hb hb hd) rfl kk
theorem go_lushr {x : Int64} {y : Int32} (hd : decode bytes pc = .ok (.lushr, 1)) (hp : pc + 1 = pc') (hr : Go l Z a0 EL n0 R own bytes maxL ret nm Q h sf ce sl pc' ls (.long (XT.ushrL x y) :: st)) : Go l Z a0 EL n0 R own bytes maxL ret nm Q h sf ce sl pc ls (.int y :: .long x :: st) := by
  subst hp
  exact go_step hr fun A hx hb kk => XT.lushr A hx rfl (Jvm.hb hb hd) rfl kk
theorem go_dup {x : Value} (hd : decode bytes pc = .ok (.dup, 1)) (hp : pc + 1 = pc') (hc : x.category = 1) (hr : Go l Z a0 EL n0 R own bytes maxL ret nm Q h sf ce sl pc' ls (x :: x :: st)) : Go l Z a0 EL n0 R own bytes maxL ret nm Q h sf ce sl pc ls (x :: st) := by
  subst hp
  exact go_step hr fun A hx hb kk => XS.dup A hx rfl (Jvm.hb hb hd) rfl hc kk
theorem go_pop {x : Value} (hd : decode bytes pc = .ok (.pop, 1)) (hp : pc + 1 = pc') (hc : x.category = 1) (hr : Go l Z a0 EL n0 R own bytes maxL ret nm Q h sf ce sl pc' ls st) : Go l Z a0 EL n0 R own bytes maxL ret nm Q h sf ce sl pc ls (x :: st) := by
  subst hp
  exact go_step hr fun A hx hb kk => XT.pop A hx rfl (Jvm.hb hb hd) rfl hc kk
theorem go_dupX1 {x y : Value} (hd : decode bytes pc = .ok (.dup_x1, 1)) (hp : pc + 1 = pc') (hc : x.category = 1) (hc' : y.category = 1) (hr : Go l Z a0 EL n0 R own bytes maxL ret nm Q h sf ce sl pc' ls (x :: y :: x :: st)) : Go l Z a0 EL n0 R own bytes maxL ret nm Q h sf ce sl pc ls (x :: y :: st) := by
  subst hp
  exact go_step hr fun A hx hb kk => XT.dupX1 A hx rfl (Jvm.hb hb hd) rfl hc hc' kk
theorem go_dup2 {x y : Value} (hd : decode bytes pc = .ok (.dup2, 1)) (hp : pc + 1 = pc') (hc : x.category = 1) (hc' : y.category = 1) (hr : Go l Z a0 EL n0 R own bytes maxL ret nm Q h sf ce sl pc' ls (x :: y :: x :: y :: st)) : Go l Z a0 EL n0 R own bytes maxL ret nm Q h sf ce sl pc ls (x :: y :: st) := by
  subst hp
  exact go_step hr fun A hx hb kk => XT.dup2 A hx rfl (Jvm.hb hb hd) rfl hc hc' kk
theorem go_istoreN {k : Fin 4} {x : Int32} (hd : decode bytes pc = .ok (.istore_n k, 1)) (hp : pc + 1 = pc') (ls' : Array Slot) (hl : storeLocals ls k.val (.int x) = some ls') (hr : Go l Z a0 EL n0 R own bytes maxL ret nm Q h sf ce sl pc' ls' st) : Go l Z a0 EL n0 R own bytes maxL ret nm Q h sf ce sl pc ls (.int x :: st) := by
  subst hp
  exact go_step hr fun A hx hb kk => XS.istoreN A hx rfl (Jvm.hb hb hd) rfl hl kk
theorem go_istore {k : Nat} {x : Int32} (hd : decode bytes pc = .ok (.istore k, 2)) (hp : pc + 2 = pc') (ls' : Array Slot) (hl : storeLocals ls k (.int x) = some ls') (hr : Go l Z a0 EL n0 R own bytes maxL ret nm Q h sf ce sl pc' ls' st) : Go l Z a0 EL n0 R own bytes maxL ret nm Q h sf ce sl pc ls (.int x :: st) := by
  subst hp
  exact go_step hr fun A hx hb kk => XS.istore A hx rfl (Jvm.hb hb hd) rfl hl kk
theorem go_astoreN {k : Fin 4} {x : Value} (hd : decode bytes pc = .ok (.astore_n k, 1)) (hp : pc + 1 = pc') (ls' : Array Slot) (hv : x.isRef = true) (hl : storeLocals ls k.val x = some ls') (hr : Go l Z a0 EL n0 R own bytes maxL ret nm Q h sf ce sl pc' ls' st) : Go l Z a0 EL n0 R own bytes maxL ret nm Q h sf ce sl pc ls (x :: st) := by
  subst hp
  exact go_step hr fun A hx hb kk => XS.astoreN A hx rfl (Jvm.hb hb hd) rfl hv hl kk
theorem go_astore {k : Nat} {x : Value} (hd : decode bytes pc = .ok (.astore k, 2)) (hp : pc + 2 = pc') (ls' : Array Slot) (hv : x.isRef = true) (hl : storeLocals ls k x = some ls') (hr : Go l Z a0 EL n0 R own bytes maxL ret nm Q h sf ce sl pc' ls' st) : Go l Z a0 EL n0 R own bytes maxL ret nm Q h sf ce sl pc ls (x :: st) := by
  subst hp
  exact go_step hr fun A hx hb kk => XS.astore A hx rfl (Jvm.hb hb hd) rfl hv hl kk
theorem go_lstoreN {k : Fin 4} {x : Int64} (hd : decode bytes pc = .ok (.lstore_n k, 1)) (hp : pc + 1 = pc') (ls' : Array Slot) (hl : storeLocals ls k.val (.long x) = some ls') (hr : Go l Z a0 EL n0 R own bytes maxL ret nm Q h sf ce sl pc' ls' st) : Go l Z a0 EL n0 R own bytes maxL ret nm Q h sf ce sl pc ls (.long x :: st) := by
  subst hp
  exact go_step hr fun A hx hb kk => XT.lstoreN A hx rfl (Jvm.hb hb hd) rfl hl kk
theorem go_lstore {k : Nat} {x : Int64} (hd : decode bytes pc = .ok (.lstore k, 2)) (hp : pc + 2 = pc') (ls' : Array Slot) (hl : storeLocals ls k (.long x) = some ls') (hr : Go l Z a0 EL n0 R own bytes maxL ret nm Q h sf ce sl pc' ls' st) : Go l Z a0 EL n0 R own bytes maxL ret nm Q h sf ce sl pc ls (.long x :: st) := by
  subst hp
  exact go_step hr fun A hx hb kk => XT.lstore A hx rfl (Jvm.hb hb hd) rfl hl kk
theorem go_iinc {k : Nat} {cst : Int} {x : Int32} (v : Int32) (hd : decode bytes pc = .ok (.iinc k cst, 3)) (hp : pc + 3 = pc') (ls' : Array Slot) (hv : Int32.ofInt cst = v) (hl : ls[k]? = some (.val (.int x))) (hl' : storeLocals ls k (.int (x + v)) = some ls') (hr : Go l Z a0 EL n0 R own bytes maxL ret nm Q h sf ce sl pc' ls' st) : Go l Z a0 EL n0 R own bytes maxL ret nm Q h sf ce sl pc ls st := by
  subst hp
  exact go_step hr fun A hx hb kk => XT.iincV A hx rfl v (Jvm.hb hb hd) hv hl hl' kk
theorem go_goto {o : Int} (hd : decode bytes pc = .ok (.goto o, 3)) (ho : 0 ≤ (pc : Int) + o) (ht : ((pc : Int) + o).toNat = pt) (hr : Go l Z a0 EL n0 R own bytes maxL ret nm Q h sf ce sl pt ls st) : Go l Z a0 EL n0 R own bytes maxL ret nm Q h sf ce sl pc ls st := go_step hr fun A hx hb kk => XS.goto A hx rfl rfl (Jvm.hb hb hd) ho ht kk
theorem go_icmp_eq_t {o : Int} {x y : Int32} (hd : decode bytes pc = .ok (.if_icmp .eq o, 3)) (ho : 0 ≤ (pc : Int) + o) (ht : ((pc : Int) + o).toNat = pt) (hc : x = y) (hr : Go l Z a0 EL n0 R own bytes maxL ret nm Q h sf ce sl pt ls st) : Go l Z a0 EL n0 R own bytes maxL ret nm Q h sf ce sl pc ls (.int y :: .int x :: st) := go_step hr fun A hx hb kk => XS.icmpYes A hx rfl rfl (Jvm.hb hb hd) rfl (XT.ii_eq_t hc) ho ht kk
theorem go_icmp_eq_f {o : Int} {x y : Int32} (hd : decode bytes pc = .ok (.if_icmp .eq o, 3)) (hp : pc + 3 = pc') (hc : ¬ x = y) (hr : Go l Z a0 EL n0 R own bytes maxL ret nm Q h sf ce sl pc' ls st) : Go l Z a0 EL n0 R own bytes maxL ret nm Q h sf ce sl pc ls (.int y :: .int x :: st) := by
  subst hp
  exact go_step hr fun A hx hb kk => XS.icmpNo A hx rfl (Jvm.hb hb hd) rfl (XT.ii_eq_f hc) kk
theorem go_if_eq_t {o : Int} {x : Int32} (hd : decode bytes pc = .ok (.ifCond .eq o, 3)) (ho : 0 ≤ (pc : Int) + o) (ht : ((pc : Int) + o).toNat = pt) (hc : x = 0) (hr : Go l Z a0 EL n0 R own bytes maxL ret nm Q h sf ce sl pt ls st) : Go l Z a0 EL n0 R own bytes maxL ret nm Q h sf ce sl pc ls (.int x :: st) := go_step hr fun A hx hb kk => XS.ifYes A hx rfl rfl (Jvm.hb hb hd) rfl (XT.i0_eq_t hc) ho ht kk
theorem go_if_eq_f {o : Int} {x : Int32} (hd : decode bytes pc = .ok (.ifCond .eq o, 3)) (hp : pc + 3 = pc') (hc : ¬ x = 0) (hr : Go l Z a0 EL n0 R own bytes maxL ret nm Q h sf ce sl pc' ls st) : Go l Z a0 EL n0 R own bytes maxL ret nm Q h sf ce sl pc ls (.int x :: st) := by
  subst hp
  exact go_step hr fun A hx hb kk => XS.ifNo A hx rfl (Jvm.hb hb hd) rfl (XT.i0_eq_f hc) kk
theorem go_icmp_ne_t {o : Int} {x y : Int32} (hd : decode bytes pc = .ok (.if_icmp .ne o, 3)) (ho : 0 ≤ (pc : Int) + o) (ht : ((pc : Int) + o).toNat = pt) (hc : ¬ x = y) (hr : Go l Z a0 EL n0 R own bytes maxL ret nm Q h sf ce sl pt ls st) : Go l Z a0 EL n0 R own bytes maxL ret nm Q h sf ce sl pc ls (.int y :: .int x :: st) := go_step hr fun A hx hb kk => XS.icmpYes A hx rfl rfl (Jvm.hb hb hd) rfl (XT.ii_ne_t hc) ho ht kk
theorem go_icmp_ne_f {o : Int} {x y : Int32} (hd : decode bytes pc = .ok (.if_icmp .ne o, 3)) (hp : pc + 3 = pc') (hc : x = y) (hr : Go l Z a0 EL n0 R own bytes maxL ret nm Q h sf ce sl pc' ls st) : Go l Z a0 EL n0 R own bytes maxL ret nm Q h sf ce sl pc ls (.int y :: .int x :: st) := by
  subst hp
  exact go_step hr fun A hx hb kk => XS.icmpNo A hx rfl (Jvm.hb hb hd) rfl (XT.ii_ne_f hc) kk
theorem go_if_ne_t {o : Int} {x : Int32} (hd : decode bytes pc = .ok (.ifCond .ne o, 3)) (ho : 0 ≤ (pc : Int) + o) (ht : ((pc : Int) + o).toNat = pt) (hc : ¬ x = 0) (hr : Go l Z a0 EL n0 R own bytes maxL ret nm Q h sf ce sl pt ls st) : Go l Z a0 EL n0 R own bytes maxL ret nm Q h sf ce sl pc ls (.int x :: st) := go_step hr fun A hx hb kk => XS.ifYes A hx rfl rfl (Jvm.hb hb hd) rfl (XT.i0_ne_t hc) ho ht kk
theorem go_if_ne_f {o : Int} {x : Int32} (hd : decode bytes pc = .ok (.ifCond .ne o, 3)) (hp : pc + 3 = pc') (hc : x = 0) (hr : Go l Z a0 EL n0 R own bytes maxL ret nm Q h sf ce sl pc' ls st) : Go l Z a0 EL n0 R own bytes maxL ret nm Q h sf ce sl pc ls (.int x :: st) := by
  subst hp
  exact go_step hr fun A hx hb kk => XS.ifNo A hx rfl (Jvm.hb hb hd) rfl (XT.i0_ne_f hc) kk
theorem go_icmp_lt_t {o : Int} {x y : Int32} (hd : decode bytes pc = .ok (.if_icmp .lt o, 3)) (ho : 0 ≤ (pc : Int) + o) (ht : ((pc : Int) + o).toNat = pt) (hc : x < y) (hr : Go l Z a0 EL n0 R own bytes maxL ret nm Q h sf ce sl pt ls st) : Go l Z a0 EL n0 R own bytes maxL ret nm Q h sf ce sl pc ls (.int y :: .int x :: st) := go_step hr fun A hx hb kk => XS.icmpYes A hx rfl rfl (Jvm.hb hb hd) rfl (XT.ii_lt_t hc) ho ht kk
theorem go_icmp_lt_f {o : Int} {x y : Int32} (hd : decode bytes pc = .ok (.if_icmp .lt o, 3)) (hp : pc + 3 = pc') (hc : ¬ x < y) (hr : Go l Z a0 EL n0 R own bytes maxL ret nm Q h sf ce sl pc' ls st) : Go l Z a0 EL n0 R own bytes maxL ret nm Q h sf ce sl pc ls (.int y :: .int x :: st) := by
  subst hp
  exact go_step hr fun A hx hb kk => XS.icmpNo A hx rfl (Jvm.hb hb hd) rfl (XT.ii_lt_f hc) kk
theorem go_if_lt_t {o : Int} {x : Int32} (hd : decode bytes pc = .ok (.ifCond .lt o, 3)) (ho : 0 ≤ (pc : Int) + o) (ht : ((pc : Int) + o).toNat = pt) (hc : x < 0) (hr : Go l Z a0 EL n0 R own bytes maxL ret nm Q h sf ce sl pt ls st) : Go l Z a0 EL n0 R own bytes maxL ret nm Q h sf ce sl pc ls (.int x :: st) := go_step hr fun A hx hb kk => XS.ifYes A hx rfl rfl (Jvm.hb hb hd) rfl (XT.i0_lt_t hc) ho ht kk
theorem go_if_lt_f {o : Int} {x : Int32} (hd : decode bytes pc = .ok (.ifCond .lt o, 3)) (hp : pc + 3 = pc') (hc : ¬ x < 0) (hr : Go l Z a0 EL n0 R own bytes maxL ret nm Q h sf ce sl pc' ls st) : Go l Z a0 EL n0 R own bytes maxL ret nm Q h sf ce sl pc ls (.int x :: st) := by
  subst hp
  exact go_step hr fun A hx hb kk => XS.ifNo A hx rfl (Jvm.hb hb hd) rfl (XT.i0_lt_f hc) kk
theorem go_icmp_ge_t {o : Int} {x y : Int32} (hd : decode bytes pc = .ok (.if_icmp .ge o, 3)) (ho : 0 ≤ (pc : Int) + o) (ht : ((pc : Int) + o).toNat = pt) (hc : ¬ x < y) (hr : Go l Z a0 EL n0 R own bytes maxL ret nm Q h sf ce sl pt ls st) : Go l Z a0 EL n0 R own bytes maxL ret nm Q h sf ce sl pc ls (.int y :: .int x :: st) := go_step hr fun A hx hb kk => XS.icmpYes A hx rfl rfl (Jvm.hb hb hd) rfl (XT.ii_ge_t hc) ho ht kk
theorem go_icmp_ge_f {o : Int} {x y : Int32} (hd : decode bytes pc = .ok (.if_icmp .ge o, 3)) (hp : pc + 3 = pc') (hc : x < y) (hr : Go l Z a0 EL n0 R own bytes maxL ret nm Q h sf ce sl pc' ls st) : Go l Z a0 EL n0 R own bytes maxL ret nm Q h sf ce sl pc ls (.int y :: .int x :: st) := by
  subst hp
  exact go_step hr fun A hx hb kk => XS.icmpNo A hx rfl (Jvm.hb hb hd) rfl (XT.ii_ge_f hc) kk
theorem go_if_ge_t {o : Int} {x : Int32} (hd : decode bytes pc = .ok (.ifCond .ge o, 3)) (ho : 0 ≤ (pc : Int) + o) (ht : ((pc : Int) + o).toNat = pt) (hc : ¬ x < 0) (hr : Go l Z a0 EL n0 R own bytes maxL ret nm Q h sf ce sl pt ls st) : Go l Z a0 EL n0 R own bytes maxL ret nm Q h sf ce sl pc ls (.int x :: st) := go_step hr fun A hx hb kk => XS.ifYes A hx rfl rfl (Jvm.hb hb hd) rfl (XT.i0_ge_t hc) ho ht kk
theorem go_if_ge_f {o : Int} {x : Int32} (hd : decode bytes pc = .ok (.ifCond .ge o, 3)) (hp : pc + 3 = pc') (hc : x < 0) (hr : Go l Z a0 EL n0 R own bytes maxL ret nm Q h sf ce sl pc' ls st) : Go l Z a0 EL n0 R own bytes maxL ret nm Q h sf ce sl pc ls (.int x :: st) := by
  subst hp
  exact go_step hr fun A hx hb kk => XS.ifNo A hx rfl (Jvm.hb hb hd) rfl (XT.i0_ge_f hc) kk
theorem go_icmp_gt_t {o : Int} {x y : Int32} (hd : decode bytes pc = .ok (.if_icmp .gt o, 3)) (ho : 0 ≤ (pc : Int) + o) (ht : ((pc : Int) + o).toNat = pt) (hc : y < x) (hr : Go l Z a0 EL n0 R own bytes maxL ret nm Q h sf ce sl pt ls st) : Go l Z a0 EL n0 R own bytes maxL ret nm Q h sf ce sl pc ls (.int y :: .int x :: st) := go_step hr fun A hx hb kk => XS.icmpYes A hx rfl rfl (Jvm.hb hb hd) rfl (XT.ii_gt_t hc) ho ht kk
theorem go_icmp_gt_f {o : Int} {x y : Int32} (hd : decode bytes pc = .ok (.if_icmp .gt o, 3)) (hp : pc + 3 = pc') (hc : ¬ y < x) (hr : Go l Z a0 EL n0 R own bytes maxL ret nm Q h sf ce sl pc' ls st) : Go l Z a0 EL n0 R own bytes maxL ret nm Q h sf ce sl pc ls (.int y :: .int x :: st) := by
  subst hp
  exact go_step hr fun A hx hb kk => XS.icmpNo A hx rfl (Jvm.hb hb hd) rfl (XT.ii_gt_f hc) kk
theorem go_if_gt_t {o : Int} {x : Int32} (hd : decode bytes pc = .ok (.ifCond .gt o, 3)) (ho : 0 ≤ (pc : Int) + o) (ht : ((pc : Int) + o).toNat = pt) (hc : 0 < x) (hr : Go l Z a0 EL n0 R own bytes maxL ret nm Q h sf ce sl pt ls st) : Go l Z a0 EL n0 R own bytes maxL ret nm Q h sf ce sl pc ls (.int x :: st) := go_step hr fun A hx hb kk => XS.ifYes A hx rfl rfl (Jvm.hb hb hd) rfl (XT.i0_gt_t hc) ho ht kk
theorem go_if_gt_f {o : Int} {x : Int32} (hd : decode bytes pc = .ok (.ifCond .gt o, 3)) (hp : pc + 3 = pc') (hc : ¬ 0 < x) (hr : Go l Z a0 EL n0 R own bytes maxL ret nm Q h sf ce sl pc' ls st) : Go l Z a0 EL n0 R own bytes maxL ret nm Q h sf ce sl pc ls (.int x :: st) := by
  subst hp
  exact go_step hr fun A hx hb kk => XS.ifNo A hx rfl (Jvm.hb hb hd) rfl (XT.i0_gt_f hc) kk
theorem go_icmp_le_t {o : Int} {x y : Int32} (hd : decode bytes pc = .ok (.if_icmp .le o, 3)) (ho : 0 ≤ (pc : Int) + o) (ht : ((pc : Int) + o).toNat = pt) (hc : ¬ y < x) (hr : Go l Z a0 EL n0 R own bytes maxL ret nm Q h sf ce sl pt ls st) : Go l Z a0 EL n0 R own bytes maxL ret nm Q h sf ce sl pc ls (.int y :: .int x :: st) := go_step hr fun A hx hb kk => XS.icmpYes A hx rfl rfl (Jvm.hb hb hd) rfl (XT.ii_le_t hc) ho ht kk
theorem go_icmp_le_f {o : Int} {x y : Int32} (hd : decode bytes pc = .ok (.if_icmp .le o, 3)) (hp : pc + 3 = pc') (hc : y < x) (hr : Go l Z a0 EL n0 R own bytes maxL ret nm Q h sf ce sl pc' ls st) : Go l Z a0 EL n0 R own bytes maxL ret nm Q h sf ce sl pc ls (.int y :: .int x :: st) := by
  subst hp
  exact go_step hr fun A hx hb kk => XS.icmpNo A hx rfl (Jvm.hb hb hd) rfl (XT.ii_le_f hc) kk
theorem go_if_le_t {o : Int} {x : Int32} (hd : decode bytes pc = .ok (.ifCond .le o, 3)) (ho : 0 ≤ (pc : Int) + o) (ht : ((pc : Int) + o).toNat = pt) (hc : ¬ 0 < x) (hr : Go l Z a0 EL n0 R own bytes maxL ret nm Q h sf ce sl pt ls st) : Go l Z a0 EL n0 R own bytes maxL ret nm Q h sf ce sl pc ls (.int x :: st) := go_step hr fun A hx hb kk => XS.ifYes A hx rfl rfl (Jvm.hb hb hd) rfl (XT.i0_le_t hc) ho ht kk
theorem go_if_le_f {o : Int} {x : Int32} (hd : decode bytes pc = .ok (.ifCond .le o, 3)) (hp : pc + 3 = pc') (hc : 0 < x) (hr : Go l Z a0 EL n0 R own bytes maxL ret nm Q h sf ce sl pc' ls st) : Go l Z a0 EL n0 R own bytes maxL ret nm Q h sf ce sl pc ls (.int x :: st) := by
  subst hp
  exact go_step hr fun A hx hb kk => XS.ifNo A hx rfl (Jvm.hb hb hd) rfl (XT.i0_le_f hc) kk
theorem go_ifnull_t {o : Int} (hd : decode bytes pc = .ok (.ifnull o, 3)) (ho : 0 ≤ (pc : Int) + o) (ht : ((pc : Int) + o).toNat = pt) (hr : Go l Z a0 EL n0 R own bytes maxL ret nm Q h sf ce sl pt ls st) : Go l Z a0 EL n0 R own bytes maxL ret nm Q h sf ce sl pc ls (.null :: st) := go_step hr fun A hx hb kk => XS.ifnullYes A hx rfl rfl (Jvm.hb hb hd) rfl ho ht kk
theorem go_ifnull_f {o : Int} {b : Addr} (hd : decode bytes pc = .ok (.ifnull o, 3)) (hp : pc + 3 = pc') (hr : Go l Z a0 EL n0 R own bytes maxL ret nm Q h sf ce sl pc' ls st) : Go l Z a0 EL n0 R own bytes maxL ret nm Q h sf ce sl pc ls (.ref b :: st) := by
  subst hp
  exact go_step hr fun A hx hb kk => XS.ifnullNo A hx rfl (Jvm.hb hb hd) rfl kk
theorem go_ifnonnull_t {o : Int} {b : Addr} (hd : decode bytes pc = .ok (.ifnonnull o, 3)) (ho : 0 ≤ (pc : Int) + o) (ht : ((pc : Int) + o).toNat = pt) (hr : Go l Z a0 EL n0 R own bytes maxL ret nm Q h sf ce sl pt ls st) : Go l Z a0 EL n0 R own bytes maxL ret nm Q h sf ce sl pc ls (.ref b :: st) := go_step hr fun A hx hb kk => XT.ifnonnullYes A hx rfl rfl (Jvm.hb hb hd) rfl ho ht kk
theorem go_ifnonnull_f {o : Int} (hd : decode bytes pc = .ok (.ifnonnull o, 3)) (hp : pc + 3 = pc') (hr : Go l Z a0 EL n0 R own bytes maxL ret nm Q h sf ce sl pc' ls st) : Go l Z a0 EL n0 R own bytes maxL ret nm Q h sf ce sl pc ls (.null :: st) := by
  subst hp
  exact go_step hr fun A hx hb kk => XT.ifnonnullNo A hx rfl (Jvm.hb hb hd) rfl kk
theorem go_irem {x y : Int32} (hd : decode bytes pc = .ok (.irem, 1)) (hp : pc + 1 = pc') (hy : y ≠ 0) (hr : Go l Z a0 EL n0 R own bytes maxL ret nm Q h sf ce sl pc' ls (.int (x % y) :: st)) : Go l Z a0 EL n0 R own bytes maxL ret nm Q h sf ce sl pc ls (.int y :: .int x :: st) := by
  subst hp
  exact go_move hr fun {p e s m args below meth c T locs} X hx hby hml eT hZ ho hOld => ⟨T, X, eT, fun t kk => iremM X hx (g := mkF m pc ls (.int y :: .int x :: st)) rfl (Jvm.hb hby hd) rfl hy kk⟩
theorem go_acmp {cd : ACond} {x y : Value} {o : Int} (same : Bool) (hd : decode bytes pc = .ok (.if_acmp cd o, 3)) (h1 : x.isRef = true) (h2 : y.isRef = true) (hq : decide (x = y) = same) (ho : 0 ≤ (pc : Int) + o) (ht : pt = if acV cd same = true then ((pc : Int) + o).toNat else pc + 3) (hr : Go l Z a0 EL n0 R own bytes maxL ret nm Q h sf ce sl pt ls st) : Go l Z a0 EL n0 R own bytes maxL ret nm Q h sf ce sl pc ls (y :: x :: st) :=
  go_move hr fun {p e s m args below meth c T locs} X hx hby hml eT hZ ho' hOld => ⟨T, X, eT, fun t kk => RoadKit.acmp X hx (g := mkF m pc ls (y :: x :: st)) rfl h1 h2 rfl (Jvm.hb hby hd) rfl hq ho ht kk⟩
/-- a call by its contract -/
theorem go_call {R' : Room} {y : MethodName} {bY : ByteArray} {mY : Nat} {rY : Option FieldType} {as : List Value} {sfY : List Addr} {QY : Option Value → Heap → List Addr → Prop} {len W : Nat}
    (hC : Con l Z EL n0 y bY mY rY [] R' as.toArray h sfY QY) (hsf : ∀ x ∈ sfY, x ∈ sf) (wc : (Jvm.Cond.code y bY mY rY).before a0 Z = true) (wz : (Jvm.Cond.initialized y.cls).before a0 Z = true)
    (hf : R'.frames + 1 ≤ R.frames) (hl : W + (mY + 11) + R'.locals ≤ R.locals) (hc : ce + R'.cells ≤ R.cells) (hs : sl + R'.slots ≤ R.slots)
    (k : ∀ {p : Program} {e : Env} {s : State} {m : MethodId} {args : Array Value} {below : List Frame} {meth : Method} {c : Code} {T : State} {locs : List Loc} {Pre : Free.Pt → Array Value → Prop} {Post : Free.Pt → Array Value → Option Value → Free.Pt → Prop}, Stand p l e R s m args below meth c T locs ce sl → p.tables.exec = Jvm.exec → c.code = bytes → c.maxLocals = maxL → T.heap = h → Z.Warmed39 s.vm → s.vm.findClass own = some m.cls →
      BackS l R p e below s args y len W Pre Post → (∀ vm₁, s.WarmedH vm₁ → Pre ⟨T.setVm vm₁, locs, ce, sl⟩ as.toArray) →
      ∃ (v : Option Value) (vm₁ : Vm) (B : Free.Pt), s.WarmedH vm₁ ∧ Stand p l e R (s.setVm B.U.vm) m args below meth c B.U B.locs B.cells B.slots ∧ s.Since B.U.vm B.U.heap.size ∧ T.heap.size ≤ B.U.heap.size ∧ Post ⟨T.setVm vm₁, locs, ce, sl⟩ as.toArray v B ∧
        Steps p.tables e below (T.setTop (mkF m pc ls st)) (B.U.setTop (mkF m pc' ls (v.toList ++ rest))))
    (hr : ∀ v h' sf', QY v h' sf' → Go l Z a0 EL n0 R own bytes maxL ret nm Q h' (sf' ++ sf) (ce + R'.cells) (sl + R'.slots) pc' ls (v.toList ++ rest)) :
    Go l Z a0 EL n0 R own bytes maxL ret nm Q h sf ce sl pc ls st := by
  intro p e s m args below meth c T W'
  obtain ⟨⟨hx, hby, hml, hret, hnm, hlk, hEL, hOld⟩, vm0, locs, k0, X, eT, hS, hk, hZ, hown, N, C, O⟩ := W'
  have hB := back_of (p := p) (e := e) (s := s) (args := args) (below := below) (R := R) (W := W) (len := len) hC hZ wc wz hf hl hEL C.1 (O.sub hsf) hOld
  obtain ⟨v, vm₁, ⟨U, Lc, kc, nc⟩, -, X', hS', hg, ⟨L, sf', q, fr, ow, ol, e1, e2, e3, ch⟩, st'⟩ := k (s := s.setVm vm0) X hx hby hml eT hZ hown hB (fun vm₁ _ => ⟨rfl, eT, hc, hs⟩)
  obtain ⟨X2, hS2, hZ2, hown2⟩ := rebS (own := own) (Z := Z) hS (Nat.le_trans hk (Nat.le_of_eq (by rw [eT]))) X' hS' hg hZ hown
  dsimp only [Free.Pt.U, Free.Pt.locs, Free.Pt.cells, Free.Pt.slots] at X2 hS2 hZ2 hown2 q ow ol e1 e2 e3 ch st'
  subst e1 e2 e3
  obtain ⟨t, o, h1, h2⟩ := hr v U.heap sf' q p e s m args below meth c U ⟨⟨hx, hby, hml, hret, hnm, hlk, hEL, ol⟩, U.vm, locs ++ L, U.heap.size, X2, rfl, hS2, Nat.le_refl _, hZ2, hown2, N.app fr, C.trans ch, ow.app (O.mv ch)⟩
  exact ⟨t, o, st'.trans h1, h2⟩
theorem go_static {R' : Room} {y : MethodName} {bY : ByteArray} {mY : Nat} {rY : Option FieldType} {sfY : List Addr} {QY : Option Value → Heap → List Addr → Prop} {idx : Nat} (as rest : List Value) (W : Nat)
    (hd : decode bytes pc = .ok (.invokestatic idx, 3)) (hp : pc + 3 = pc') (w1 : (Jvm.Cond.methodLink own idx y).before a0 Z = true) (w2 : (Jvm.Cond.static y).before a0 Z = true) (wz : (Jvm.Cond.initialized y.cls).before a0 Z = true) (wc : (Jvm.Cond.code y bY mY rY).before a0 Z = true)
    (hC : Con l Z EL n0 y bY mY rY [] R' as.toArray h sfY QY) (hsf : ∀ x ∈ sfY, x ∈ sf) (hlen : ∀ sig, parseMethodDescriptor y.desc = some sig → as.length = sig.parameters.length) (hst : st = as.reverse ++ rest) (hsz : ls.size = maxL) (hW : (rest.map fun v => v.category).sum = W)
    (hy : y.cls ≠ "java/lang/invoke/MethodHandle" ∧ y.cls ≠ "java/lang/invoke/VarHandle")
    (hf : R'.frames + 1 ≤ R.frames) (hl : W + (mY + 11) + R'.locals ≤ R.locals) (hc : ce + R'.cells ≤ R.cells) (hs : sl + R'.slots ≤ R.slots)
    (hr : ∀ v h' sf', QY v h' sf' → Go l Z a0 EL n0 R own bytes maxL ret nm Q h' (sf' ++ sf) (ce + R'.cells) (sl + R'.slots) pc' ls (v.toList ++ rest)) :
    Go l Z a0 EL n0 R own bytes maxL ret nm Q h sf ce sl pc ls st := by
  subst hp hst
  exact go_call (len := 3) (W := W) hC hsf wc wz hf hl hc hs (fun {p e s m args below meth c T locs Pre Post} X hx hby hml eT hZ ho hK hpre =>
    callSS X hx ho (mvT hZ w1) (mvT hZ w2) (mvT hZ wz) (mvT hZ wc) hy hK (g := mkF m pc ls (as.reverse ++ rest)) rfl (by rw [hml]; exact hsz) hlen rfl (by show 2 * 0 + (rest.map fun v => v.category).sum ≤ W; omega) (Jvm.hb hby hd) hpre) hr
theorem go_special {R' : Room} {y : MethodName} {bY : ByteArray} {mY : Nat} {sfY : List Addr} {QY : Option Value → Heap → List Addr → Prop} {idx : Nat} (a : Addr) (as rest : List Value) (W : Nat)
    (hd : decode bytes pc = .ok (.invokespecial idx, 3)) (hp : pc + 3 = pc') (hy1 : y.name = "<init>") (w1 : (Jvm.Cond.methodLink own idx y).before a0 Z = true) (w2 : (Jvm.Cond.instanceMethod y).before a0 Z = true) (wz : (Jvm.Cond.initialized y.cls).before a0 Z = true) (wc : (Jvm.Cond.code y bY mY none).before a0 Z = true)
    (hC : Con l Z EL n0 y bY mY none [] R' (.ref a :: as).toArray h sfY QY) (hsf : ∀ x ∈ sfY, x ∈ sf) (hlen : ∀ sig, parseMethodDescriptor y.desc = some sig → as.length = sig.parameters.length) (hst : st = as.reverse ++ .ref a :: rest) (hsz : ls.size = maxL) (hW : (rest.map fun v => v.category).sum = W)
    (hy : y.cls ≠ "java/lang/invoke/MethodHandle" ∧ y.cls ≠ "java/lang/invoke/VarHandle")
    (hf : R'.frames + 1 ≤ R.frames) (hl : W + (mY + 11) + R'.locals ≤ R.locals) (hc : ce + R'.cells ≤ R.cells) (hs : sl + R'.slots ≤ R.slots)
    (hr : ∀ v h' sf', QY v h' sf' → Go l Z a0 EL n0 R own bytes maxL ret nm Q h' (sf' ++ sf) (ce + R'.cells) (sl + R'.slots) pc' ls (v.toList ++ rest)) :
    Go l Z a0 EL n0 R own bytes maxL ret nm Q h sf ce sl pc ls st := by
  subst hp hst
  exact go_call (len := 3) (W := W) hC hsf wc wz hf hl hc hs (fun {p e s m args below meth c T locs Pre Post} X hx hby hml eT hZ ho hK hpre =>
    Stand.specialBackS X hx hy1 ho (mvT hZ w1) (mvT hZ w2) (mvT hZ wc) hy hK (g := mkF m pc ls (as.reverse ++ .ref a :: rest)) rfl (by rw [hml]; exact hsz) (Steps.refl _) hlen rfl (by show 2 * 0 + (rest.map fun v => v.category).sum ≤ W; omega) (Jvm.hb hby hd) hpre) hr
theorem go_virtual {R' : Room} {y z : MethodName} {bY : ByteArray} {mY : Nat} {rY : Option FieldType} {sfY : List Addr} {QY : Option Value → Heap → List Addr → Prop} {idx : Nat} {C : String} (a : Addr) (as rest : List Value) (W : Nat)
    (hd : decode bytes pc = .ok (.invokevirtual idx, 3)) (hp : pc + 3 = pc') (E : Exa Z h a C) (w1 : (Jvm.Cond.methodLink own idx y).before a0 Z = true) (w2 : (Jvm.Cond.declares y).before a0 Z = true) (hnf : ∀ {s : State}, Z.Warmed39 s.vm → NotFace s y) (w3 : (Jvm.Cond.selects C y z).before a0 Z = true) (w4 : (Jvm.Cond.instanceMethod z).before a0 Z = true) (wz : (Jvm.Cond.initialized z.cls).before a0 Z = true) (wc : (Jvm.Cond.code z bY mY rY).before a0 Z = true)
    (hC : Con l Z EL n0 z bY mY rY [] R' (.ref a :: as).toArray h sfY QY) (hsf : ∀ x ∈ sfY, x ∈ sf) (hlen : ∀ sig, parseMethodDescriptor y.desc = some sig → as.length = sig.parameters.length) (hst : st = as.reverse ++ .ref a :: rest) (hsz : ls.size = maxL) (hW : (rest.map fun v => v.category).sum = W)
    (hy : y.cls ≠ "java/lang/invoke/MethodHandle" ∧ y.cls ≠ "java/lang/invoke/VarHandle")
    (hf : R'.frames + 1 ≤ R.frames) (hl : W + (mY + 11) + R'.locals ≤ R.locals) (hc : ce + R'.cells ≤ R.cells) (hs : sl + R'.slots ≤ R.slots)
    (hr : ∀ v h' sf', QY v h' sf' → Go l Z a0 EL n0 R own bytes maxL ret nm Q h' (sf' ++ sf) (ce + R'.cells) (sl + R'.slots) pc' ls (v.toList ++ rest)) :
    Go l Z a0 EL n0 R own bytes maxL ret nm Q h sf ce sl pc ls st := by
  subst hp hst
  exact go_call (len := 3) (W := W) hC hsf wc wz hf hl hc hs (fun {p e s m args below meth c T locs Pre Post} X hx hby hml eT hZ ho hK hpre => by
    obtain ⟨cB, kB, q1, q2, q3⟩ := isOf hZ eT E
    exact Stand.virtualBackS X hx ho (mvT hZ w1) (mvT hZ w2) (hnf hZ) (mvT hZ w3) (mvT hZ w4) hy hK q1 q3 (g := mkF m pc ls (as.reverse ++ .ref a :: rest)) rfl (by rw [hml]; exact hsz) (Steps.refl _) hlen rfl (by show 2 * 0 + (rest.map fun v => v.category).sum ≤ W; omega) (Jvm.hb hby hd) hpre) hr
theorem nf_of {y : MethodName} {C : String} (w : (Jvm.Cond.selects C y y).before a0 Z = true) : ∀ {s : State}, Z.Warmed39 s.vm → NotFace s y := fun hZ => notFace_of_selects (args := #[]) (mvT hZ w)
theorem go_iface {R' : Room} {y xi : MethodName} {bY : ByteArray} {mY : Nat} {rY : Option FieldType} {sfY : List Addr} {QY : Option Value → Heap → List Addr → Prop} {idx cnt : Nat} {C : String} (a : Addr) (as rest : List Value) (W : Nat)
    (hd : decode bytes pc = .ok (.invokeinterface idx cnt, 5)) (hp : pc + 5 = pc') (E : Exa Z h a C) (w1 : (Jvm.Cond.methodLink own idx xi).before a0 Z = true) (w2 : (Jvm.Cond.declares xi).before a0 Z = true) (w3 : (Jvm.Cond.interfaceMethod xi.cls xi.cls xi.name xi.desc).before a0 Z = true) (w3k : ((Jvm.Cond.interfaceMethod xi.cls xi.cls xi.name xi.desc).onTables && (Jvm.Cond.interfaceMethod xi.cls xi.cls xi.name xi.desc).keepsFace) = true) (w4 : (Jvm.Cond.selects C xi y).before a0 Z = true) (w5 : (Jvm.Cond.instanceMethod y).before a0 Z = true) (w6 : (Jvm.Cond.publicMethod y).before a0 Z = true) (w7 : (Jvm.Cond.unhidden C xi.name xi.desc).before a0 Z = true) (w8 : (Jvm.Cond.castable C xi.cls).before a0 Z = true) (wz : (Jvm.Cond.initialized y.cls).before a0 Z = true) (wc : (Jvm.Cond.code y bY mY rY).before a0 Z = true)
    (hC : Con l Z EL n0 y bY mY rY [] R' (.ref a :: as).toArray h sfY QY) (hsf : ∀ x ∈ sfY, x ∈ sf) (hlen : ∀ sig, parseMethodDescriptor xi.desc = some sig → as.length = sig.parameters.length) (hst : st = as.reverse ++ .ref a :: rest) (hsz : ls.size = maxL) (hW : (rest.map fun v => v.category).sum = W)
    (hy : xi.cls ≠ "java/lang/invoke/MethodHandle" ∧ xi.cls ≠ "java/lang/invoke/VarHandle")
    (hf : R'.frames + 1 ≤ R.frames) (hl : W + (mY + 11) + R'.locals ≤ R.locals) (hc : ce + R'.cells ≤ R.cells) (hs : sl + R'.slots ≤ R.slots)
    (hr : ∀ v h' sf', QY v h' sf' → Go l Z a0 EL n0 R own bytes maxL ret nm Q h' (sf' ++ sf) (ce + R'.cells) (sl + R'.slots) pc' ls (v.toList ++ rest)) :
    Go l Z a0 EL n0 R own bytes maxL ret nm Q h sf ce sl pc ls st := by
  subst hp hst
  exact go_call (len := 5) (W := W) hC hsf wc wz hf hl hc hs (fun {p e s m args below meth c T locs Pre Post} X hx hby hml eT hZ ho hK hpre => by
    obtain ⟨cB, kB, q1, q2, q3⟩ := isOf hZ eT E
    exact Stand.interfaceBackS X hx ho (mvT hZ w1) (mvT hZ w2) (mvT hZ w3 w3k) (mvT hZ w4) (mvT hZ w5) (mvT hZ w6) (mvT hZ w7) (mvT hZ w8) hy hK q1 q2 q3 (g := mkF m pc ls (as.reverse ++ .ref a :: rest)) rfl (by rw [hml]; exact hsz) (Steps.refl _) hlen rfl (by show 2 * 0 + (rest.map fun v => v.category).sum ≤ W; omega) (Jvm.hb hby hd) hpre) hr
theorem go_initO {idx : Nat} {a : Addr} (hd : decode bytes pc = .ok (.invokespecial idx, 3)) (hp : pc + 3 = pc') (w1 : (Jvm.Cond.methodLink own idx Lib.objectInit).before a0 Z = true) (w2 : (Jvm.Cond.instanceMethod Lib.objectInit).before a0 Z = true) (w3 : (Jvm.Cond.code Lib.objectInit ⟨#[0xb1]⟩ 1 none).before a0 Z = true)
    (hsz : ls.size = maxL) (hf : 1 ≤ R.frames) (W : Nat) (hW : (st.map fun v => v.category).sum = W) (hl : W + 12 ≤ R.locals) (hr : Go l Z a0 EL n0 R own bytes maxL ret nm Q h sf ce sl pc' ls st) :
    Go l Z a0 EL n0 R own bytes maxL ret nm Q h sf ce sl pc ls (.ref a :: st) := by
  subst hp
  exact go_move hr fun {p e s m args below meth c T locs} X hx hby hml eT hZ ho hOld => initO X hx hZ ho w1 w2 w3 eT (g := mkF m pc ls (.ref a :: st)) rfl (by rw [hml]; exact hsz) rfl (Jvm.hb hby hd) hf (W := W) (by show 2 * 0 + (st.map fun v => v.category).sum ≤ W; omega) hl
theorem go_getfield {idx : Nat} {R0 O f d : String} {a : Addr} {v : Value} (hd : decode bytes pc = .ok (.getfield idx, 3)) (hp : pc + 3 = pc') (w : (Jvm.Cond.fieldLink own idx R0 f d).before a0 Z = true) (via : Via Z R0 O f d) (F : Fld Z h a O f d v)
    (hr : Go l Z a0 EL n0 R own bytes maxL ret nm Q h sf ce sl pc' ls (v :: st)) : Go l Z a0 EL n0 R own bytes maxL ret nm Q h sf ce sl pc ls (.ref a :: st) := by
  subst hp
  exact go_move hr fun {p e s m args below meth c T locs} X hx hby hml eT hZ ho hOld => getF X hx hZ ho (host := "") (Or.inl w) via eT F (g := mkF m pc ls (.ref a :: st)) rfl rfl (Jvm.hb hby hd)
theorem go_getfieldN {idx : Nat} {R0 O f d host : String} {a : Addr} {v : Value} (hd : decode bytes pc = .ok (.getfield idx, 3)) (hp : pc + 3 = pc') (w : (Jvm.Cond.fieldLinkNest own idx R0 f d host).before a0 Z = true) (via : Via Z R0 O f d) (F : Fld Z h a O f d v)
    (hr : Go l Z a0 EL n0 R own bytes maxL ret nm Q h sf ce sl pc' ls (v :: st)) : Go l Z a0 EL n0 R own bytes maxL ret nm Q h sf ce sl pc ls (.ref a :: st) := by
  subst hp
  exact go_move hr fun {p e s m args below meth c T locs} X hx hby hml eT hZ ho hOld => getF X hx hZ ho (Or.inr w) via eT F (g := mkF m pc ls (.ref a :: st)) rfl rfl (Jvm.hb hby hd)
theorem go_getstatic {idx : Nat} {R0 O f d : String} {v : Value} (hd : decode bytes pc = .ok (.getstatic idx, 3)) (hp : pc + 3 = pc') (w : (Jvm.Cond.fieldLink own idx R0 f d).before a0 Z = true) (via : Via Z R0 O f d) (F : Sta Z Z.heap O f d v)
    (hr : Go l Z a0 EL n0 R own bytes maxL ret nm Q h sf ce sl pc' ls (v :: st)) : Go l Z a0 EL n0 R own bytes maxL ret nm Q h sf ce sl pc ls st := by
  subst hp
  exact go_move hr fun {p e s m args below meth c T locs} X hx hby hml eT hZ ho hOld => getS X hx hZ ho (host := "") w via eT (F.ext hOld.2) (g := mkF m pc ls st) rfl (Jvm.hb hby hd)
theorem go_checkcast {idx : Nat} {K : String} {a : Addr} (hd : decode bytes pc = .ok (.checkcast idx, 3)) (hp : pc + 3 = pc') (w : (Jvm.Cond.classLink own idx K).before a0 Z = true) (F : Ins Z h a K true)
    (hr : Go l Z a0 EL n0 R own bytes maxL ret nm Q h sf ce sl pc' ls (.ref a :: st)) : Go l Z a0 EL n0 R own bytes maxL ret nm Q h sf ce sl pc ls (.ref a :: st) := by
  subst hp
  exact go_move hr fun {p e s m args below meth c T locs} X hx hby hml eT hZ ho hOld => castY X hx hZ ho w eT F (g := mkF m pc ls (.ref a :: st)) rfl rfl (Jvm.hb hby hd)
theorem go_instY {idx : Nat} {K : String} {a : Addr} (hd : decode bytes pc = .ok (.instanceof idx, 3)) (hp : pc + 3 = pc') (w : (Jvm.Cond.classLink own idx K).before a0 Z = true) (F : Ins Z h a K true)
    (hr : Go l Z a0 EL n0 R own bytes maxL ret nm Q h sf ce sl pc' ls (.int 1 :: st)) : Go l Z a0 EL n0 R own bytes maxL ret nm Q h sf ce sl pc ls (.ref a :: st) := by
  subst hp
  exact go_move hr fun {p e s m args below meth c T locs} X hx hby hml eT hZ ho hOld => instY X hx hZ ho w eT F (g := mkF m pc ls (.ref a :: st)) rfl rfl (Jvm.hb hby hd)
theorem go_instNo {idx : Nat} {K C : String} {a : Addr} (hd : decode bytes pc = .ok (.instanceof idx, 3)) (hp : pc + 3 = pc') (w : (Jvm.Cond.classLink own idx K).before a0 Z = true) (E : Exa Z h a C) (F : ∃ c t, Z.vm.findClass C = some c ∧ Z.vm.findClass K = some t ∧ Z.vm.assignable c t = false)
    (hr : Go l Z a0 EL n0 R own bytes maxL ret nm Q h sf ce sl pc' ls (.int 0 :: st)) : Go l Z a0 EL n0 R own bytes maxL ret nm Q h sf ce sl pc ls (.ref a :: st) := by
  subst hp
  exact go_move hr fun {p e s m args below meth c T locs} X hx hby hml eT hZ ho hOld => instNo X hx hZ ho w eT E F (g := mkF m pc ls (.ref a :: st)) rfl rfl (Jvm.hb hby hd)
theorem go_ldcI {idx : Nat} {v : Int32} (hd : decode bytes pc = .ok (.ldc idx, 2)) (hp : pc + 2 = pc') (w : (Jvm.Cond.constant own idx v).before a0 Z = true)
    (hr : Go l Z a0 EL n0 R own bytes maxL ret nm Q h sf ce sl pc' ls (.int v :: st)) : Go l Z a0 EL n0 R own bytes maxL ret nm Q h sf ce sl pc ls st := by
  subst hp
  exact go_move hr fun {p e s m args below meth c T locs} X hx hby hml eT hZ ho hOld => ⟨T, X, eT, fun t k => Stand.ldcI X hx ho (mvT hZ w) (g := mkF m pc ls st) rfl (Jvm.hb hby hd) k⟩
theorem go_ldc2J {idx : Nat} {v : Int64} (hd : decode bytes pc = .ok (.ldc2_w idx, 3)) (hp : pc + 3 = pc') (w : (Jvm.Cond.constantLong own idx v).before a0 Z = true)
    (hr : Go l Z a0 EL n0 R own bytes maxL ret nm Q h sf ce sl pc' ls (.long v :: st)) : Go l Z a0 EL n0 R own bytes maxL ret nm Q h sf ce sl pc ls st := by
  subst hp
  exact go_move hr fun {p e s m args below meth c T locs} X hx hby hml eT hZ ho hOld => ⟨T, X, eT, fun t k => Stand.ldc2J X hx ho (mvT hZ w) (g := mkF m pc ls st) rfl (Jvm.hb hby hd) k⟩
/-- ldc of a String constant, opaque -/
theorem go_ldcO {idx : Nat} {text : String} (n : Nat) (hd : decode bytes pc = .ok (.ldc idx, 2)) (hp : pc + 2 = pc') (w : (Jvm.Cond.stringLink own idx text).before a0 Z = true) (wS : ∀ a ∈ Bundle.stringAtoms, a.before a0 Z = true) (hn : 4 * text.toList.length ≤ n) (hbig : n ≤ 536870912) (hc : ce + 2 ≤ R.cells) (hs : sl + (n + 4) ≤ R.slots)
    (hr : ∀ h' a, Ext h h' → Go l Z a0 EL n0 R own bytes maxL ret nm Q h' sf (ce + 2) (sl + (n + 4)) pc' ls (.ref a :: st)) : Go l Z a0 EL n0 R own bytes maxL ret nm Q h sf ce sl pc ls st := by
  subst hp
  intro p e s m args below meth c T W'
  obtain ⟨⟨hx, hby, hml, hret, hnm, hlk, hEL, hOld⟩, vm0, locs, k0, X, eT, hS, hk, hZ, hown, N, C, O⟩ := W'
  obtain ⟨a, T', h', k1, X', e', E, hS', hk', hZ', hown', ch, -, st'⟩ := ldcOH X hx hZ hown w wS eT hS hk hEL C.1 (g := mkF m pc ls st) rfl (Jvm.hb hby hd) hn hbig hc hs
  obtain ⟨t, o, h1, h2⟩ := hr h' a E p e s m args below meth c T' ⟨⟨hx, hby, hml, hret, hnm, hlk, hEL, hOld.ext E⟩, T'.vm, locs, k1, X', e', hS', hk', hZ', hown', N, C.trans ch, O.mv ch⟩
  exact ⟨t, o, st' _ h1, h2⟩
/-- ldc of a String constant of EL, read -/
theorem go_ldcT {idx : Nat} {text : String} (n : Nat) (z : Int32) (vs : List Value) (hd : decode bytes pc = .ok (.ldc idx, 2)) (hp : pc + 2 = pc') (w : (Jvm.Cond.stringLink own idx text).before a0 Z = true) (wS : ∀ a ∈ Bundle.stringAtoms, a.before a0 Z = true) (hmem : (own, idx) ∈ EL)
    (ht : (∀ c ∈ text.toList, c.toNat < 256) ∧ text.toList.map (fun c => Value.int (Jvm.Lit.byteI c.toNat.toUInt16)) = vs) (hz : ¬ z < 0) (hl : z.toNatClampNeg = vs.length) (hn : 4 * text.toList.length ≤ n) (hbig : n ≤ 536870912) (hc : ce + 2 ≤ R.cells) (hs : sl + (n + 4) ≤ R.slots)
    (hr : ∀ h' a b k, Ext h h' → Exa Z h' a "java/lang/String" → Fld Z h' a "java/lang/String" "coder" "B" (.int 0) → Fld Z h' a "java/lang/String" "value" "[B" (.ref b) → Arv Z h' b k .byte z vs (.int 0) → (∀ x ∈ sf, x ≠ a ∧ x ≠ b) →
      Go l Z a0 EL n0 R own bytes maxL ret nm Q h' sf (ce + 2) (sl + (n + 4)) pc' ls (.ref a :: st)) : Go l Z a0 EL n0 R own bytes maxL ret nm Q h sf ce sl pc ls st := by
  subst hp
  intro p e s m args below meth c T W'
  obtain ⟨⟨hx, hby, hml, hret, hnm, hlk, hEL, hOld⟩, vm0, locs, k0, X, eT, hS, hk, hZ, hown, N, C, O⟩ := W'
  obtain ⟨a, T', h', k1, b, k, X', e', E, hS', hk', hZ', hown', f1, f2, f3, f4, -, -, ch, -, hne, st'⟩ := ldcCH X hx hZ hown w wS eT hS hk hEL hmem C.1 ht hz hl (g := mkF m pc ls st) rfl (Jvm.hb hby hd) hn hbig hc hs
  have O' := O.mv ch
  obtain ⟨t, o, h1, h2⟩ := hr h' a b k E f1 f2 f3 f4 (fun x q => hne x (O' x q).2.2) p e s m args below meth c T' ⟨⟨hx, hby, hml, hret, hnm, hlk, hEL, hOld.ext E⟩, T'.vm, locs, k1, X', e', hS', hk', hZ', hown', N, C.trans ch, O'⟩
  exact ⟨t, o, st' _ h1, h2⟩
theorem go_new {idx n : Nat} {C : String} (hd : decode bytes pc = .ok (.new idx, 3)) (hp : pc + 3 = pc') (w : (Jvm.Cond.classLink own idx C).before a0 Z = true) (wi : (Jvm.Cond.instantiable C n).before a0 Z = true) (wz : (Jvm.Cond.initialized C).before a0 Z = true) (hc : ce + 1 ≤ R.cells) (hs : sl + n ≤ R.slots)
    (hr : ∀ h' x, x = h.size → Ext h h' → (Exa Z h' x C ∧ ∀ {O f d : String} {ty : FieldType}, Laid Z a0 C O f d → parseFieldDescriptor d = some ty → Fld Z h' x O f d (defaultValue ty)) →
      Go l Z a0 EL n0 R own bytes maxL ret nm Q h' (x :: sf) (ce + 1) (sl + n) pc' ls (.ref x :: st)) : Go l Z a0 EL n0 R own bytes maxL ret nm Q h sf ce sl pc ls st := by
  subst hp
  refine go_make (P := fun h' x => Exa Z h' x C ∧ ∀ {O f d : String} {ty : FieldType}, Laid Z a0 C O f d → parseFieldDescriptor d = some ty → Fld Z h' x O f d (defaultValue ty)) (fun {p e s m args below meth c T locs} X hx hby hml eT hZ ho => ?_) hr
  obtain ⟨T', h', X', e', E, A, D, -, st'⟩ := newO X hx hZ ho w wi wz eT (g := mkF m pc ls st) rfl (Jvm.hb hby hd) hc hs
  exact ⟨T', h', X', e', E, A.lt, ⟨A, D⟩, st'⟩
theorem go_newarr {aty : ArrayType} {n : Int32} {ty : FieldType} {ad : String} (cap : Nat) (hd : decode bytes pc = .ok (.newarray aty, 2)) (hp : pc + 2 = pc') (hty : newarray.typeOf aty = ty) (w : (Jvm.Cond.arrayClass ty).before a0 Z = true) (hn : ¬ n < 0) (hcap : n.toNatClampNeg ≤ cap) (hb : cap * 8 ≤ 536870912) (had : "[" ++ ty.toString = ad) (hc : ce + 1 ≤ R.cells) (hs : sl + cap ≤ R.slots)
    (hr : ∀ h' x, x = h.size → Ext h h' → (Exa Z h' x ad ∧ ∃ k, Arv Z h' x k ty n [] (defaultValue ty)) → Go l Z a0 EL n0 R own bytes maxL ret nm Q h' (x :: sf) (ce + 1) (sl + cap) pc' ls (.ref x :: st)) :
    Go l Z a0 EL n0 R own bytes maxL ret nm Q h sf ce sl pc ls (.int n :: st) := by
  subst hp hty
  refine go_make (P := fun h' x => Exa Z h' x ad ∧ ∃ k, Arv Z h' x k (newarray.typeOf aty) n [] (defaultValue (newarray.typeOf aty))) (fun {p e s m args below meth c T locs} X hx hby hml eT hZ ho => ?_) hr
  obtain ⟨T', h', cA, X', e', E, A, F, st'⟩ := newPE X hx hZ w eT (g := mkF m pc ls (.int n :: st)) rfl (Jvm.hb hby hd) rfl hn hcap hb hc hs had
  exact ⟨T', h', X', e', E, A.lt, ⟨F, cA, Arv.new A hn⟩, st'⟩
theorem go_putfield {idx kk : Nat} {R0 O f d C : String} {a : Addr} {v old : Value} {ty : FieldType} (hd : decode bytes pc = .ok (.putfield idx, 3)) (hp : pc + 3 = pc') (w : (Jvm.Cond.fieldLink own idx R0 f d).before a0 Z = true) (via : Via Z R0 O f d) (F : Fld Z h a O f d old) (E : Exa Z h a C)
    (L : (Jvm.Cond.lays C O f d).before a0 Z = true ∨ ((Jvm.Cond.laysFinal C O f d).before a0 Z = true ∧ own = O ∧ nm = "<init>")) (wi : (Jvm.Cond.instantiable C kk).before a0 Z = true) (hty : parseFieldDescriptor d = some ty) (hn : narrow ty v = v) (hfit : fits ty v = true) (hm : a ∈ sf)
    (hr : ∀ h', Wr h h' a (RoadKit.slotOf Z O f d) v → Go l Z a0 EL n0 R own bytes maxL ret nm Q h' sf ce sl pc' ls st) : Go l Z a0 EL n0 R own bytes maxL ret nm Q h sf ce sl pc ls (v :: .ref a :: st) := by
  subst hp
  exact go_write hm (fun {p e s m args below meth c T locs} X hx hby hnm eT hZ ho => putF X hx hZ ho (host := "") (Or.inl w) via eT F E (L.imp id fun q => ⟨q.1, q.2.1, by rw [hnm]; exact q.2.2⟩) wi hty hn hfit (g := mkF m pc ls (v :: .ref a :: st)) rfl rfl (Jvm.hb hby hd)) hr
/-- a char, byte, int or boolean into an array at hand -/
theorem go_castore {a : Addr} {k : ClassId} {z j v : Int32} {vs : List Value} {dv : Value} (i : Nat) (v' : Int32) (hd : decode bytes pc = .ok (.castore, 1)) (hp : pc + 1 = pc') (hnv : nar .char v = v') (F : Arv Z h a k .char z vs dv) (hj : ¬ j < 0 ∧ j < z) (hi : j.toNatClampNeg = i) (hl : i < vs.length) (hm : a ∈ sf)
    (hr : ∀ h', Wr h h' a j.toNatClampNeg (.int v') → Arv Z h' a k .char z (vs.set i (.int v')) dv → Go l Z a0 EL n0 R own bytes maxL ret nm Q h' sf ce sl pc' ls st) : Go l Z a0 EL n0 R own bytes maxL ret nm Q h sf ce sl pc ls (.int v :: .int j :: .ref a :: st) := by
  subst hp hnv
  obtain ⟨cl, A, q1, S, q3, H, G⟩ := F
  exact go_write hm (fun {p e s m args below meth c T locs} X hx hby hnm eT hZ ho => stC X hx hZ eT A (inb_of S hj) (g := mkF m pc ls (.int v :: .int j :: .ref a :: st)) rfl rfl (Jvm.hb hby hd)) (fun h' W => hr h' W (Arv.set A q1 S q3 H G (fits_nar_char v) W i hi hl))
theorem go_bastore {a : Addr} {k : ClassId} {z j v : Int32} {vs : List Value} {dv : Value} (i : Nat) (hd : decode bytes pc = .ok (.bastore, 1)) (hp : pc + 1 = pc') (F : Arv Z h a k .byte z vs dv) (hj : ¬ j < 0 ∧ j < z) (hi : j.toNatClampNeg = i) (hl : i < vs.length) (hm : a ∈ sf)
    (hr : ∀ h', Wr h h' a j.toNatClampNeg (.int v.toInt8.toInt32) → Arv Z h' a k .byte z (vs.set i (.int v.toInt8.toInt32)) dv → Go l Z a0 EL n0 R own bytes maxL ret nm Q h' sf ce sl pc' ls st) : Go l Z a0 EL n0 R own bytes maxL ret nm Q h sf ce sl pc ls (.int v :: .int j :: .ref a :: st) := by
  subst hp
  obtain ⟨cl, A, q1, S, q3, H, G⟩ := F
  exact go_write hm (fun {p e s m args below meth c T locs} X hx hby hnm eT hZ ho => stB X hx hZ eT A (inb_of S hj) (g := mkF m pc ls (.int v :: .int j :: .ref a :: st)) rfl rfl (Jvm.hb hby hd)) (fun h' W => hr h' W (Arv.set A q1 S q3 H G (fits_nar_byte v) W i hi hl))
theorem go_iastore {a : Addr} {k : ClassId} {z j v : Int32} {vs : List Value} {dv : Value} (i : Nat) (hd : decode bytes pc = .ok (.iastore, 1)) (hp : pc + 1 = pc') (F : Arv Z h a k .int z vs dv) (hj : ¬ j < 0 ∧ j < z) (hi : j.toNatClampNeg = i) (hl : i < vs.length) (hm : a ∈ sf)
    (hr : ∀ h', Wr h h' a j.toNatClampNeg (.int v) → Arv Z h' a k .int z (vs.set i (.int v)) dv → Go l Z a0 EL n0 R own bytes maxL ret nm Q h' sf ce sl pc' ls st) : Go l Z a0 EL n0 R own bytes maxL ret nm Q h sf ce sl pc ls (.int v :: .int j :: .ref a :: st) := by
  subst hp
  obtain ⟨cl, A, q1, S, q3, H, G⟩ := F
  exact go_write hm (fun {p e s m args below meth c T locs} X hx hby hnm eT hZ ho => stI X hx hZ eT A (inb_of S hj) (g := mkF m pc ls (.int v :: .int j :: .ref a :: st)) rfl rfl (Jvm.hb hby hd)) (fun h' W => hr h' W (Arv.set A q1 S q3 H G rfl W i hi hl))
theorem go_alen {a : Addr} {k : ClassId} {ty : FieldType} {z : Int32} {vs : List Value} {dv : Value} (hd : decode bytes pc = .ok (.arraylength, 1)) (hp : pc + 1 = pc') (F : Arv Z h a k ty z vs dv)
    (hr : Go l Z a0 EL n0 R own bytes maxL ret nm Q h sf ce sl pc' ls (.int z :: st)) : Go l Z a0 EL n0 R own bytes maxL ret nm Q h sf ce sl pc ls (.ref a :: st) := by
  subst hp
  obtain ⟨cl, A, q1, S, q3, H, G⟩ := F
  refine go_move hr fun {p e s m args below meth c T locs} X hx hby hml eT hZ ho hOld => ⟨T, X, eT, fun t kk => ?_⟩
  refine X.arraylength hx (by rw [eT]; exact A.1) (State.isArrayOf_alike hZ.alike A.2.1) (g := mkF m pc ls (.ref a :: st)) rfl rfl (Jvm.hb hby hd) t ?_
  rw [len_of S q3]
  exact kk
theorem go_caload {a : Addr} {k : ClassId} {z j : Int32} {vs : List Value} {dv v : Value} (i : Nat) (hd : decode bytes pc = .ok (.caload, 1)) (hp : pc + 1 = pc') (F : Arv Z h a k .char z vs dv) (hj : ¬ j < 0 ∧ j < z) (hi : j.toNatClampNeg = i) (hv : vs.getD i dv = v)
    (hr : Go l Z a0 EL n0 R own bytes maxL ret nm Q h sf ce sl pc' ls (v :: st)) : Go l Z a0 EL n0 R own bytes maxL ret nm Q h sf ce sl pc ls (.int j :: .ref a :: st) := by
  subst hp
  obtain ⟨cl, A, q1, S, q3, H, G⟩ := F
  exact go_move hr fun {p e s m args below meth c T locs} X hx hby hml eT hZ ho hOld => ⟨T, X, eT, fun t kk =>
    X.caload hx (by rw [eT]; exact A.1) (State.isArrayOf_alike hZ.alike A.2.1) A.2.2 (inb_of S hj) (H.at (inb_of S hj) (by rw [hi]; exact hv)) (g := mkF m pc ls (.int j :: .ref a :: st)) rfl rfl (Jvm.hb hby hd) t kk⟩
theorem go_iaload {a : Addr} {k : ClassId} {z j : Int32} {vs : List Value} {dv v : Value} (i : Nat) (hd : decode bytes pc = .ok (.iaload, 1)) (hp : pc + 1 = pc') (F : Arv Z h a k .int z vs dv) (hj : ¬ j < 0 ∧ j < z) (hi : j.toNatClampNeg = i) (hv : vs.getD i dv = v)
    (hr : Go l Z a0 EL n0 R own bytes maxL ret nm Q h sf ce sl pc' ls (v :: st)) : Go l Z a0 EL n0 R own bytes maxL ret nm Q h sf ce sl pc ls (.int j :: .ref a :: st) := by
  subst hp
  obtain ⟨cl, A, q1, S, q3, H, G⟩ := F
  exact go_move hr fun {p e s m args below meth c T locs} X hx hby hml eT hZ ho hOld => ⟨T, X, eT, fun t kk =>
    X.iaload hx (by rw [eT]; exact A.1) (State.isArrayOf_alike hZ.alike A.2.1) A.2.2 (inb_of S hj) (H.at (inb_of S hj) (by rw [hi]; exact hv)) (g := mkF m pc ls (.int j :: .ref a :: st)) rfl rfl (Jvm.hb hby hd) t kk⟩
theorem go_baload {a : Addr} {k : ClassId} {z j : Int32} {vs : List Value} {dv v : Value} (i : Nat) (hd : decode bytes pc = .ok (.baload, 1)) (hp : pc + 1 = pc') (F : Arv Z h a k .byte z vs dv) (hj : ¬ j < 0 ∧ j < z) (hi : j.toNatClampNeg = i) (hv : vs.getD i dv = v)
    (hr : Go l Z a0 EL n0 R own bytes maxL ret nm Q h sf ce sl pc' ls (v :: st)) : Go l Z a0 EL n0 R own bytes maxL ret nm Q h sf ce sl pc ls (.int j :: .ref a :: st) := by
  subst hp
  obtain ⟨cl, A, q1, S, q3, H, G⟩ := F
  exact go_move hr fun {p e s m args below meth c T locs} X hx hby hml eT hZ ho hOld => ⟨T, X, eT, fun t kk =>
    X.baloadBytes hx (by rw [eT]; exact A.1) (State.isArrayOf_alike hZ.alike A.2.1) A.2.2 (inb_of S hj) (H.at (inb_of S hj) (by rw [hi]; exact hv)) (g := mkF m pc ls (.int j :: .ref a :: st)) rfl rfl (Jvm.hb hby hd) t kk⟩
/-- returns -/
theorem go_ret (hd : decode bytes pc = .ok (.return_, 1)) (sf' : List Addr) (hret : ret = none) (hc : ce ≤ R.cells) (hs : sl ≤ R.slots) (hsub : ∀ x ∈ sf', x ∈ sf) (hq : Q none h sf') : Go l Z a0 EL n0 R own bytes maxL ret nm Q h sf ce sl pc ls [] :=
  go_out (fun _ => rfl) hc hs hsub (fun X hx hby hr hl => X.returnOut hx (hr.trans hret) (Jvm.hb hby hd) hl) hq
theorem go_retN {z : Int32} {t : FieldType} (hd : decode bytes pc = .ok (.ireturn, 1)) (sf' : List Addr) (hret : ret = some t) (ht : t = .boolean ∨ t = .byte ∨ t = .char ∨ t = .short) (hc : ce ≤ R.cells) (hs : sl ≤ R.slots) (hsub : ∀ x ∈ sf', x ∈ sf) (hq : Q (some (.int (nar t z))) h sf') : Go l Z a0 EL n0 R own bytes maxL ret nm Q h sf ce sl pc ls (.int z :: st) :=
  go_out (fun q => by rw [hret] at q; cases q) hc hs hsub (fun X hx hby hr hl => retN X hx (t := t) (hr.trans hret) ht (Jvm.hb hby hd) hl) hq
theorem go_retI {z : Int32} (hd : decode bytes pc = .ok (.ireturn, 1)) (sf' : List Addr) (hret : ret = some .int) (hc : ce ≤ R.cells) (hs : sl ≤ R.slots) (hsub : ∀ x ∈ sf', x ∈ sf) (hq : Q (some (.int z)) h sf') : Go l Z a0 EL n0 R own bytes maxL ret nm Q h sf ce sl pc ls (.int z :: st) :=
  go_out (fun q => by rw [hret] at q; cases q) hc hs hsub (fun X hx hby hr hl => retOut X hx (hr.trans hret) rfl (Or.inl ⟨rfl, Or.inl rfl, _, rfl⟩) (Jvm.hb hby hd) hl) hq
theorem go_retA {v : Value} {t : FieldType} (hd : decode bytes pc = .ok (.areturn, 1)) (sf' : List Addr) (hret : ret = some t) (ht : t.isReference = true) (hv : v.isRef = true) (hn : narrow t v = v) (hc : ce ≤ R.cells) (hs : sl ≤ R.slots) (hsub : ∀ x ∈ sf', x ∈ sf) (hq : Q (some v) h sf') : Go l Z a0 EL n0 R own bytes maxL ret nm Q h sf ce sl pc ls (v :: st) :=
  go_out (fun q => by rw [hret] at q; cases q) hc hs hsub (fun X hx hby hr hl => retOut X hx (hr.trans hret) hn (Or.inr (Or.inr (Or.inr (Or.inr ⟨rfl, ht, hv⟩)))) (Jvm.hb hby hd) hl) hq
theorem ext_of_keep {h0 h1 : Heap} (K : Keep h0 h1 []) : Ext h0 h1 := ⟨K.1, fun a c q => K.2.1 a c q nin0⟩
theorem keep_of_ext {h0 h1 : Heap} (E : Ext h0 h1) (ws : List Addr) : Keep h0 h1 ws := (Keep.refl h0 ws).ext E
theorem go_instNull {idx : Nat} (hd : decode bytes pc = .ok (.instanceof idx, 3)) (hp : pc + 3 = pc') (hr : Go l Z a0 EL n0 R own bytes maxL ret nm Q h sf ce sl pc' ls (.int 0 :: st)) : Go l Z a0 EL n0 R own bytes maxL ret nm Q h sf ce sl pc ls (.null :: st) := by
  subst hp
  exact go_move hr fun {p e s m args below meth c T locs} X hx hby hml eT hZ ho hOld => ⟨T, X, eT, X.instanceofNull hx (g := mkF m pc ls (.null :: st)) rfl rfl (Jvm.hb hby hd)⟩
theorem go_castNull {idx : Nat} (hd : decode bytes pc = .ok (.checkcast idx, 3)) (hp : pc + 3 = pc') (hr : Go l Z a0 EL n0 R own bytes maxL ret nm Q h sf ce sl pc' ls (.null :: st)) : Go l Z a0 EL n0 R own bytes maxL ret nm Q h sf ce sl pc ls (.null :: st) := by
  subst hp
  exact go_move hr fun {p e s m args below meth c T locs} X hx hby hml eT hZ ho hOld => ⟨T, X, eT, X.checkcastNull hx (g := mkF m pc ls (.null :: st)) rfl rfl (Jvm.hb hby hd)⟩
/-- System.arraycopy of numbers into an owned array -/
theorem go_acopy {idx : Nat} {a b : Addr} {k k' : ClassId} {ty : FieldType} {z z' sp dp nn : Int32} {vs vd us : List Value} {dv dd : Value} (hd : decode bytes pc = .ok (.invokestatic idx, 3)) (hp : pc + 3 = pc') (w1 : (Jvm.Cond.methodLink own idx Jvm.Stand.acN).before a0 Z = true) (w2 : (Jvm.Cond.native Jvm.Stand.acN).before a0 Z = true) (w3 : (Jvm.Cond.static Jvm.Stand.acN).before a0 Z = true) (w4 : (Jvm.Cond.initialized "java/lang/System").before a0 Z = true)
    (A : Arv Z h a k ty z vs dv) (B : Arv Z h b k' ty z' vd dd) (hty : refKind ty = false) (h1 : ¬ sp < 0) (h2 : ¬ dp < 0) (h3 : ¬ nn < 0) (h4 : sp.toNatClampNeg + nn.toNatClampNeg ≤ z.toNatClampNeg) (h5 : dp.toNatClampNeg + nn.toNatClampNeg ≤ z'.toNatClampNeg)
    (hus : us = (List.range nn.toNatClampNeg).map fun i => vs.getD (sp.toNatClampNeg + i) dv) (hl : dp.toNatClampNeg + nn.toNatClampNeg ≤ vd.length) (hm : b ∈ sf) (hsz : ls.size = maxL) (hf : 1 ≤ R.frames) (W : Nat) (hW : (st.map fun v => v.category).sum = W) (hlo : W + (nativeFrameWords "java/lang/System" "arraycopy" 5 + 11) ≤ R.locals)
    (hr : ∀ h', Keep h h' [b] → Arv Z h' b k' ty z' (vd.take dp.toNatClampNeg ++ us ++ vd.drop (dp.toNatClampNeg + nn.toNatClampNeg)) dd → Go l Z a0 EL n0 R own bytes maxL ret nm Q h' sf ce sl pc' ls st) :
    Go l Z a0 EL n0 R own bytes maxL ret nm Q h sf ce sl pc ls (.int nn :: .int dp :: .ref b :: .int sp :: .ref a :: st) := by
  subst hp
  intro p e s m args below meth c T W'
  obtain ⟨⟨hx, hby, hml, hret, hnm, hlk, hEL, hOld⟩, vm0, locs, k0, X, eT, hS, hk, hZ, hown, N, C, O⟩ := W'
  obtain ⟨q1, q2, q3⟩ := O b hm
  obtain ⟨T', h', L, X', e', N', K, B', st'⟩ := cpA (s := s.setVm vm0) X hx hZ hown w1 w2 w3 w4 eT A B (Or.inl ⟨rfl, hty⟩) h1 h2 h3 h4 h5 hus hl N q2 (g := mkF m pc ls (.int nn :: .int dp :: .ref b :: .int sp :: .ref a :: st)) rfl (by rw [hml]; exact hsz) rfl (Jvm.hb hby hd) hf (W := W) (by show 2 * 0 + (st.map fun v => v.category).sum ≤ W; omega) hlo
  have A' := CHr.keep K (allS q3 all0) C.1
  obtain ⟨t, o, h1', h2'⟩ := hr h' K B' p e s m args below meth c T' ⟨⟨hx, hby, hml, hret, hnm, hlk, hEL, hOld.keep K (allS q2 all0)⟩, vm0, L, k0, X', e', hS, Nat.le_trans hk K.1, hZ, hown, N', C.trans A', O.mv A'⟩
  exact ⟨t, o, st' _ h1', h2'⟩
end Walk
def ELc : List (String × Nat) := [("java/lang/String", 7)]
def Base (Z : State) (a0 : Array Value) : Prop := (∀ d ∈ tables_1, d.before a0 Z = true) ∧ EW Z a0 ELc ∧ (∃ cz, Sta Z Z.heap "java/lang/String" "COMPACT_STRINGS" "Z" (.int cz) ∧ ¬ cz = 0) ∧ (∃ au, Sta Z Z.heap "com/example/nightlatch/nightlatch/authorization/BackgroundDecision" "AUTHORIZED" "Lcom/example/nightlatch/nightlatch/authorization/BackgroundDecision;" (.ref au) ∧ Exa Z Z.heap au "com/example/nightlatch/nightlatch/authorization/BackgroundDecision" ∧ Fld Z Z.heap au "com/example/nightlatch/nightlatch/authorization/BackgroundDecision" "refusal" "Lcom/example/nightlatch/nightlatch/authorization/Refusal;" .null) ∧ (∃ a, Sta Z Z.heap "com/example/nightlatch/nightlatch/authorization/Refusal" "POLICY_INVALID" "Lcom/example/nightlatch/nightlatch/authorization/Refusal;" (.ref a)) ∧ (∃ a, Sta Z Z.heap "com/example/nightlatch/nightlatch/authorization/Refusal" "POLICY_DISALLOWED" "Lcom/example/nightlatch/nightlatch/authorization/Refusal;" (.ref a)) ∧ (∃ a, Sta Z Z.heap "com/example/nightlatch/nightlatch/authorization/Refusal" "REGISTRATION_MISSING" "Lcom/example/nightlatch/nightlatch/authorization/Refusal;" (.ref a)) ∧ (∃ a, Sta Z Z.heap "com/example/nightlatch/nightlatch/authorization/Refusal" "REGISTRATION_INVALID" "Lcom/example/nightlatch/nightlatch/authorization/Refusal;" (.ref a)) ∧ (∃ a, Sta Z Z.heap "com/example/nightlatch/nightlatch/authorization/Refusal" "REGISTRATION_EXPIRED" "Lcom/example/nightlatch/nightlatch/authorization/Refusal;" (.ref a)) ∧ (∃ a, Sta Z Z.heap "com/example/nightlatch/nightlatch/authorization/Refusal" "NOT_UNLOCKED_SINCE_RESTART" "Lcom/example/nightlatch/nightlatch/authorization/Refusal;" (.ref a)) ∧ (∃ a, Sta Z Z.heap "com/example/nightlatch/nightlatch/authorization/Refusal" "CLOCK_INCONSISTENT" "Lcom/example/nightlatch/nightlatch/authorization/Refusal;" (.ref a)) ∧ (∃ a, Sta Z Z.heap "com/example/nightlatch/nightlatch/authorization/Refusal" "AUTHENTICATION_EXPIRED" "Lcom/example/nightlatch/nightlatch/authorization/Refusal;" (.ref a)) ∧ (∃ a, Sta Z Z.heap "com/example/nightlatch/nightlatch/authorization/Refusal" "LOW_POWER" "Lcom/example/nightlatch/nightlatch/authorization/Refusal;" (.ref a)) ∧ True
theorem wd {Z : State} {a0 : Array Value} {d : Jvm.Cond} (hB : Base Z a0) (k : Nat) (hk : tables_1[k]? = some d) : d.before a0 Z = true := hB.1 d (List.mem_of_getElem? hk)
theorem stA {Z : State} {a0 : Array Value} (hB : Base Z a0) : ∀ a ∈ Bundle.stringAtoms, a.before a0 Z = true := fun d hd => by
  simp only [Bundle.stringAtoms, List.mem_cons, List.not_mem_nil, or_false] at hd
  rcases hd with rfl | rfl | rfl | rfl | rfl | rfl | rfl
  · exact (wd hB 4 rfl)
  · exact (wd hB 3 rfl)
  · exact (wd hB 16 rfl)
  · exact (wd hB 17 rfl)
  · exact (wd hB 18 rfl)
  · exact (wd hB 19 rfl)
  · exact (wd hB 20 rfl)
theorem ofN_int {i : Nat} (h : i < 2147483648) : (Int32.ofNat i).toInt = i := Int32.toInt_ofNat_of_lt h
theorem ofN_lt {i n : Nat} (hi : i < n) (hn : n < 2147483648) : Int32.ofNat i < Int32.ofNat n := by
  rw [Int32.lt_iff_toInt_lt, ofN_int (by omega), ofN_int hn]; omega
theorem ofN_nlt {i n : Nat} (hi : n ≤ i) (hn : i < 2147483648) : ¬ Int32.ofNat i < Int32.ofNat n := by
  rw [Int32.lt_iff_toInt_lt, ofN_int hn, ofN_int (i := n) (by omega)]; omega
theorem ofN_nneg {i : Nat} (h : i < 2147483648) : ¬ Int32.ofNat i < 0 := by
  rw [Int32.lt_iff_toInt_lt, ofN_int h]; show ¬ (i : Int) < 0; omega
theorem ofN_cl {i : Nat} (h : i < 2147483648) : (Int32.ofNat i).toNatClampNeg = i := by
  have := ofN_int h; show (Int32.ofNat i).toInt.toNat = i; omega
theorem ofN_succ (i : Nat) : Int32.ofNat i + 1 = Int32.ofNat (i + 1) := by rw [Int32.ofNat_add]; rfl
theorem ofN_pos {i : Nat} (h0 : 0 < i) (h : i < 2147483648) : ¬ Int32.ofNat i = 0 := fun q => by
  have := ofN_int h; rw [q] at this; have h2 : (0 : Int32).toInt = 0 := rfl; omega
def lo8s (cs : List Int32) : List Value := cs.map fun c => Value.int c.toInt8.toInt32
theorem lo8s_len (cs : List Int32) : (lo8s cs).length = cs.length := by simp [lo8s]
theorem lo8s_set {cs : List Int32} {i j : Nat} {c : Int32} (hc : cs[i]? = some c) (hi : i + (j + 1) = cs.length) : (lo8s (cs.take i) ++ List.replicate (j + 1) (Value.int 0)).set i (Value.int c.toInt8.toInt32) = lo8s (cs.take (i + 1)) ++ List.replicate j (Value.int 0) := by
  have hl : (lo8s (cs.take i)).length = i := by rw [lo8s_len, List.length_take]; omega
  rw [List.set_append_right _ _ (by omega), hl, Nat.sub_self, List.replicate_succ, List.set_cons_zero, List.take_add_one, hc]
  simp [lo8s]
theorem map_at {cs : List Int32} {i : Nat} {c : Int32} (hc : cs[i]? = some c) : (cs.map Value.int).getD i (.int 0) = .int c := by simp [List.getD_eq_getElem?_getD, hc]
theorem at_of {cs : List Int32} {i : Nat} (h : i < cs.length) : ∃ c, cs[i]? = some c ∧ c ∈ cs := ⟨cs[i], List.getElem?_eq_getElem h, List.getElem_mem h⟩
theorem pd_0 : parseMethodDescriptor "([CI[BII)I" = some ⟨[(.array .char), .int, (.array .byte), .int, .int], (some .int)⟩ := by decide +kernel
theorem pd_1 : parseMethodDescriptor "([CII)[B" = some ⟨[(.array .char), .int, .int], (some (.array .byte))⟩ := by decide +kernel
theorem pd_2 : parseMethodDescriptor "([BI)B" = some ⟨[(.array .byte), .int], (some .byte)⟩ := by decide +kernel
theorem pd_3 : parseMethodDescriptor "([CIILjava/lang/Void;)V" = some ⟨[(.array .char), .int, .int, (.object "java/lang/Void")], none⟩ := by decide +kernel
theorem pd_4 : parseMethodDescriptor "()V" = some ⟨[], none⟩ := by decide +kernel
theorem pd_5 : parseMethodDescriptor "(Ljava/lang/Object;)Ljava/lang/Object;" = some ⟨[(.object "java/lang/Object")], (some (.object "java/lang/Object"))⟩ := by decide +kernel
theorem pd_6 : parseMethodDescriptor "([C)V" = some ⟨[(.array .char)], none⟩ := by decide +kernel
theorem pd_7 : parseMethodDescriptor "(I)Lcom/example/nightlatch/nightlatch/authorization/Refusal;" = some ⟨[.int], (some (.object "com/example/nightlatch/nightlatch/authorization/Refusal"))⟩ := by decide +kernel
theorem pd_8 : parseMethodDescriptor "(Lcom/example/nightlatch/nightlatch/authorization/Refusal;Ljava/lang/String;)V" = some ⟨[(.object "com/example/nightlatch/nightlatch/authorization/Refusal"), (.object "java/lang/String")], none⟩ := by decide +kernel
theorem pd_9 : parseMethodDescriptor "()Z" = some ⟨[], (some .boolean)⟩ := by decide +kernel
theorem d_b10_0 : decode jdk_52_method_21_code 0 = .ok (.iconst 0, 1) := by decide +kernel
theorem d_b10_1 : decode jdk_52_method_21_code 1 = .ok (.istore 5, 2) := by decide +kernel
theorem d_b10_3 : decode jdk_52_method_21_code 3 = .ok (.iload 5, 2) := by decide +kernel
theorem d_b10_5 : decode jdk_52_method_21_code 5 = .ok (.iload 4, 2) := by decide +kernel
theorem d_b10_7 : decode jdk_52_method_21_code 7 = .ok (.if_icmp .ge 37, 3) := by decide +kernel
theorem d_b10_10 : decode jdk_52_method_21_code 10 = .ok (.aload_n 0, 1) := by decide +kernel
theorem d_b10_11 : decode jdk_52_method_21_code 11 = .ok (.iload_n 1, 1) := by decide +kernel
theorem d_b10_12 : decode jdk_52_method_21_code 12 = .ok (.caload, 1) := by decide +kernel
theorem d_b10_13 : decode jdk_52_method_21_code 13 = .ok (.istore 6, 2) := by decide +kernel
theorem d_b10_15 : decode jdk_52_method_21_code 15 = .ok (.iload 6, 2) := by decide +kernel
theorem d_b10_17 : decode jdk_52_method_21_code 17 = .ok (.sipush 255, 3) := by decide +kernel
theorem d_b10_20 : decode jdk_52_method_21_code 20 = .ok (.if_icmp .le 6, 3) := by decide +kernel
theorem d_b10_26 : decode jdk_52_method_21_code 26 = .ok (.aload_n 2, 1) := by decide +kernel
theorem d_b10_27 : decode jdk_52_method_21_code 27 = .ok (.iload_n 3, 1) := by decide +kernel
theorem d_b10_28 : decode jdk_52_method_21_code 28 = .ok (.iload 6, 2) := by decide +kernel
theorem d_b10_30 : decode jdk_52_method_21_code 30 = .ok (.i2b, 1) := by decide +kernel
theorem d_b10_31 : decode jdk_52_method_21_code 31 = .ok (.bastore, 1) := by decide +kernel
theorem d_b10_32 : decode jdk_52_method_21_code 32 = .ok (.iinc 1 1, 3) := by decide +kernel
theorem d_b10_35 : decode jdk_52_method_21_code 35 = .ok (.iinc 3 1, 3) := by decide +kernel
theorem d_b10_38 : decode jdk_52_method_21_code 38 = .ok (.iinc 5 1, 3) := by decide +kernel
theorem d_b10_41 : decode jdk_52_method_21_code 41 = .ok (.goto (-38), 3) := by decide +kernel
theorem d_b10_44 : decode jdk_52_method_21_code 44 = .ok (.iload 4, 2) := by decide +kernel
theorem d_b10_46 : decode jdk_52_method_21_code 46 = .ok (.ireturn, 1) := by decide +kernel
theorem d_b11_0 : decode jdk_52_method_15_code 0 = .ok (.iload_n 1, 1) := by decide +kernel
theorem d_b11_1 : decode jdk_52_method_15_code 1 = .ok (.aload_n 0, 1) := by decide +kernel
theorem d_b11_2 : decode jdk_52_method_15_code 2 = .ok (.arraylength, 1) := by decide +kernel
theorem d_b11_3 : decode jdk_52_method_15_code 3 = .ok (.isub, 1) := by decide +kernel
theorem d_b11_4 : decode jdk_52_method_15_code 4 = .ok (.bipush 31, 2) := by decide +kernel
theorem d_b11_6 : decode jdk_52_method_15_code 6 = .ok (.iushr, 1) := by decide +kernel
theorem d_b11_7 : decode jdk_52_method_15_code 7 = .ok (.i2b, 1) := by decide +kernel
theorem d_b11_8 : decode jdk_52_method_15_code 8 = .ok (.ireturn, 1) := by decide +kernel
theorem d_b9_0 : decode jdk_52_method_16_code 0 = .ok (.iload_n 2, 1) := by decide +kernel
theorem d_b9_1 : decode jdk_52_method_16_code 1 = .ok (.newarray .byte, 2) := by decide +kernel
theorem d_b9_3 : decode jdk_52_method_16_code 3 = .ok (.astore_n 3, 1) := by decide +kernel
theorem d_b9_4 : decode jdk_52_method_16_code 4 = .ok (.aload_n 0, 1) := by decide +kernel
theorem d_b9_5 : decode jdk_52_method_16_code 5 = .ok (.iload_n 1, 1) := by decide +kernel
theorem d_b9_6 : decode jdk_52_method_16_code 6 = .ok (.aload_n 3, 1) := by decide +kernel
theorem d_b9_7 : decode jdk_52_method_16_code 7 = .ok (.iconst 0, 1) := by decide +kernel
theorem d_b9_8 : decode jdk_52_method_16_code 8 = .ok (.iload_n 2, 1) := by decide +kernel
theorem d_b9_9 : decode jdk_52_method_16_code 9 = .ok (.invokestatic 115, 3) := by decide +kernel
theorem d_b9_12 : decode jdk_52_method_16_code 12 = .ok (.istore 4, 2) := by decide +kernel
theorem d_b9_14 : decode jdk_52_method_16_code 14 = .ok (.iload 4, 2) := by decide +kernel
theorem d_b9_16 : decode jdk_52_method_16_code 16 = .ok (.iload_n 2, 1) := by decide +kernel
theorem d_b9_17 : decode jdk_52_method_16_code 17 = .ok (.if_icmp .eq 40, 3) := by decide +kernel
theorem d_b9_57 : decode jdk_52_method_16_code 57 = .ok (.aload_n 3, 1) := by decide +kernel
theorem d_b9_58 : decode jdk_52_method_16_code 58 = .ok (.areturn, 1) := by decide +kernel
theorem d_b2_0 : decode jdk_42_method_149_code 0 = .ok (.aload_n 0, 1) := by decide +kernel
theorem d_b2_1 : decode jdk_42_method_149_code 1 = .ok (.invokespecial 1, 3) := by decide +kernel
theorem d_b2_4 : decode jdk_42_method_149_code 4 = .ok (.iload_n 3, 1) := by decide +kernel
theorem d_b2_5 : decode jdk_42_method_149_code 5 = .ok (.ifCond .ne 22, 3) := by decide +kernel
theorem d_b2_8 : decode jdk_42_method_149_code 8 = .ok (.aload_n 0, 1) := by decide +kernel
theorem d_b2_9 : decode jdk_42_method_149_code 9 = .ok (.ldc 7, 2) := by decide +kernel
theorem d_b2_11 : decode jdk_42_method_149_code 11 = .ok (.getfield 9, 3) := by decide +kernel
theorem d_b2_14 : decode jdk_42_method_149_code 14 = .ok (.putfield 9, 3) := by decide +kernel
theorem d_b2_17 : decode jdk_42_method_149_code 17 = .ok (.aload_n 0, 1) := by decide +kernel
theorem d_b2_18 : decode jdk_42_method_149_code 18 = .ok (.ldc 7, 2) := by decide +kernel
theorem d_b2_20 : decode jdk_42_method_149_code 20 = .ok (.getfield 15, 3) := by decide +kernel
theorem d_b2_23 : decode jdk_42_method_149_code 23 = .ok (.putfield 15, 3) := by decide +kernel
theorem d_b2_26 : decode jdk_42_method_149_code 26 = .ok (.return_, 1) := by decide +kernel
theorem d_b2_27 : decode jdk_42_method_149_code 27 = .ok (.getstatic 38, 3) := by decide +kernel
theorem d_b2_30 : decode jdk_42_method_149_code 30 = .ok (.ifCond .eq 28, 3) := by decide +kernel
theorem d_b2_33 : decode jdk_42_method_149_code 33 = .ok (.aload_n 1, 1) := by decide +kernel
theorem d_b2_34 : decode jdk_42_method_149_code 34 = .ok (.iload_n 2, 1) := by decide +kernel
theorem d_b2_35 : decode jdk_42_method_149_code 35 = .ok (.iload_n 3, 1) := by decide +kernel
theorem d_b2_36 : decode jdk_42_method_149_code 36 = .ok (.invokestatic 177, 3) := by decide +kernel
theorem d_b2_39 : decode jdk_42_method_149_code 39 = .ok (.astore 5, 2) := by decide +kernel
theorem d_b2_41 : decode jdk_42_method_149_code 41 = .ok (.aload_n 0, 1) := by decide +kernel
theorem d_b2_42 : decode jdk_42_method_149_code 42 = .ok (.aload 5, 2) := by decide +kernel
theorem d_b2_44 : decode jdk_42_method_149_code 44 = .ok (.iload_n 3, 1) := by decide +kernel
theorem d_b2_45 : decode jdk_42_method_149_code 45 = .ok (.invokestatic 47, 3) := by decide +kernel
theorem d_b2_48 : decode jdk_42_method_149_code 48 = .ok (.putfield 15, 3) := by decide +kernel
theorem d_b2_51 : decode jdk_42_method_149_code 51 = .ok (.aload_n 0, 1) := by decide +kernel
theorem d_b2_52 : decode jdk_42_method_149_code 52 = .ok (.aload 5, 2) := by decide +kernel
theorem d_b2_54 : decode jdk_42_method_149_code 54 = .ok (.putfield 9, 3) := by decide +kernel
theorem d_b2_57 : decode jdk_42_method_149_code 57 = .ok (.return_, 1) := by decide +kernel
theorem d_b1_0 : decode jdk_42_method_3_code 0 = .ok (.aload_n 0, 1) := by decide +kernel
theorem d_b1_1 : decode jdk_42_method_3_code 1 = .ok (.aload_n 1, 1) := by decide +kernel
theorem d_b1_2 : decode jdk_42_method_3_code 2 = .ok (.iconst 0, 1) := by decide +kernel
theorem d_b1_3 : decode jdk_42_method_3_code 3 = .ok (.aload_n 1, 1) := by decide +kernel
theorem d_b1_4 : decode jdk_42_method_3_code 4 = .ok (.arraylength, 1) := by decide +kernel
theorem d_b1_5 : decode jdk_42_method_3_code 5 = .ok (.aconst_null, 1) := by decide +kernel
theorem d_b1_6 : decode jdk_42_method_3_code 6 = .ok (.invokespecial 27, 3) := by decide +kernel
theorem d_b1_9 : decode jdk_42_method_3_code 9 = .ok (.return_, 1) := by decide +kernel
theorem d_b4_0 : decode method_2_code 0 = .ok (.iload_n 0, 1) := by decide +kernel
theorem d_b4_1 : decode method_2_code 1 = .ok (.iconst 1, 1) := by decide +kernel
theorem d_b4_2 : decode method_2_code 2 = .ok (.if_icmp .ne 7, 3) := by decide +kernel
theorem d_b4_5 : decode method_2_code 5 = .ok (.getstatic 7, 3) := by decide +kernel
theorem d_b4_8 : decode method_2_code 8 = .ok (.areturn, 1) := by decide +kernel
theorem d_b4_9 : decode method_2_code 9 = .ok (.iload_n 0, 1) := by decide +kernel
theorem d_b4_10 : decode method_2_code 10 = .ok (.iconst 2, 1) := by decide +kernel
theorem d_b4_11 : decode method_2_code 11 = .ok (.if_icmp .ne 7, 3) := by decide +kernel
theorem d_b4_14 : decode method_2_code 14 = .ok (.getstatic 13, 3) := by decide +kernel
theorem d_b4_17 : decode method_2_code 17 = .ok (.areturn, 1) := by decide +kernel
theorem d_b4_18 : decode method_2_code 18 = .ok (.iload_n 0, 1) := by decide +kernel
theorem d_b4_19 : decode method_2_code 19 = .ok (.iconst 3, 1) := by decide +kernel
theorem d_b4_20 : decode method_2_code 20 = .ok (.if_icmp .ne 7, 3) := by decide +kernel
theorem d_b4_23 : decode method_2_code 23 = .ok (.getstatic 16, 3) := by decide +kernel
theorem d_b4_26 : decode method_2_code 26 = .ok (.areturn, 1) := by decide +kernel
theorem d_b4_27 : decode method_2_code 27 = .ok (.iload_n 0, 1) := by decide +kernel
theorem d_b4_28 : decode method_2_code 28 = .ok (.iconst 4, 1) := by decide +kernel
theorem d_b4_29 : decode method_2_code 29 = .ok (.if_icmp .ne 7, 3) := by decide +kernel
theorem d_b4_32 : decode method_2_code 32 = .ok (.getstatic 19, 3) := by decide +kernel
theorem d_b4_35 : decode method_2_code 35 = .ok (.areturn, 1) := by decide +kernel
theorem d_b4_36 : decode method_2_code 36 = .ok (.iload_n 0, 1) := by decide +kernel
theorem d_b4_37 : decode method_2_code 37 = .ok (.iconst 5, 1) := by decide +kernel
theorem d_b4_38 : decode method_2_code 38 = .ok (.if_icmp .ne 7, 3) := by decide +kernel
theorem d_b4_41 : decode method_2_code 41 = .ok (.getstatic 22, 3) := by decide +kernel
theorem d_b4_44 : decode method_2_code 44 = .ok (.areturn, 1) := by decide +kernel
theorem d_b4_45 : decode method_2_code 45 = .ok (.iload_n 0, 1) := by decide +kernel
theorem d_b4_46 : decode method_2_code 46 = .ok (.bipush 6, 2) := by decide +kernel
theorem d_b4_48 : decode method_2_code 48 = .ok (.if_icmp .ne 7, 3) := by decide +kernel
theorem d_b4_51 : decode method_2_code 51 = .ok (.getstatic 25, 3) := by decide +kernel
theorem d_b4_54 : decode method_2_code 54 = .ok (.areturn, 1) := by decide +kernel
theorem d_b4_55 : decode method_2_code 55 = .ok (.iload_n 0, 1) := by decide +kernel
theorem d_b4_56 : decode method_2_code 56 = .ok (.bipush 7, 2) := by decide +kernel
theorem d_b4_58 : decode method_2_code 58 = .ok (.if_icmp .ne 7, 3) := by decide +kernel
theorem d_b4_61 : decode method_2_code 61 = .ok (.getstatic 28, 3) := by decide +kernel
theorem d_b4_64 : decode method_2_code 64 = .ok (.areturn, 1) := by decide +kernel
theorem d_b4_65 : decode method_2_code 65 = .ok (.iload_n 0, 1) := by decide +kernel
theorem d_b4_66 : decode method_2_code 66 = .ok (.bipush 8, 2) := by decide +kernel
theorem d_b4_68 : decode method_2_code 68 = .ok (.if_icmp .ne 7, 3) := by decide +kernel
theorem d_b4_71 : decode method_2_code 71 = .ok (.getstatic 31, 3) := by decide +kernel
theorem d_b4_74 : decode method_2_code 74 = .ok (.areturn, 1) := by decide +kernel
theorem d_b4_75 : decode method_2_code 75 = .ok (.iload_n 0, 1) := by decide +kernel
theorem d_b4_76 : decode method_2_code 76 = .ok (.bipush 9, 2) := by decide +kernel
theorem d_b4_78 : decode method_2_code 78 = .ok (.if_icmp .ne 7, 3) := by decide +kernel
theorem d_b4_81 : decode method_2_code 81 = .ok (.getstatic 34, 3) := by decide +kernel
theorem d_b4_84 : decode method_2_code 84 = .ok (.areturn, 1) := by decide +kernel
theorem d_b4_85 : decode method_2_code 85 = .ok (.aconst_null, 1) := by decide +kernel
theorem d_b4_86 : decode method_2_code 86 = .ok (.areturn, 1) := by decide +kernel
theorem d_b6_0 : decode jdk_30_method_1_code 0 = .ok (.aload_n 0, 1) := by decide +kernel
theorem d_b6_1 : decode jdk_30_method_1_code 1 = .ok (.invokespecial 1, 3) := by decide +kernel
theorem d_b6_4 : decode jdk_30_method_1_code 4 = .ok (.return_, 1) := by decide +kernel
theorem d_b7_0 : decode jdk_31_method_10_code 0 = .ok (.aload_n 0, 1) := by decide +kernel
theorem d_b7_1 : decode jdk_31_method_10_code 1 = .ok (.ifnonnull 11, 3) := by decide +kernel
theorem d_b7_12 : decode jdk_31_method_10_code 12 = .ok (.aload_n 0, 1) := by decide +kernel
theorem d_b7_13 : decode jdk_31_method_10_code 13 = .ok (.areturn, 1) := by decide +kernel
theorem d_b5_0 : decode prog_1_method_1_code 0 = .ok (.aload_n 0, 1) := by decide +kernel
theorem d_b5_1 : decode prog_1_method_1_code 1 = .ok (.invokespecial 1, 3) := by decide +kernel
theorem d_b5_4 : decode prog_1_method_1_code 4 = .ok (.aload_n 2, 1) := by decide +kernel
theorem d_b5_5 : decode prog_1_method_1_code 5 = .ok (.invokestatic 7, 3) := by decide +kernel
theorem d_b5_8 : decode prog_1_method_1_code 8 = .ok (.pop, 1) := by decide +kernel
theorem d_b5_9 : decode prog_1_method_1_code 9 = .ok (.aload_n 0, 1) := by decide +kernel
theorem d_b5_10 : decode prog_1_method_1_code 10 = .ok (.aload_n 1, 1) := by decide +kernel
theorem d_b5_11 : decode prog_1_method_1_code 11 = .ok (.putfield 13, 3) := by decide +kernel
theorem d_b5_14 : decode prog_1_method_1_code 14 = .ok (.aload_n 0, 1) := by decide +kernel
theorem d_b5_15 : decode prog_1_method_1_code 15 = .ok (.aload_n 2, 1) := by decide +kernel
theorem d_b5_16 : decode prog_1_method_1_code 16 = .ok (.putfield 19, 3) := by decide +kernel
theorem d_b5_19 : decode prog_1_method_1_code 19 = .ok (.return_, 1) := by decide +kernel
theorem d_b8_0 : decode prog_1_method_2_code 0 = .ok (.aload_n 0, 1) := by decide +kernel
theorem d_b8_1 : decode prog_1_method_2_code 1 = .ok (.getfield 13, 3) := by decide +kernel
theorem d_b8_4 : decode prog_1_method_2_code 4 = .ok (.ifnonnull 7, 3) := by decide +kernel
theorem d_b8_7 : decode prog_1_method_2_code 7 = .ok (.iconst 1, 1) := by decide +kernel
theorem d_b8_8 : decode prog_1_method_2_code 8 = .ok (.goto 4, 3) := by decide +kernel
theorem d_b8_11 : decode prog_1_method_2_code 11 = .ok (.iconst 0, 1) := by decide +kernel
theorem d_b8_12 : decode prog_1_method_2_code 12 = .ok (.ireturn, 1) := by decide +kernel
set_option maxRecDepth 65536 in
set_option maxHeartbeats 4000000 in
theorem cmp5_loop {l : Launch} {Z : State} {a0 : Array Value} {n0 : Nat} (hB : Base Z a0) {b d : Addr} {kb kd : ClassId} (cs : List Int32) (hn : cs.length ≤ 4000) (hc : ∀ c ∈ cs, ¬ (255 : Int32) < c) (hne : b ≠ d) (h0 : Heap) :
    ∀ (j i : Nat) (h : Heap) (o6 : Slot), One o6 → i + j = cs.length → Keep h0 h [d] → Arv Z h b kb .char (Int32.ofNat cs.length) (cs.map Value.int) (.int 0) → Arv Z h d kd .byte (Int32.ofNat cs.length) (lo8s (cs.take i) ++ List.replicate j (Value.int 0)) (.int 0) →
      Go l Z a0 ELc n0 ({ frames := 0, cells := 0, slots := 0, locals := 0 } : Room) "java/lang/StringUTF16" jdk_52_method_21_code 7 (Option.some FieldType.int) "compress" (fun v h' sf' => v = some (.int (Int32.ofNat cs.length)) ∧ sf' = [] ∧ Keep h0 h' [d] ∧ Arv Z h' d kd .byte (Int32.ofNat cs.length) (lo8s cs) (.int 0)) h [d] 0 0 3 #[.val (.ref b), .val (.int (Int32.ofNat i)), .val (.ref d), .val (.int (Int32.ofNat i)), .val (.int (Int32.ofNat cs.length)), .val (.int (Int32.ofNat i)), o6] [] := by
  intro j
  induction j with
  | zero =>
    intro i h o6 ho hi K A B
    refine go_iload d_b10_3 rfl rfl ?_
    refine go_iload d_b10_5 rfl rfl ?_
    refine go_icmp_ge_t (pt := 44) d_b10_7 (by decide) (by decide) (ofN_nlt (by omega) (by omega)) ?_
    refine go_iload d_b10_44 rfl rfl ?_
    refine go_retI d_b10_46 [] rfl (by decide) (by decide) (fun _ q => nomatch q) ?_
    refine ⟨rfl, rfl, K, ?_⟩
    have e : i = cs.length := by omega
    subst e
    simpa using B
  | succ j ih =>
    intro i h o6 ho hi K A B
    obtain ⟨c, hci, hcm⟩ := at_of (cs := cs) (i := i) (by omega)
    refine go_iload d_b10_3 rfl rfl ?_
    refine go_iload d_b10_5 rfl rfl ?_
    refine go_icmp_ge_f d_b10_7 rfl (ofN_lt (by omega) (by omega)) ?_
    refine go_aloadN d_b10_10 rfl rfl rfl ?_
    refine go_iloadN d_b10_11 rfl rfl ?_
    refine go_caload (v := (.int c)) i d_b10_12 rfl A ⟨ofN_nneg (by omega), ofN_lt (by omega) (by omega)⟩ (ofN_cl (by omega)) (map_at hci) ?_
    refine go_istore d_b10_13 rfl #[.val (.ref b), .val (.int (Int32.ofNat i)), .val (.ref d), .val (.int (Int32.ofNat i)), .val (.int (Int32.ofNat cs.length)), .val (.int (Int32.ofNat i)), .val (.int c)] (XS.store1 rfl ho rfl) ?_
    refine go_iload d_b10_15 rfl rfl ?_
    refine go_sipush 255 d_b10_17 rfl (by decide) ?_
    refine go_icmp_le_t (pt := 26) d_b10_20 (by decide) (by decide) (hc c hcm) ?_
    refine go_aloadN d_b10_26 rfl rfl rfl ?_
    refine go_iloadN d_b10_27 rfl rfl ?_
    refine go_iload d_b10_28 rfl rfl ?_
    refine go_i2b d_b10_30 rfl ?_
    refine go_bastore i d_b10_31 rfl B ⟨ofN_nneg (by omega), ofN_lt (by omega) (by omega)⟩ (ofN_cl (by omega)) (by simp [lo8s_len]; omega) (List.Mem.head _) ?_
    intro h1 W2 B3
    have B4 : Arv Z h1 d kd .byte (Int32.ofNat cs.length) ((lo8s (cs.take i) ++ List.replicate (j + 1) (Value.int 0)).set i (Value.int c.toInt8.toInt32.toInt8.toInt32)) (.int 0) := B3
    refine go_iinc 1 d_b10_32 rfl #[.val (.ref b), .val (.int ((Int32.ofNat i) + 1)), .val (.ref d), .val (.int (Int32.ofNat i)), .val (.int (Int32.ofNat cs.length)), .val (.int (Int32.ofNat i)), .val (.int c)] (by decide) rfl rfl ?_
    refine go_iinc 1 d_b10_35 rfl #[.val (.ref b), .val (.int ((Int32.ofNat i) + 1)), .val (.ref d), .val (.int ((Int32.ofNat i) + 1)), .val (.int (Int32.ofNat cs.length)), .val (.int (Int32.ofNat i)), .val (.int c)] (by decide) rfl rfl ?_
    refine go_iinc 1 d_b10_38 rfl #[.val (.ref b), .val (.int ((Int32.ofNat i) + 1)), .val (.ref d), .val (.int ((Int32.ofNat i) + 1)), .val (.int (Int32.ofNat cs.length)), .val (.int ((Int32.ofNat i) + 1)), .val (.int c)] (by decide) rfl rfl ?_
    refine go_goto (pt := 3) d_b10_41 (by decide) (by decide) ?_
    rw [ofN_succ]
    have F5 := (Arv.other A W2 hne)
    have e8 : c.toInt8.toInt32.toInt8.toInt32 = c.toInt8.toInt32 := by simp
    rw [e8, lo8s_set hci hi] at B4
    exact ih (i + 1) _ _ (One.val rfl) (by omega) (K.wr W2 (Or.inl (List.Mem.head _))) F5 B4
set_option maxRecDepth 65536 in
set_option maxHeartbeats 4000000 in
theorem c_cmp5 {l : Launch} {Z : State} {a0 : Array Value} {n0 : Nat} (hB : Base Z a0) {b d : Addr} {kb kd : ClassId} (cs : List Int32) (hn : cs.length ≤ 4000) (hc : ∀ c ∈ cs, ¬ (255 : Int32) < c) (hne : b ≠ d) {h : Heap} (A : Arv Z h b kb .char (Int32.ofNat cs.length) (cs.map Value.int) (.int 0)) (B : Arv Z h d kd .byte (Int32.ofNat cs.length) (List.replicate cs.length (Value.int 0)) (.int 0)) :
    Con l Z ELc n0 (⟨"java/lang/StringUTF16", "compress", "([CI[BII)I"⟩ : MethodName) jdk_52_method_21_code 7 (Option.some FieldType.int) [] ({ frames := 0, cells := 0, slots := 0, locals := 0 } : Room) #[.ref b, .int 0, .ref d, .int 0, .int (Int32.ofNat cs.length)] h [d] (fun v h' sf' => v = some (.int (Int32.ofNat cs.length)) ∧ sf' = [] ∧ Keep h h' [d] ∧ Arv Z h' d kd .byte (Int32.ofNat cs.length) (lo8s cs) (.int 0)) := by
  refine con_of (a0 := a0) (ls := #[.val (.ref b), .val (.int 0), .val (.ref d), .val (.int 0), .val (.int (Int32.ofNat cs.length)), .unset, .unset]) (plainFor_of_name (by decide +kernel)) hB.2.1 (fun m => by first | rfl | simp [entryFrame, mkF, argsToLocals, Value.category]) ?_
  show Go l Z a0 ELc n0 ({ frames := 0, cells := 0, slots := 0, locals := 0 } : Room) "java/lang/StringUTF16" jdk_52_method_21_code 7 (Option.some FieldType.int) "compress" _ h [d] 0 0 0 #[.val (.ref b), .val (.int 0), .val (.ref d), .val (.int 0), .val (.int (Int32.ofNat cs.length)), .unset, .unset] []
  refine go_iconst 0 d_b10_0 rfl (by decide) ?_
  refine go_istore d_b10_1 rfl #[.val (.ref b), .val (.int 0), .val (.ref d), .val (.int 0), .val (.int (Int32.ofNat cs.length)), .val (.int 0), .unset] rfl ?_
  exact cmp5_loop hB cs hn hc hne h cs.length 0 h _ One.u (by omega) (Keep.refl _ _) A (by simpa [lo8s] using B)
set_option maxRecDepth 65536 in
set_option maxHeartbeats 4000000 in
theorem c_cod {l : Launch} {Z : State} {a0 : Array Value} {n0 : Nat} (hB : Base Z a0) {d : Addr} {kd : ClassId} {z : Int32} {vs : List Value} {h : Heap} (B : Arv Z h d kd .byte z vs (.int 0)) :
    Con l Z ELc n0 (⟨"java/lang/StringUTF16", "coderFromArrayLen", "([BI)B"⟩ : MethodName) jdk_52_method_15_code 2 (Option.some FieldType.byte) [] ({ frames := 0, cells := 0, slots := 0, locals := 0 } : Room) #[.ref d, .int z] h [] (fun v h' sf' => v = some (.int 0) ∧ sf' = [] ∧ h = h') := by
  refine con_of (a0 := a0) (ls := #[.val (.ref d), .val (.int z)]) (plainFor_of_name (by decide +kernel)) hB.2.1 (fun m => by first | rfl | simp [entryFrame, mkF, argsToLocals, Value.category]) ?_
  show Go l Z a0 ELc n0 ({ frames := 0, cells := 0, slots := 0, locals := 0 } : Room) "java/lang/StringUTF16" jdk_52_method_15_code 2 (Option.some FieldType.byte) "coderFromArrayLen" _ h [] 0 0 0 #[.val (.ref d), .val (.int z)] []
  refine go_iloadN d_b11_0 rfl rfl ?_
  refine go_aloadN d_b11_1 rfl rfl rfl ?_
  refine go_alen d_b11_2 rfl B ?_
  refine go_isub d_b11_3 rfl ?_
  refine go_bipush 31 d_b11_4 rfl (by decide) ?_
  refine go_iushr d_b11_6 rfl ?_
  refine go_i2b d_b11_7 rfl ?_
  refine go_retN (t := .byte) d_b11_8 [] rfl (by simp) (by decide) (by decide) (fun _ q => nomatch q) ?_
  refine ⟨?_, rfl, rfl⟩
  rw [Int32.sub_self]
  decide
set_option maxRecDepth 65536 in
set_option maxHeartbeats 4000000 in
theorem c_cmp3 {l : Launch} {Z : State} {a0 : Array Value} {n0 : Nat} (hB : Base Z a0) {b : Addr} {kb : ClassId} (cs : List Int32) (hn : cs.length ≤ 16) (hc : ∀ c ∈ cs, ¬ (255 : Int32) < c) {h : Heap} (A : Arv Z h b kb .char (Int32.ofNat cs.length) (cs.map Value.int) (.int 0)) :
    Con l Z ELc n0 (⟨"java/lang/StringUTF16", "compress", "([CII)[B"⟩ : MethodName) jdk_52_method_16_code 6 (Option.some (FieldType.array FieldType.byte)) [] ({ frames := 1, cells := 1, slots := 16, locals := 18 } : Room) #[.ref b, .int 0, .int (Int32.ofNat cs.length)] h [] (fun v h' sf' => ∃ d kd, v = some (.ref d) ∧ sf' = [] ∧ Ext h h' ∧ h.size ≤ d ∧ Arv Z h' d kd .byte (Int32.ofNat cs.length) (lo8s cs) (.int 0)) := by
  refine con_of (a0 := a0) (ls := #[.val (.ref b), .val (.int 0), .val (.int (Int32.ofNat cs.length)), .unset, .unset, .unset]) (plainFor_of_name (by decide +kernel)) hB.2.1 (fun m => by first | rfl | simp [entryFrame, mkF, argsToLocals, Value.category]) ?_
  show Go l Z a0 ELc n0 ({ frames := 1, cells := 1, slots := 16, locals := 18 } : Room) "java/lang/StringUTF16" jdk_52_method_16_code 6 (Option.some (FieldType.array FieldType.byte)) "compress" _ h [] 0 0 0 #[.val (.ref b), .val (.int 0), .val (.int (Int32.ofNat cs.length)), .unset, .unset, .unset] []
  refine go_iloadN d_b9_0 rfl rfl ?_
  refine go_newarr (ty := .byte) (ad := "[B") 16 d_b9_1 rfl rfl (wd hB 16 rfl) (ofN_nneg (by omega)) (by rw [ofN_cl (by omega)]; exact hn) (by decide) (by decide) (by decide) (by decide) ?_
  intro h6 x1 hx2 E3 ⟨A4, k5, B7⟩
  have B8 : Arv Z h6 x1 k5 .byte (Int32.ofNat cs.length) (List.replicate cs.length (Value.int 0)) (.int 0) := B7.pad (pad_rep [] (.int 0) cs.length)
  refine go_astoreN d_b9_3 rfl #[.val (.ref b), .val (.int 0), .val (.int (Int32.ofNat cs.length)), .val (.ref x1), .unset, .unset] rfl rfl ?_
  refine go_aloadN d_b9_4 rfl rfl rfl ?_
  refine go_iloadN d_b9_5 rfl rfl ?_
  refine go_aloadN d_b9_6 rfl rfl rfl ?_
  refine go_iconst 0 d_b9_7 rfl (by decide) ?_
  refine go_iloadN d_b9_8 rfl rfl ?_
  have F9 := (A.ext E3)
  refine go_static [(.ref b), (.int 0), (.ref x1), (.int 0), (.int (Int32.ofNat cs.length))] [] 0 d_b9_9 rfl (wd hB 64 rfl) (wd hB 65 rfl) (wd hB 62 rfl) (wd hB 66 rfl) (c_cmp5 hB cs (by omega) hc (Nat.ne_of_lt (Nat.lt_of_lt_of_le A.lt (Nat.le_of_eq hx2.symm))) F9 B8) (allS (List.Mem.head _) (fun _ q => nomatch q)) (lenOf pd_0 rfl) rfl rfl rfl (by decide) (by decide) (by decide) (by decide) (by decide) (fun v10 h11 s12 q13 => ?_)
  obtain ⟨rfl, rfl, K14, B15⟩ := q13
  show Go _ _ _ _ _ _ _ _ _ _ _ _ h11 [x1] 1 16 12 #[.val (.ref b), .val (.int 0), .val (.int (Int32.ofNat cs.length)), .val (.ref x1), .unset, .unset] [(.int (Int32.ofNat cs.length))]
  refine go_istore d_b9_12 rfl #[.val (.ref b), .val (.int 0), .val (.int (Int32.ofNat cs.length)), .val (.ref x1), .val (.int (Int32.ofNat cs.length)), .unset] rfl ?_
  refine go_iload d_b9_14 rfl rfl ?_
  refine go_iloadN d_b9_16 rfl rfl ?_
  refine go_icmp_eq_t (pt := 57) d_b9_17 (by decide) (by decide) rfl ?_
  refine go_aloadN d_b9_57 rfl rfl rfl ?_
  refine go_retA d_b9_58 [] rfl rfl rfl rfl (by decide) (by decide) (fun _ q => nomatch q) ?_
  exact ⟨_, _, rfl, rfl, (ext_of_keep (((Keep.refl h []).ext E3).trans K14 (allS (Or.inr (Nat.le_of_eq hx2.symm)) all0))), (Nat.le_of_eq hx2.symm), B15⟩
set_option maxRecDepth 65536 in
set_option maxHeartbeats 4000000 in
theorem c_sinit4 {l : Launch} {Z : State} {a0 : Array Value} {n0 : Nat} (hB : Base Z a0) {x b : Addr} {kb : ClassId} (cs : List Int32) (hp : 0 < cs.length) (hn : cs.length ≤ 16) (hc : ∀ c ∈ cs, ¬ (255 : Int32) < c) {h : Heap} (A : Arv Z h b kb .char (Int32.ofNat cs.length) (cs.map Value.int) (.int 0)) (E : Exa Z h x "java/lang/String") (F1 : Fld Z h x "java/lang/String" "value" "[B" .null) (F2 : Fld Z h x "java/lang/String" "coder" "B" (.int 0)) (hge : n0 ≤ x) :
    Con l Z ELc n0 (⟨"java/lang/String", "<init>", "([CIILjava/lang/Void;)V"⟩ : MethodName) jdk_42_method_149_code 6 (Option.none : Option FieldType) [] ({ frames := 2, cells := 1, slots := 16, locals := 37 } : Room) #[.ref x, .ref b, .int 0, .int (Int32.ofNat cs.length), .null] h [x] (fun v h' sf' => v = none ∧ sf' = [] ∧ Keep h h' [x] ∧ Exa Z h' x "java/lang/String" ∧ Fld Z h' x "java/lang/String" "coder" "B" (.int 0) ∧ ∃ d kd, h.size ≤ d ∧ Fld Z h' x "java/lang/String" "value" "[B" (.ref d) ∧ Arv Z h' d kd .byte (Int32.ofNat cs.length) (lo8s cs) (.int 0)) := by
  refine con_of (a0 := a0) (ls := #[.val (.ref x), .val (.ref b), .val (.int 0), .val (.int (Int32.ofNat cs.length)), .val .null, .unset]) (plainFor_of_name (by decide +kernel)) hB.2.1 (fun m => by first | rfl | simp [entryFrame, mkF, argsToLocals, Value.category]) ?_
  show Go l Z a0 ELc n0 ({ frames := 2, cells := 1, slots := 16, locals := 37 } : Room) "java/lang/String" jdk_42_method_149_code 6 (Option.none : Option FieldType) "<init>" _ h [x] 0 0 0 #[.val (.ref x), .val (.ref b), .val (.int 0), .val (.int (Int32.ofNat cs.length)), .val .null, .unset] []
  obtain ⟨cz, hS, hcz⟩ := hB.2.2.1
  refine go_aloadN d_b2_0 rfl rfl rfl ?_
  refine go_initO d_b2_1 rfl (wd hB 12 rfl) (wd hB 13 rfl) (wd hB 14 rfl) rfl (by decide) 0 rfl (by decide) ?_
  refine go_iloadN d_b2_4 rfl rfl ?_
  refine go_if_ne_t (pt := 27) d_b2_5 (by decide) (by decide) (ofN_pos hp (by omega)) ?_
  refine go_getstatic d_b2_27 rfl (wd hB 59 rfl) Via.refl hS ?_
  refine go_if_eq_f d_b2_30 rfl hcz ?_
  refine go_aloadN d_b2_33 rfl rfl rfl ?_
  refine go_iloadN d_b2_34 rfl rfl ?_
  refine go_iloadN d_b2_35 rfl rfl ?_
  refine go_static [(.ref b), (.int 0), (.int (Int32.ofNat cs.length))] [] 0 d_b2_36 rfl (wd hB 60 rfl) (wd hB 61 rfl) (wd hB 62 rfl) (wd hB 63 rfl) (c_cmp3 hB cs hn hc A) (fun _ q => nomatch q) (lenOf pd_1 rfl) rfl rfl rfl (by decide) (by decide) (by decide) (by decide) (by decide) (fun v1 h2 s3 q4 => ?_)
  obtain ⟨d5, k6, rfl, rfl, E7, g8, B9⟩ := q4
  show Go _ _ _ _ _ _ _ _ _ _ _ _ h2 [x] 1 16 39 #[.val (.ref x), .val (.ref b), .val (.int 0), .val (.int (Int32.ofNat cs.length)), .val .null, .unset] [(.ref d5)]
  refine go_astore d_b2_39 rfl #[.val (.ref x), .val (.ref b), .val (.int 0), .val (.int (Int32.ofNat cs.length)), .val .null, .val (.ref d5)] rfl rfl ?_
  refine go_aloadN d_b2_41 rfl rfl rfl ?_
  refine go_aload d_b2_42 rfl rfl rfl ?_
  refine go_iloadN d_b2_44 rfl rfl ?_
  refine go_static [(.ref d5), (.int (Int32.ofNat cs.length))] [(.ref x)] 1 d_b2_45 rfl (wd hB 67 rfl) (wd hB 68 rfl) (wd hB 62 rfl) (wd hB 69 rfl) (c_cod hB B9) (fun _ q => nomatch q) (lenOf pd_2 rfl) rfl rfl rfl (by decide) (by decide) (by decide) (by decide) (by decide) (fun v10 h11 s12 q13 => ?_)
  obtain ⟨rfl, rfl, rfl⟩ := q13
  show Go _ _ _ _ _ _ _ _ _ _ _ _ h2 [x] 1 16 48 #[.val (.ref x), .val (.ref b), .val (.int 0), .val (.int (Int32.ofNat cs.length)), .val .null, .val (.ref d5)] [(.int 0), (.ref x)]
  have F14 := (Fld.ext E7 F2)
  have F15 := (Exa.ext E7 E)
  refine go_putfield (ty := .byte) d_b2_48 rfl (wd hB 22 rfl) Via.refl F14 F15 (Or.inr ⟨(wd hB 18 rfl), rfl, rfl⟩) (wd hB 3 rfl) (by decide) (by decide) (by decide) (List.Mem.head _) ?_
  intro h16 W17
  have F18 := Fld.same W17 F14
  refine go_aloadN d_b2_51 rfl rfl rfl ?_
  refine go_aload d_b2_52 rfl rfl rfl ?_
  have F19 := (Fld.other W17 (Fld.ext E7 F1) (Or.inr (slot_ne (t := (.array .byte)) (t' := .byte) (Or.inr (wd hB 17 rfl) : Laid Z a0 "java/lang/String" "java/lang/String" "value" "[B") (Or.inr (wd hB 18 rfl) : Laid Z a0 "java/lang/String" "java/lang/String" "coder" "B") (by decide) (by decide) (by decide))))
  have F20 := (Exa.wr W17 F15)
  refine go_putfield (ty := (.array .byte)) d_b2_54 rfl (wd hB 21 rfl) Via.refl F19 F20 (Or.inr ⟨(wd hB 17 rfl), rfl, rfl⟩) (wd hB 3 rfl) (by decide) rfl rfl (List.Mem.head _) ?_
  intro h21 W22
  have F23 := Fld.same W22 F19
  have F24 := (Exa.wr W22 F20)
  have F25 := (Fld.other W22 F18 (Or.inr (slot_ne (t := .byte) (t' := (.array .byte)) (Or.inr (wd hB 18 rfl) : Laid Z a0 "java/lang/String" "java/lang/String" "coder" "B") (Or.inr (wd hB 17 rfl) : Laid Z a0 "java/lang/String" "java/lang/String" "value" "[B") (by decide) (by decide) (by decide))))
  have F26 := (Arv.other (Arv.other B9 W17 (Ne.symm (Nat.ne_of_lt (Nat.lt_of_lt_of_le E.lt g8)))) W22 (Ne.symm (Nat.ne_of_lt (Nat.lt_of_lt_of_le E.lt g8))))
  refine go_ret d_b2_57 [] rfl (by decide) (by decide) (fun _ q => nomatch q) ?_
  exact ⟨rfl, rfl, ((((Keep.refl h [x]).ext E7).wr W17 (Or.inl (List.Mem.head _))).wr W22 (Or.inl (List.Mem.head _))), F24, F25, _, _, g8, F23, F26⟩
set_option maxRecDepth 65536 in
set_option maxHeartbeats 4000000 in
theorem c_sinit4e {l : Launch} {Z : State} {a0 : Array Value} {n0 : Nat} (hB : Base Z a0) {x b : Addr} {h : Heap} (E : Exa Z h x "java/lang/String") (F1 : Fld Z h x "java/lang/String" "value" "[B" .null) (F2 : Fld Z h x "java/lang/String" "coder" "B" (.int 0)) :
    Con l Z ELc n0 (⟨"java/lang/String", "<init>", "([CIILjava/lang/Void;)V"⟩ : MethodName) jdk_42_method_149_code 6 (Option.none : Option FieldType) [] ({ frames := 1, cells := 4, slots := 8, locals := 12 } : Room) #[.ref x, .ref b, .int 0, .int 0, .null] h [x] (fun v h' sf' => v = none ∧ sf' = [] ∧ Keep h h' [x] ∧ Exa Z h' x "java/lang/String" ∧ Fld Z h' x "java/lang/String" "coder" "B" (.int 0) ∧ ∃ d kd, Fld Z h' x "java/lang/String" "value" "[B" (.ref d) ∧ Arv Z h' d kd .byte 0 [] (.int 0)) := by
  refine con_of (a0 := a0) (ls := #[.val (.ref x), .val (.ref b), .val (.int 0), .val (.int 0), .val .null, .unset]) (plainFor_of_name (by decide +kernel)) hB.2.1 (fun m => by first | rfl | simp [entryFrame, mkF, argsToLocals, Value.category]) ?_
  show Go l Z a0 ELc n0 ({ frames := 1, cells := 4, slots := 8, locals := 12 } : Room) "java/lang/String" jdk_42_method_149_code 6 (Option.none : Option FieldType) "<init>" _ h [x] 0 0 0 #[.val (.ref x), .val (.ref b), .val (.int 0), .val (.int 0), .val .null, .unset] []
  refine go_aloadN d_b2_0 rfl rfl rfl ?_
  refine go_initO d_b2_1 rfl (wd hB 12 rfl) (wd hB 13 rfl) (wd hB 14 rfl) rfl (by decide) 0 rfl (by decide) ?_
  refine go_iloadN d_b2_4 rfl rfl ?_
  refine go_if_ne_f d_b2_5 rfl (by decide) ?_
  refine go_aloadN d_b2_8 rfl rfl rfl ?_
  refine go_ldcT (text := "") 0 0 [] d_b2_9 rfl (wd hB 15 rfl) (stA hB) (by decide) ⟨by decide, by decide⟩ (by decide) (by decide) (by decide) (by decide) (by decide) (by decide) ?_
  intro h1 a2 b4 k5 E3 F6 F7 F8 F9 F10
  refine go_getfield d_b2_11 rfl (wd hB 21 rfl) Via.refl F8 ?_
  have F11 := (Fld.ext E3 F1)
  have F12 := (Exa.ext E3 E)
  refine go_putfield (ty := (.array .byte)) d_b2_14 rfl (wd hB 21 rfl) Via.refl F11 F12 (Or.inr ⟨(wd hB 17 rfl), rfl, rfl⟩) (wd hB 3 rfl) (by decide) rfl rfl (List.Mem.head _) ?_
  intro h13 W14
  have F15 := Fld.same W14 F11
  refine go_aloadN d_b2_17 rfl rfl rfl ?_
  refine go_ldcT (text := "") 0 0 [] d_b2_18 rfl (wd hB 15 rfl) (stA hB) (by decide) ⟨by decide, by decide⟩ (by decide) (by decide) (by decide) (by decide) (by decide) (by decide) ?_
  intro h16 a17 b19 k20 E18 F21 F22 F23 F24 F25
  refine go_getfield d_b2_20 rfl (wd hB 22 rfl) Via.refl F22 ?_
  have F26 := (Fld.ext E18 (Fld.other W14 (Fld.ext E3 F2) (Or.inr (slot_ne (t := .byte) (t' := (.array .byte)) (Or.inr (wd hB 18 rfl) : Laid Z a0 "java/lang/String" "java/lang/String" "coder" "B") (Or.inr (wd hB 17 rfl) : Laid Z a0 "java/lang/String" "java/lang/String" "value" "[B") (by decide) (by decide) (by decide)))))
  have F27 := (Exa.ext E18 (Exa.wr W14 F12))
  refine go_putfield (ty := .byte) d_b2_23 rfl (wd hB 22 rfl) Via.refl F26 F27 (Or.inr ⟨(wd hB 18 rfl), rfl, rfl⟩) (wd hB 3 rfl) (by decide) (by decide) (by decide) (List.Mem.head _) ?_
  intro h28 W29
  have F30 := Fld.same W29 F26
  have F31 := (Exa.wr W29 F27)
  have F32 := (Fld.other W29 (Fld.ext E18 F15) (Or.inr (slot_ne (t := (.array .byte)) (t' := .byte) (Or.inr (wd hB 17 rfl) : Laid Z a0 "java/lang/String" "java/lang/String" "value" "[B") (Or.inr (wd hB 18 rfl) : Laid Z a0 "java/lang/String" "java/lang/String" "coder" "B") (by decide) (by decide) (by decide))))
  have F33 := (Arv.other ((Arv.other F9 W14 (Ne.symm (F10 x (List.Mem.head _)).2)).ext E18) W29 (Ne.symm (F10 x (List.Mem.head _)).2))
  refine go_ret d_b2_26 [] rfl (by decide) (by decide) (fun _ q => nomatch q) ?_
  exact ⟨rfl, rfl, (((((Keep.refl h [x]).ext E3).wr W14 (Or.inl (List.Mem.head _))).ext E18).wr W29 (Or.inl (List.Mem.head _))), F31, F30, _, _, F32, F33⟩
set_option maxRecDepth 65536 in
set_option maxHeartbeats 4000000 in
theorem c_sinit {l : Launch} {Z : State} {a0 : Array Value} {n0 : Nat} (hB : Base Z a0) {x b : Addr} {kb : ClassId} (cs : List Int32) (hp : 0 < cs.length) (hn : cs.length ≤ 16) (hc : ∀ c ∈ cs, ¬ (255 : Int32) < c) {h : Heap} (A : Arv Z h b kb .char (Int32.ofNat cs.length) (cs.map Value.int) (.int 0)) (E : Exa Z h x "java/lang/String") (F1 : Fld Z h x "java/lang/String" "value" "[B" .null) (F2 : Fld Z h x "java/lang/String" "coder" "B" (.int 0)) (hge : n0 ≤ x) :
    Con l Z ELc n0 (⟨"java/lang/String", "<init>", "([C)V"⟩ : MethodName) jdk_42_method_3_code 2 (Option.none : Option FieldType) [] ({ frames := 3, cells := 1, slots := 16, locals := 54 } : Room) #[.ref x, .ref b] h [x] (fun v h' sf' => v = none ∧ sf' = [] ∧ Keep h h' [x] ∧ Exa Z h' x "java/lang/String" ∧ Fld Z h' x "java/lang/String" "coder" "B" (.int 0) ∧ ∃ d kd, h.size ≤ d ∧ Fld Z h' x "java/lang/String" "value" "[B" (.ref d) ∧ Arv Z h' d kd .byte (Int32.ofNat cs.length) (lo8s cs) (.int 0)) := by
  refine con_of (a0 := a0) (ls := #[.val (.ref x), .val (.ref b)]) (plainFor_of_name (by decide +kernel)) hB.2.1 (fun m => by first | rfl | simp [entryFrame, mkF, argsToLocals, Value.category]) ?_
  show Go l Z a0 ELc n0 ({ frames := 3, cells := 1, slots := 16, locals := 54 } : Room) "java/lang/String" jdk_42_method_3_code 2 (Option.none : Option FieldType) "<init>" _ h [x] 0 0 0 #[.val (.ref x), .val (.ref b)] []
  refine go_aloadN d_b1_0 rfl rfl rfl ?_
  refine go_aloadN d_b1_1 rfl rfl rfl ?_
  refine go_iconst 0 d_b1_2 rfl (by decide) ?_
  refine go_aloadN d_b1_3 rfl rfl rfl ?_
  refine go_alen d_b1_4 rfl A ?_
  refine go_aconstNull d_b1_5 rfl ?_
  refine go_special x [(.ref b), (.int 0), (.int (Int32.ofNat cs.length)), .null] [] 0 d_b1_6 rfl rfl (wd hB 8 rfl) (wd hB 9 rfl) (wd hB 4 rfl) (wd hB 11 rfl) (c_sinit4 hB cs hp hn hc A E F1 F2 hge) (allS (List.Mem.head _) (fun _ q => nomatch q)) (lenOf pd_3 rfl) rfl rfl rfl (by decide) (by decide) (by decide) (by decide) (by decide) (fun v1 h2 s3 q4 => ?_)
  obtain ⟨rfl, rfl, q1, q2, q3, q4⟩ := q4
  show Go _ _ _ _ _ _ _ _ _ _ _ _ h2 [x] 1 16 9 #[.val (.ref x), .val (.ref b)] []
  refine go_ret d_b1_9 [] rfl (by decide) (by decide) (fun _ q => nomatch q) ?_
  exact ⟨rfl, rfl, q1, q2, q3, q4⟩
set_option maxRecDepth 65536 in
set_option maxHeartbeats 4000000 in
theorem c_sinite {l : Launch} {Z : State} {a0 : Array Value} {n0 : Nat} (hB : Base Z a0) {x b : Addr} {kb : ClassId} {h : Heap} (A : Arv Z h b kb .char 0 [] (.int 0)) (E : Exa Z h x "java/lang/String") (F1 : Fld Z h x "java/lang/String" "value" "[B" .null) (F2 : Fld Z h x "java/lang/String" "coder" "B" (.int 0)) :
    Con l Z ELc n0 (⟨"java/lang/String", "<init>", "([C)V"⟩ : MethodName) jdk_42_method_3_code 2 (Option.none : Option FieldType) [] ({ frames := 2, cells := 4, slots := 8, locals := 29 } : Room) #[.ref x, .ref b] h [x] (fun v h' sf' => v = none ∧ sf' = [] ∧ Keep h h' [x] ∧ Exa Z h' x "java/lang/String" ∧ Fld Z h' x "java/lang/String" "coder" "B" (.int 0) ∧ ∃ d kd, Fld Z h' x "java/lang/String" "value" "[B" (.ref d) ∧ Arv Z h' d kd .byte 0 [] (.int 0)) := by
  refine con_of (a0 := a0) (ls := #[.val (.ref x), .val (.ref b)]) (plainFor_of_name (by decide +kernel)) hB.2.1 (fun m => by first | rfl | simp [entryFrame, mkF, argsToLocals, Value.category]) ?_
  show Go l Z a0 ELc n0 ({ frames := 2, cells := 4, slots := 8, locals := 29 } : Room) "java/lang/String" jdk_42_method_3_code 2 (Option.none : Option FieldType) "<init>" _ h [x] 0 0 0 #[.val (.ref x), .val (.ref b)] []
  refine go_aloadN d_b1_0 rfl rfl rfl ?_
  refine go_aloadN d_b1_1 rfl rfl rfl ?_
  refine go_iconst 0 d_b1_2 rfl (by decide) ?_
  refine go_aloadN d_b1_3 rfl rfl rfl ?_
  refine go_alen d_b1_4 rfl A ?_
  refine go_aconstNull d_b1_5 rfl ?_
  refine go_special x [(.ref b), (.int 0), (.int 0), .null] [] 0 d_b1_6 rfl rfl (wd hB 8 rfl) (wd hB 9 rfl) (wd hB 4 rfl) (wd hB 11 rfl) (c_sinit4e hB E F1 F2) (allS (List.Mem.head _) (fun _ q => nomatch q)) (lenOf pd_3 rfl) rfl rfl rfl (by decide) (by decide) (by decide) (by decide) (by decide) (fun v1 h2 s3 q4 => ?_)
  obtain ⟨rfl, rfl, q1, q2, q3, q4⟩ := q4
  show Go _ _ _ _ _ _ _ _ _ _ _ _ h2 [x] 4 8 9 #[.val (.ref x), .val (.ref b)] []
  refine go_ret d_b1_9 [] rfl (by decide) (by decide) (fun _ q => nomatch q) ?_
  exact ⟨rfl, rfl, q1, q2, q3, q4⟩
theorem ten0 {k : Int32} (hk : 0 ≤ k.toInt ∧ k.toInt < 10) (h1 : ¬ k = 1) (h2 : ¬ k = 2) (h3 : ¬ k = 3) (h4 : ¬ k = 4) (h5 : ¬ k = 5) (h6 : ¬ k = 6) (h7 : ¬ k = 7) (h8 : ¬ k = 8) (h9 : ¬ k = 9) : k = 0 := by
  have e : ∀ {m : Int32}, ¬ k = m → k.toInt ≠ m.toInt := fun q r => q (Int32.toInt_inj.mp r)
  have a1 : k.toInt ≠ 1 := e h1
  have a2 : k.toInt ≠ 2 := e h2
  have a3 : k.toInt ≠ 3 := e h3
  have a4 : k.toInt ≠ 4 := e h4
  have a5 : k.toInt ≠ 5 := e h5
  have a6 : k.toInt ≠ 6 := e h6
  have a7 : k.toInt ≠ 7 := e h7
  have a8 : k.toInt ≠ 8 := e h8
  have a9 : k.toInt ≠ 9 := e h9
  exact Int32.toInt_inj.mp (show k.toInt = 0 by omega)
set_option maxRecDepth 65536 in
set_option maxHeartbeats 4000000 in
theorem c_pick {l : Launch} {Z : State} {a0 : Array Value} {n0 : Nat} (hB : Base Z a0) (k : Int32) (hk : 0 ≤ k.toInt ∧ k.toInt < 10) {h : Heap} :
    Con l Z ELc n0 (⟨"com/example/nightlatch/nightlatch/authorization/BackgroundDecisionAuthorizedPinLaw", "pick", "(I)Lcom/example/nightlatch/nightlatch/authorization/Refusal;"⟩ : MethodName) method_2_code 1 (Option.some (FieldType.object "com/example/nightlatch/nightlatch/authorization/Refusal")) [] ({ frames := 0, cells := 0, slots := 0, locals := 0 } : Room) #[.int k] h [] (fun v h' sf' => sf' = [] ∧ h = h' ∧ ((k = 0 ∧ v = some .null) ∨ (¬ k = 0 ∧ ∃ a, v = some (.ref a)))) := by
  refine con_of (a0 := a0) (ls := #[.val (.int k)]) (plainFor_of_name (by decide +kernel)) hB.2.1 (fun m => by first | rfl | simp [entryFrame, mkF, argsToLocals, Value.category]) ?_
  show Go l Z a0 ELc n0 ({ frames := 0, cells := 0, slots := 0, locals := 0 } : Room) "com/example/nightlatch/nightlatch/authorization/BackgroundDecisionAuthorizedPinLaw" method_2_code 1 (Option.some (FieldType.object "com/example/nightlatch/nightlatch/authorization/Refusal")) "pick" _ h [] 0 0 0 #[.val (.int k)] []
  obtain ⟨-, -, -, -, ⟨a1, S1⟩, ⟨a2, S2⟩, ⟨a3, S3⟩, ⟨a4, S4⟩, ⟨a5, S5⟩, ⟨a6, S6⟩, ⟨a7, S7⟩, ⟨a8, S8⟩, ⟨a9, S9⟩, -⟩ := id hB
  refine go_iloadN d_b4_0 rfl rfl ?_
  refine go_iconst 1 d_b4_1 rfl (by decide) ?_
  by_cases q1 : (k = 1 : Prop)
  · refine go_icmp_ne_f d_b4_2 rfl q1 ?_
    refine go_getstatic d_b4_5 rfl (wd hB 78 rfl) Via.refl S1 ?_
    refine go_retA d_b4_8 [] rfl rfl rfl rfl (by decide) (by decide) (fun _ q => nomatch q) ?_
    exact ⟨rfl, rfl, Or.inr ⟨by rw [q1]; decide, _, rfl⟩⟩
  · refine go_icmp_ne_t (pt := 9) d_b4_2 (by decide) (by decide) q1 ?_
    refine go_iloadN d_b4_9 rfl rfl ?_
    refine go_iconst 2 d_b4_10 rfl (by decide) ?_
    by_cases q2 : (k = 2 : Prop)
    · refine go_icmp_ne_f d_b4_11 rfl q2 ?_
      refine go_getstatic d_b4_14 rfl (wd hB 74 rfl) Via.refl S2 ?_
      refine go_retA d_b4_17 [] rfl rfl rfl rfl (by decide) (by decide) (fun _ q => nomatch q) ?_
      exact ⟨rfl, rfl, Or.inr ⟨by rw [q2]; decide, _, rfl⟩⟩
    · refine go_icmp_ne_t (pt := 18) d_b4_11 (by decide) (by decide) q2 ?_
      refine go_iloadN d_b4_18 rfl rfl ?_
      refine go_iconst 3 d_b4_19 rfl (by decide) ?_
      by_cases q3 : (k = 3 : Prop)
      · refine go_icmp_ne_f d_b4_20 rfl q3 ?_
        refine go_getstatic d_b4_23 rfl (wd hB 76 rfl) Via.refl S3 ?_
        refine go_retA d_b4_26 [] rfl rfl rfl rfl (by decide) (by decide) (fun _ q => nomatch q) ?_
        exact ⟨rfl, rfl, Or.inr ⟨by rw [q3]; decide, _, rfl⟩⟩
      · refine go_icmp_ne_t (pt := 27) d_b4_20 (by decide) (by decide) q3 ?_
        refine go_iloadN d_b4_27 rfl rfl ?_
        refine go_iconst 4 d_b4_28 rfl (by decide) ?_
        by_cases q4 : (k = 4 : Prop)
        · refine go_icmp_ne_f d_b4_29 rfl q4 ?_
          refine go_getstatic d_b4_32 rfl (wd hB 54 rfl) Via.refl S4 ?_
          refine go_retA d_b4_35 [] rfl rfl rfl rfl (by decide) (by decide) (fun _ q => nomatch q) ?_
          exact ⟨rfl, rfl, Or.inr ⟨by rw [q4]; decide, _, rfl⟩⟩
        · refine go_icmp_ne_t (pt := 36) d_b4_29 (by decide) (by decide) q4 ?_
          refine go_iloadN d_b4_36 rfl rfl ?_
          refine go_iconst 5 d_b4_37 rfl (by decide) ?_
          by_cases q5 : (k = 5 : Prop)
          · refine go_icmp_ne_f d_b4_38 rfl q5 ?_
            refine go_getstatic d_b4_41 rfl (wd hB 80 rfl) Via.refl S5 ?_
            refine go_retA d_b4_44 [] rfl rfl rfl rfl (by decide) (by decide) (fun _ q => nomatch q) ?_
            exact ⟨rfl, rfl, Or.inr ⟨by rw [q5]; decide, _, rfl⟩⟩
          · refine go_icmp_ne_t (pt := 45) d_b4_38 (by decide) (by decide) q5 ?_
            refine go_iloadN d_b4_45 rfl rfl ?_
            refine go_bipush 6 d_b4_46 rfl (by decide) ?_
            by_cases q6 : (k = 6 : Prop)
            · refine go_icmp_ne_f d_b4_48 rfl q6 ?_
              refine go_getstatic d_b4_51 rfl (wd hB 70 rfl) Via.refl S6 ?_
              refine go_retA d_b4_54 [] rfl rfl rfl rfl (by decide) (by decide) (fun _ q => nomatch q) ?_
              exact ⟨rfl, rfl, Or.inr ⟨by rw [q6]; decide, _, rfl⟩⟩
            · refine go_icmp_ne_t (pt := 55) d_b4_48 (by decide) (by decide) q6 ?_
              refine go_iloadN d_b4_55 rfl rfl ?_
              refine go_bipush 7 d_b4_56 rfl (by decide) ?_
              by_cases q7 : (k = 7 : Prop)
              · refine go_icmp_ne_f d_b4_58 rfl q7 ?_
                refine go_getstatic d_b4_61 rfl (wd hB 82 rfl) Via.refl S7 ?_
                refine go_retA d_b4_64 [] rfl rfl rfl rfl (by decide) (by decide) (fun _ q => nomatch q) ?_
                exact ⟨rfl, rfl, Or.inr ⟨by rw [q7]; decide, _, rfl⟩⟩
              · refine go_icmp_ne_t (pt := 65) d_b4_58 (by decide) (by decide) q7 ?_
                refine go_iloadN d_b4_65 rfl rfl ?_
                refine go_bipush 8 d_b4_66 rfl (by decide) ?_
                by_cases q8 : (k = 8 : Prop)
                · refine go_icmp_ne_f d_b4_68 rfl q8 ?_
                  refine go_getstatic d_b4_71 rfl (wd hB 57 rfl) Via.refl S8 ?_
                  refine go_retA d_b4_74 [] rfl rfl rfl rfl (by decide) (by decide) (fun _ q => nomatch q) ?_
                  exact ⟨rfl, rfl, Or.inr ⟨by rw [q8]; decide, _, rfl⟩⟩
                · refine go_icmp_ne_t (pt := 75) d_b4_68 (by decide) (by decide) q8 ?_
                  refine go_iloadN d_b4_75 rfl rfl ?_
                  refine go_bipush 9 d_b4_76 rfl (by decide) ?_
                  by_cases q9 : (k = 9 : Prop)
                  · refine go_icmp_ne_f d_b4_78 rfl q9 ?_
                    refine go_getstatic d_b4_81 rfl (wd hB 72 rfl) Via.refl S9 ?_
                    refine go_retA d_b4_84 [] rfl rfl rfl rfl (by decide) (by decide) (fun _ q => nomatch q) ?_
                    exact ⟨rfl, rfl, Or.inr ⟨by rw [q9]; decide, _, rfl⟩⟩
                  · refine go_icmp_ne_t (pt := 85) d_b4_78 (by decide) (by decide) q9 ?_
                    refine go_aconstNull d_b4_85 rfl ?_
                    refine go_retA d_b4_86 [] rfl rfl rfl rfl (by decide) (by decide) (fun _ q => nomatch q) ?_
                    exact ⟨rfl, rfl, Or.inl ⟨ten0 hk q1 q2 q3 q4 q5 q6 q7 q8 q9, rfl⟩⟩
set_option maxRecDepth 65536 in
set_option maxHeartbeats 4000000 in
theorem c_rec {l : Launch} {Z : State} {a0 : Array Value} {n0 : Nat} (hB : Base Z a0) {x : Addr} {h : Heap} :
    Con l Z ELc n0 (⟨"java/lang/Record", "<init>", "()V"⟩ : MethodName) jdk_30_method_1_code 1 (Option.none : Option FieldType) [] ({ frames := 1, cells := 0, slots := 0, locals := 12 } : Room) #[.ref x] h [] (fun v h' sf' => v = none ∧ sf' = [] ∧ h = h') := by
  refine con_of (a0 := a0) (ls := #[.val (.ref x)]) (plainFor_of_name (by decide +kernel)) hB.2.1 (fun m => by first | rfl | simp [entryFrame, mkF, argsToLocals, Value.category]) ?_
  show Go l Z a0 ELc n0 ({ frames := 1, cells := 0, slots := 0, locals := 12 } : Room) "java/lang/Record" jdk_30_method_1_code 1 (Option.none : Option FieldType) "<init>" _ h [] 0 0 0 #[.val (.ref x)] []
  refine go_aloadN d_b6_0 rfl rfl rfl ?_
  refine go_initO d_b6_1 rfl (wd hB 38 rfl) (wd hB 13 rfl) (wd hB 14 rfl) rfl (by decide) 0 rfl (by decide) ?_
  refine go_ret d_b6_4 [] rfl (by decide) (by decide) (fun _ q => nomatch q) ?_
  exact ⟨rfl, rfl, rfl⟩
set_option maxRecDepth 65536 in
set_option maxHeartbeats 4000000 in
theorem c_rnn {l : Launch} {Z : State} {a0 : Array Value} {n0 : Nat} (hB : Base Z a0) {x : Addr} {h : Heap} :
    Con l Z ELc n0 (⟨"java/util/Objects", "requireNonNull", "(Ljava/lang/Object;)Ljava/lang/Object;"⟩ : MethodName) jdk_31_method_10_code 1 (Option.some (FieldType.object "java/lang/Object")) [] ({ frames := 0, cells := 0, slots := 0, locals := 0 } : Room) #[.ref x] h [] (fun v h' sf' => v = some (.ref x) ∧ sf' = [] ∧ h = h') := by
  refine con_of (a0 := a0) (ls := #[.val (.ref x)]) (plainFor_of_name (by decide +kernel)) hB.2.1 (fun m => by first | rfl | simp [entryFrame, mkF, argsToLocals, Value.category]) ?_
  show Go l Z a0 ELc n0 ({ frames := 0, cells := 0, slots := 0, locals := 0 } : Room) "java/util/Objects" jdk_31_method_10_code 1 (Option.some (FieldType.object "java/lang/Object")) "requireNonNull" _ h [] 0 0 0 #[.val (.ref x)] []
  refine go_aloadN d_b7_0 rfl rfl rfl ?_
  refine go_ifnonnull_t (pt := 12) d_b7_1 (by decide) (by decide) ?_
  refine go_aloadN d_b7_12 rfl rfl rfl ?_
  refine go_retA d_b7_13 [] rfl rfl rfl rfl (by decide) (by decide) (fun _ q => nomatch q) ?_
  exact ⟨rfl, rfl, rfl⟩
set_option maxRecDepth 65536 in
set_option maxHeartbeats 4000000 in
theorem c_bdN {l : Launch} {Z : State} {a0 : Array Value} {n0 : Nat} (hB : Base Z a0) {x s : Addr} {h : Heap} (E : Exa Z h x "com/example/nightlatch/nightlatch/authorization/BackgroundDecision") (F1 : Fld Z h x "com/example/nightlatch/nightlatch/authorization/BackgroundDecision" "refusal" "Lcom/example/nightlatch/nightlatch/authorization/Refusal;" .null) (F2 : Fld Z h x "com/example/nightlatch/nightlatch/authorization/BackgroundDecision" "reason" "Ljava/lang/String;" .null) :
    Con l Z ELc n0 (⟨"com/example/nightlatch/nightlatch/authorization/BackgroundDecision", "<init>", "(Lcom/example/nightlatch/nightlatch/authorization/Refusal;Ljava/lang/String;)V"⟩ : MethodName) prog_1_method_1_code 3 (Option.none : Option FieldType) [] ({ frames := 2, cells := 0, slots := 0, locals := 24 } : Room) #[.ref x, .null, .ref s] h [x] (fun v h' sf' => v = none ∧ sf' = [] ∧ Keep h h' [x] ∧ Exa Z h' x "com/example/nightlatch/nightlatch/authorization/BackgroundDecision" ∧ Fld Z h' x "com/example/nightlatch/nightlatch/authorization/BackgroundDecision" "refusal" "Lcom/example/nightlatch/nightlatch/authorization/Refusal;" .null) := by
  refine con_of (a0 := a0) (ls := #[.val (.ref x), .val .null, .val (.ref s)]) (plainFor_of_name (by decide +kernel)) hB.2.1 (fun m => by first | rfl | simp [entryFrame, mkF, argsToLocals, Value.category]) ?_
  show Go l Z a0 ELc n0 ({ frames := 2, cells := 0, slots := 0, locals := 24 } : Room) "com/example/nightlatch/nightlatch/authorization/BackgroundDecision" prog_1_method_1_code 3 (Option.none : Option FieldType) "<init>" _ h [x] 0 0 0 #[.val (.ref x), .val .null, .val (.ref s)] []
  refine go_aloadN d_b5_0 rfl rfl rfl ?_
  refine go_special x [] [] 0 d_b5_1 rfl rfl (wd hB 33 rfl) (wd hB 34 rfl) (wd hB 36 rfl) (wd hB 37 rfl) (c_rec hB) (fun _ q => nomatch q) (lenOf pd_4 rfl) rfl rfl rfl (by decide) (by decide) (by decide) (by decide) (by decide) (fun v1 h2 s3 q4 => ?_)
  obtain ⟨rfl, rfl, rfl⟩ := q4
  show Go _ _ _ _ _ _ _ _ _ _ _ _ h [x] 0 0 4 #[.val (.ref x), .val .null, .val (.ref s)] []
  refine go_aloadN d_b5_4 rfl rfl rfl ?_
  refine go_static [(.ref s)] [] 0 d_b5_5 rfl (wd hB 39 rfl) (wd hB 40 rfl) (wd hB 41 rfl) (wd hB 42 rfl) (c_rnn hB) (fun _ q => nomatch q) (lenOf pd_5 rfl) rfl rfl rfl (by decide) (by decide) (by decide) (by decide) (by decide) (fun v5 h6 s7 q8 => ?_)
  obtain ⟨rfl, rfl, rfl⟩ := q8
  show Go _ _ _ _ _ _ _ _ _ _ _ _ h [x] 0 0 8 #[.val (.ref x), .val .null, .val (.ref s)] [(.ref s)]
  refine go_pop d_b5_8 rfl rfl ?_
  refine go_aloadN d_b5_9 rfl rfl rfl ?_
  refine go_aloadN d_b5_10 rfl rfl rfl ?_
  refine go_putfield (ty := (.object "com/example/nightlatch/nightlatch/authorization/Refusal")) d_b5_11 rfl (wd hB 43 rfl) Via.refl F1 E (Or.inr ⟨(wd hB 44 rfl), rfl, rfl⟩) (wd hB 24 rfl) (by decide) rfl rfl (List.Mem.head _) ?_
  intro h9 W10
  have F11 := Fld.same W10 F1
  refine go_aloadN d_b5_14 rfl rfl rfl ?_
  refine go_aloadN d_b5_15 rfl rfl rfl ?_
  have F12 := (Fld.other W10 F2 (Or.inr (slot_ne (t := (.object "java/lang/String")) (t' := (.object "com/example/nightlatch/nightlatch/authorization/Refusal")) (Or.inr (wd hB 46 rfl) : Laid Z a0 "com/example/nightlatch/nightlatch/authorization/BackgroundDecision" "com/example/nightlatch/nightlatch/authorization/BackgroundDecision" "reason" "Ljava/lang/String;") (Or.inr (wd hB 44 rfl) : Laid Z a0 "com/example/nightlatch/nightlatch/authorization/BackgroundDecision" "com/example/nightlatch/nightlatch/authorization/BackgroundDecision" "refusal" "Lcom/example/nightlatch/nightlatch/authorization/Refusal;") (by decide) (by decide) (by decide))))
  have F13 := (Exa.wr W10 E)
  refine go_putfield (ty := (.object "java/lang/String")) d_b5_16 rfl (wd hB 45 rfl) Via.refl F12 F13 (Or.inr ⟨(wd hB 46 rfl), rfl, rfl⟩) (wd hB 24 rfl) (by decide) rfl rfl (List.Mem.head _) ?_
  intro h14 W15
  have F16 := Fld.same W15 F12
  have F17 := (Exa.wr W15 F13)
  have F18 := (Fld.other W15 F11 (Or.inr (slot_ne (t := (.object "com/example/nightlatch/nightlatch/authorization/Refusal")) (t' := (.object "java/lang/String")) (Or.inr (wd hB 44 rfl) : Laid Z a0 "com/example/nightlatch/nightlatch/authorization/BackgroundDecision" "com/example/nightlatch/nightlatch/authorization/BackgroundDecision" "refusal" "Lcom/example/nightlatch/nightlatch/authorization/Refusal;") (Or.inr (wd hB 46 rfl) : Laid Z a0 "com/example/nightlatch/nightlatch/authorization/BackgroundDecision" "com/example/nightlatch/nightlatch/authorization/BackgroundDecision" "reason" "Ljava/lang/String;") (by decide) (by decide) (by decide))))
  refine go_ret d_b5_19 [] rfl (by decide) (by decide) (fun _ q => nomatch q) ?_
  exact ⟨rfl, rfl, (((Keep.refl h [x]).wr W10 (Or.inl (List.Mem.head _))).wr W15 (Or.inl (List.Mem.head _))), F17, F18⟩
set_option maxRecDepth 65536 in
set_option maxHeartbeats 4000000 in
theorem c_bdR {l : Launch} {Z : State} {a0 : Array Value} {n0 : Nat} (hB : Base Z a0) {x s : Addr} {r : Addr} {h : Heap} (E : Exa Z h x "com/example/nightlatch/nightlatch/authorization/BackgroundDecision") (F1 : Fld Z h x "com/example/nightlatch/nightlatch/authorization/BackgroundDecision" "refusal" "Lcom/example/nightlatch/nightlatch/authorization/Refusal;" .null) (F2 : Fld Z h x "com/example/nightlatch/nightlatch/authorization/BackgroundDecision" "reason" "Ljava/lang/String;" .null) :
    Con l Z ELc n0 (⟨"com/example/nightlatch/nightlatch/authorization/BackgroundDecision", "<init>", "(Lcom/example/nightlatch/nightlatch/authorization/Refusal;Ljava/lang/String;)V"⟩ : MethodName) prog_1_method_1_code 3 (Option.none : Option FieldType) [] ({ frames := 2, cells := 0, slots := 0, locals := 24 } : Room) #[.ref x, (.ref r), .ref s] h [x] (fun v h' sf' => v = none ∧ sf' = [] ∧ Keep h h' [x] ∧ Exa Z h' x "com/example/nightlatch/nightlatch/authorization/BackgroundDecision" ∧ Fld Z h' x "com/example/nightlatch/nightlatch/authorization/BackgroundDecision" "refusal" "Lcom/example/nightlatch/nightlatch/authorization/Refusal;" (.ref r)) := by
  refine con_of (a0 := a0) (ls := #[.val (.ref x), .val (.ref r), .val (.ref s)]) (plainFor_of_name (by decide +kernel)) hB.2.1 (fun m => by first | rfl | simp [entryFrame, mkF, argsToLocals, Value.category]) ?_
  show Go l Z a0 ELc n0 ({ frames := 2, cells := 0, slots := 0, locals := 24 } : Room) "com/example/nightlatch/nightlatch/authorization/BackgroundDecision" prog_1_method_1_code 3 (Option.none : Option FieldType) "<init>" _ h [x] 0 0 0 #[.val (.ref x), .val (.ref r), .val (.ref s)] []
  refine go_aloadN d_b5_0 rfl rfl rfl ?_
  refine go_special x [] [] 0 d_b5_1 rfl rfl (wd hB 33 rfl) (wd hB 34 rfl) (wd hB 36 rfl) (wd hB 37 rfl) (c_rec hB) (fun _ q => nomatch q) (lenOf pd_4 rfl) rfl rfl rfl (by decide) (by decide) (by decide) (by decide) (by decide) (fun v1 h2 s3 q4 => ?_)
  obtain ⟨rfl, rfl, rfl⟩ := q4
  show Go _ _ _ _ _ _ _ _ _ _ _ _ h [x] 0 0 4 #[.val (.ref x), .val (.ref r), .val (.ref s)] []
  refine go_aloadN d_b5_4 rfl rfl rfl ?_
  refine go_static [(.ref s)] [] 0 d_b5_5 rfl (wd hB 39 rfl) (wd hB 40 rfl) (wd hB 41 rfl) (wd hB 42 rfl) (c_rnn hB) (fun _ q => nomatch q) (lenOf pd_5 rfl) rfl rfl rfl (by decide) (by decide) (by decide) (by decide) (by decide) (fun v5 h6 s7 q8 => ?_)
  obtain ⟨rfl, rfl, rfl⟩ := q8
  show Go _ _ _ _ _ _ _ _ _ _ _ _ h [x] 0 0 8 #[.val (.ref x), .val (.ref r), .val (.ref s)] [(.ref s)]
  refine go_pop d_b5_8 rfl rfl ?_
  refine go_aloadN d_b5_9 rfl rfl rfl ?_
  refine go_aloadN d_b5_10 rfl rfl rfl ?_
  refine go_putfield (ty := (.object "com/example/nightlatch/nightlatch/authorization/Refusal")) d_b5_11 rfl (wd hB 43 rfl) Via.refl F1 E (Or.inr ⟨(wd hB 44 rfl), rfl, rfl⟩) (wd hB 24 rfl) (by decide) rfl rfl (List.Mem.head _) ?_
  intro h9 W10
  have F11 := Fld.same W10 F1
  refine go_aloadN d_b5_14 rfl rfl rfl ?_
  refine go_aloadN d_b5_15 rfl rfl rfl ?_
  have F12 := (Fld.other W10 F2 (Or.inr (slot_ne (t := (.object "java/lang/String")) (t' := (.object "com/example/nightlatch/nightlatch/authorization/Refusal")) (Or.inr (wd hB 46 rfl) : Laid Z a0 "com/example/nightlatch/nightlatch/authorization/BackgroundDecision" "com/example/nightlatch/nightlatch/authorization/BackgroundDecision" "reason" "Ljava/lang/String;") (Or.inr (wd hB 44 rfl) : Laid Z a0 "com/example/nightlatch/nightlatch/authorization/BackgroundDecision" "com/example/nightlatch/nightlatch/authorization/BackgroundDecision" "refusal" "Lcom/example/nightlatch/nightlatch/authorization/Refusal;") (by decide) (by decide) (by decide))))
  have F13 := (Exa.wr W10 E)
  refine go_putfield (ty := (.object "java/lang/String")) d_b5_16 rfl (wd hB 45 rfl) Via.refl F12 F13 (Or.inr ⟨(wd hB 46 rfl), rfl, rfl⟩) (wd hB 24 rfl) (by decide) rfl rfl (List.Mem.head _) ?_
  intro h14 W15
  have F16 := Fld.same W15 F12
  have F17 := (Exa.wr W15 F13)
  have F18 := (Fld.other W15 F11 (Or.inr (slot_ne (t := (.object "com/example/nightlatch/nightlatch/authorization/Refusal")) (t' := (.object "java/lang/String")) (Or.inr (wd hB 44 rfl) : Laid Z a0 "com/example/nightlatch/nightlatch/authorization/BackgroundDecision" "com/example/nightlatch/nightlatch/authorization/BackgroundDecision" "refusal" "Lcom/example/nightlatch/nightlatch/authorization/Refusal;") (Or.inr (wd hB 46 rfl) : Laid Z a0 "com/example/nightlatch/nightlatch/authorization/BackgroundDecision" "com/example/nightlatch/nightlatch/authorization/BackgroundDecision" "reason" "Ljava/lang/String;") (by decide) (by decide) (by decide))))
  refine go_ret d_b5_19 [] rfl (by decide) (by decide) (fun _ q => nomatch q) ?_
  exact ⟨rfl, rfl, (((Keep.refl h [x]).wr W10 (Or.inl (List.Mem.head _))).wr W15 (Or.inl (List.Mem.head _))), F17, F18⟩
set_option maxRecDepth 65536 in
set_option maxHeartbeats 4000000 in
theorem c_auN {l : Launch} {Z : State} {a0 : Array Value} {n0 : Nat} (hB : Base Z a0) {x : Addr} {h : Heap} (F : Fld Z h x "com/example/nightlatch/nightlatch/authorization/BackgroundDecision" "refusal" "Lcom/example/nightlatch/nightlatch/authorization/Refusal;" .null) :
    Con l Z ELc n0 (⟨"com/example/nightlatch/nightlatch/authorization/BackgroundDecision", "authorized", "()Z"⟩ : MethodName) prog_1_method_2_code 1 (Option.some FieldType.boolean) [] ({ frames := 0, cells := 0, slots := 0, locals := 0 } : Room) #[.ref x] h [] (fun v h' sf' => v = some (.int 1) ∧ sf' = [] ∧ h = h') := by
  refine con_of (a0 := a0) (ls := #[.val (.ref x)]) (plainFor_of_name (by decide +kernel)) hB.2.1 (fun m => by first | rfl | simp [entryFrame, mkF, argsToLocals, Value.category]) ?_
  show Go l Z a0 ELc n0 ({ frames := 0, cells := 0, slots := 0, locals := 0 } : Room) "com/example/nightlatch/nightlatch/authorization/BackgroundDecision" prog_1_method_2_code 1 (Option.some FieldType.boolean) "authorized" _ h [] 0 0 0 #[.val (.ref x)] []
  refine go_aloadN d_b8_0 rfl rfl rfl ?_
  refine go_getfield d_b8_1 rfl (wd hB 43 rfl) Via.refl F ?_
  refine go_ifnonnull_f d_b8_4 rfl ?_
  refine go_iconst 1 d_b8_7 rfl (by decide) ?_
  refine go_goto (pt := 12) d_b8_8 (by decide) (by decide) ?_
  refine go_retN (t := .boolean) d_b8_12 [] rfl (by simp) (by decide) (by decide) (fun _ q => nomatch q) ?_
  exact ⟨by decide, rfl, rfl⟩
set_option maxRecDepth 65536 in
set_option maxHeartbeats 4000000 in
theorem c_auR {l : Launch} {Z : State} {a0 : Array Value} {n0 : Nat} (hB : Base Z a0) {x : Addr} {r : Addr} {h : Heap} (F : Fld Z h x "com/example/nightlatch/nightlatch/authorization/BackgroundDecision" "refusal" "Lcom/example/nightlatch/nightlatch/authorization/Refusal;" (.ref r)) :
    Con l Z ELc n0 (⟨"com/example/nightlatch/nightlatch/authorization/BackgroundDecision", "authorized", "()Z"⟩ : MethodName) prog_1_method_2_code 1 (Option.some FieldType.boolean) [] ({ frames := 0, cells := 0, slots := 0, locals := 0 } : Room) #[.ref x] h [] (fun v h' sf' => v = some (.int 0) ∧ sf' = [] ∧ h = h') := by
  refine con_of (a0 := a0) (ls := #[.val (.ref x)]) (plainFor_of_name (by decide +kernel)) hB.2.1 (fun m => by first | rfl | simp [entryFrame, mkF, argsToLocals, Value.category]) ?_
  show Go l Z a0 ELc n0 ({ frames := 0, cells := 0, slots := 0, locals := 0 } : Room) "com/example/nightlatch/nightlatch/authorization/BackgroundDecision" prog_1_method_2_code 1 (Option.some FieldType.boolean) "authorized" _ h [] 0 0 0 #[.val (.ref x)] []
  refine go_aloadN d_b8_0 rfl rfl rfl ?_
  refine go_getfield d_b8_1 rfl (wd hB 43 rfl) Via.refl F ?_
  refine go_ifnonnull_t (pt := 11) d_b8_4 (by decide) (by decide) ?_
  refine go_iconst 0 d_b8_11 rfl (by decide) ?_
  refine go_retN (t := .boolean) d_b8_12 [] rfl (by simp) (by decide) (by decide) (fun _ q => nomatch q) ?_
  exact ⟨by decide, rfl, rfl⟩
theorem nat_of_int {c : Int32} (h : 0 ≤ c.toInt) : c.toInt = (c.toBitVec.toNat : Int) := by
  have h1 : 0 ≤ c.toBitVec.toInt := h
  show c.toBitVec.toInt = _
  rw [BitVec.toInt_eq_toNat_cond] at h1 ⊢
  split at h1
  · rw [if_pos (by assumption)]
  · have := c.toBitVec.isLt; omega
theorem and_rng (x : Int32) {m : Int32} (hm : 0 ≤ m.toInt) : 0 ≤ (x &&& m).toInt ∧ (x &&& m).toInt ≤ m.toInt := by
  have h1 : (x &&& m).toBitVec.toNat ≤ m.toBitVec.toNat := by rw [Int32.toBitVec_and, BitVec.toNat_and]; exact Nat.and_le_right
  have h4 := nat_of_int hm
  have hb : m.toInt < 2147483648 := m.toInt_lt
  have h3 : (x &&& m).toInt = ((x &&& m).toBitVec.toNat : Int) := BitVec.toInt_eq_toNat_of_lt (by omega)
  omega
theorem rem_rng {x m : Int32} (hx : 0 ≤ x.toInt) (hm : 0 < m.toInt) : 0 ≤ (x % m).toInt ∧ (x % m).toInt < m.toInt := by
  rw [Int32.toInt_mod]
  exact ⟨Int.tmod_nonneg _ hx, Int.tmod_lt_of_pos _ hm⟩
theorem ushr_rng (x : Int32) : 0 ≤ (XT.ushr x 16).toInt := by
  have h1 : (XT.ushr x 16).toBitVec.toNat < 65536 := by
    show (x.toUInt32 >>> ((16 : Int32) &&& 31).toUInt32).toNat < 65536
    have : (((16 : Int32) &&& 31).toUInt32) = 16 := by decide
    rw [this, UInt32.toNat_shiftRight]
    have := x.toUInt32.toNat_lt; show x.toUInt32.toNat >>> (16 % 32) < _; rw [Nat.shiftRight_eq_div_pow]
    show x.toUInt32.toNat / 65536 < 65536
    omega
  have h3 : (XT.ushr x 16).toInt = ((XT.ushr x 16).toBitVec.toNat : Int) := BitVec.toInt_eq_toNat_of_lt (by omega)
  omega
theorem le255 (x : Int32) : ¬ (255 : Int32) < x &&& 255 := fun q => by
  have h := (and_rng x (m := 255) (by decide)).2; rw [Int32.lt_iff_toInt_lt] at q; omega
theorem nar255 (x : Int32) : nar .char (x &&& 255) = x &&& 255 := i2c_mask x
set_option maxRecDepth 65536 in
set_option maxHeartbeats 4000000 in
theorem c_law {l : Launch} {Z : State} {a0 : Array Value} {n0 : Nat} (hB : Base Z a0) (ws : List Jvm.Cond) (p0 p1 : Int32) {h : Heap} :
    Con l Z ELc n0 x code maxLocals ret ws room_1 #[.int p0, .int p1] h [] (fun v h' sf' => v = some (.int 1)) := by
  refine con_of (a0 := a0) (ls := #[.val (.int p0), .val (.int p1), .unset, .unset, .unset, .unset, .unset, .unset, .unset, .unset, .unset, .unset]) (plainFor_of_name (by decide +kernel)) hB.2.1 (fun m => by first | rfl | simp [entryFrame, mkF, argsToLocals, Value.category]) ?_
  show Go l Z a0 ELc n0 room_1 "com/example/nightlatch/nightlatch/authorization/BackgroundDecisionAuthorizedPinLaw" code maxLocals ret "law" _ h [] 0 0 0 #[.val (.int p0), .val (.int p1), .unset, .unset, .unset, .unset, .unset, .unset, .unset, .unset, .unset, .unset] []
  obtain ⟨au, Sau, Eau, Fau⟩ := hB.2.2.2.1
  refine go_iloadN at_0 rfl rfl ?_
  refine go_ldcI at_1 rfl (wd hB 0 rfl) ?_
  refine go_iand at_3 rfl ?_
  refine go_bipush 10 at_4 rfl (by decide) ?_
  refine go_irem at_6 rfl (by decide) ?_
  obtain ⟨k, hk⟩ : ∃ z, z = (p0 &&& 2147483647) % 10 := ⟨_, rfl⟩
  rw [← hk]
  have hk10 : 0 ≤ k.toInt ∧ k.toInt < 10 := by rw [hk]; exact rem_rng (and_rng _ (by decide)).1 (by decide)
  refine go_istoreN at_7 rfl #[.val (.int p0), .val (.int p1), .val (.int k), .unset, .unset, .unset, .unset, .unset, .unset, .unset, .unset, .unset] rfl ?_
  refine go_iloadN at_8 rfl rfl ?_
  refine go_sipush 255 at_9 rfl (by decide) ?_
  refine go_iand at_12 rfl ?_
  refine go_i2c at_13 rfl ?_
  rw [i2c_mask]
  obtain ⟨c0, hc0⟩ : ∃ z, z = p1 &&& 255 := ⟨_, rfl⟩
  rw [← hc0]
  have lc0 : ¬ (255 : Int32) < c0 := by rw [hc0]; exact le255 _
  have nc0 : nar .char c0 = c0 := by rw [hc0]; exact nar255 _
  refine go_istoreN at_14 rfl #[.val (.int p0), .val (.int p1), .val (.int k), .val (.int c0), .unset, .unset, .unset, .unset, .unset, .unset, .unset, .unset] rfl ?_
  refine go_iloadN at_15 rfl rfl ?_
  refine go_bipush 8 at_16 rfl (by decide) ?_
  refine go_iushr at_18 rfl ?_
  refine go_sipush 255 at_19 rfl (by decide) ?_
  refine go_iand at_22 rfl ?_
  refine go_i2c at_23 rfl ?_
  rw [i2c_mask]
  obtain ⟨c1, hc1⟩ : ∃ z, z = (XT.ushr p1 8) &&& 255 := ⟨_, rfl⟩
  rw [← hc1]
  have lc1 : ¬ (255 : Int32) < c1 := by rw [hc1]; exact le255 _
  have nc1 : nar .char c1 = c1 := by rw [hc1]; exact nar255 _
  refine go_istore at_24 rfl #[.val (.int p0), .val (.int p1), .val (.int k), .val (.int c0), .val (.int c1), .unset, .unset, .unset, .unset, .unset, .unset, .unset] rfl ?_
  refine go_iloadN at_26 rfl rfl ?_
  refine go_bipush 16 at_27 rfl (by decide) ?_
  refine go_iushr at_29 rfl ?_
  refine go_iconst 3 at_30 rfl (by decide) ?_
  refine go_irem at_31 rfl (by decide) ?_
  obtain ⟨len, hlen⟩ : ∃ z, z = (XT.ushr p1 16) % 3 := ⟨_, rfl⟩
  rw [← hlen]
  have hl3 : 0 ≤ len.toInt ∧ len.toInt < 3 := by rw [hlen]; exact rem_rng (ushr_rng _) (by decide)
  refine go_istore at_32 rfl #[.val (.int p0), .val (.int p1), .val (.int k), .val (.int c0), .val (.int c1), .val (.int len), .unset, .unset, .unset, .unset, .unset, .unset] rfl ?_
  refine go_iconst 0 at_34 rfl (by decide) ?_
  refine go_newarr (ty := .char) (ad := "[C") 0 at_35 rfl rfl (wd hB 1 rfl) (by decide) (by decide) (by decide) (by decide) (by decide) (by decide) ?_
  intro h6 x1 hx2 E3 ⟨A4, k5, B7⟩
  have B8 : Arv Z h6 x1 k5 .char 0 [] (.int 0) := B7.pad (pad_rep [] (.int 0) 0)
  refine go_astore at_37 rfl #[.val (.int p0), .val (.int p1), .val (.int k), .val (.int c0), .val (.int c1), .val (.int len), .val (.ref x1), .unset, .unset, .unset, .unset, .unset] rfl rfl ?_
  refine go_iconst 1 at_39 rfl (by decide) ?_
  refine go_newarr (ty := .char) (ad := "[C") 1 at_40 rfl rfl (wd hB 1 rfl) (by decide) (by decide) (by decide) (by decide) (by decide) (by decide) ?_
  intro h14 x9 hx10 E11 ⟨A12, k13, B15⟩
  have B16 : Arv Z h14 x9 k13 .char 1 [(.int 0)] (.int 0) := B15.pad (pad_rep [] (.int 0) 1)
  refine go_dup at_42 rfl rfl ?_
  refine go_iconst 0 at_43 rfl (by decide) ?_
  refine go_iloadN at_44 rfl rfl ?_
  refine go_castore 0 c0 at_45 rfl nc0 B16 ⟨by decide, by decide⟩ (by decide) (by show 0 < 1; decide) (List.Mem.head _) ?_
  intro h17 W18 B19
  have B20 : Arv Z h17 x9 k13 .char 1 [(.int c0)] (.int 0) := B19
  refine go_astore at_46 rfl #[.val (.int p0), .val (.int p1), .val (.int k), .val (.int c0), .val (.int c1), .val (.int len), .val (.ref x1), .val (.ref x9), .unset, .unset, .unset, .unset] rfl rfl ?_
  refine go_iconst 2 at_48 rfl (by decide) ?_
  refine go_newarr (ty := .char) (ad := "[C") 2 at_49 rfl rfl (wd hB 1 rfl) (by decide) (by decide) (by decide) (by decide) (by decide) (by decide) ?_
  intro h26 x21 hx22 E23 ⟨A24, k25, B27⟩
  have B28 : Arv Z h26 x21 k25 .char 2 [(.int 0), (.int 0)] (.int 0) := B27.pad (pad_rep [] (.int 0) 2)
  refine go_dup at_51 rfl rfl ?_
  refine go_iconst 0 at_52 rfl (by decide) ?_
  refine go_iloadN at_53 rfl rfl ?_
  refine go_castore 0 c0 at_54 rfl nc0 B28 ⟨by decide, by decide⟩ (by decide) (by show 0 < 2; decide) (List.Mem.head _) ?_
  intro h29 W30 B31
  have B32 : Arv Z h29 x21 k25 .char 2 [(.int c0), (.int 0)] (.int 0) := B31
  refine go_dup at_55 rfl rfl ?_
  refine go_iconst 1 at_56 rfl (by decide) ?_
  refine go_iload at_57 rfl rfl ?_
  refine go_castore 1 c1 at_59 rfl nc1 B32 ⟨by decide, by decide⟩ (by decide) (by show 1 < 2; decide) (List.Mem.head _) ?_
  intro h33 W34 B35
  have B36 : Arv Z h33 x21 k25 .char 2 [(.int c0), (.int c1)] (.int 0) := B35
  refine go_astore at_60 rfl #[.val (.int p0), .val (.int p1), .val (.int k), .val (.int c0), .val (.int c1), .val (.int len), .val (.ref x1), .val (.ref x9), .val (.ref x21), .unset, .unset, .unset] rfl rfl ?_
  refine go_iload at_62 rfl rfl ?_
  by_cases hl0 : (len = 0 : Prop)
  · refine go_if_ne_f at_64 rfl hl0 ?_
    refine go_new at_67 rfl (wd hB 2 rfl) (wd hB 3 rfl) (wd hB 4 rfl) (by decide) (by decide) ?_
    intro h42 x37 hx38 E39 ⟨A40, D41⟩
    have F43 : Fld Z h42 x37 "java/lang/String" "value" "[B" .null := D41 (Or.inr (wd hB 17 rfl)) (ty := (.array .byte)) (by decide)
    have F44 : Fld Z h42 x37 "java/lang/String" "coder" "B" (.int 0) := D41 (Or.inr (wd hB 18 rfl)) (ty := .byte) (by decide)
    refine go_dup at_70 rfl rfl ?_
    refine go_aload at_71 rfl rfl rfl ?_
    refine Go.owned (fun hgeN0 => ?_)
    have hgeN := fun y q => (hgeN0 y q).2
    have F45 := ((Arv.other (Arv.other ((Arv.other (B8.ext E11) W18 (Nat.ne_of_lt (Nat.lt_of_lt_of_le A4.lt (Nat.le_of_eq hx10.symm)))).ext E23) W30 (Nat.ne_of_lt (Nat.lt_of_lt_of_le (Nat.lt_of_lt_of_eq (Nat.lt_of_lt_of_le A4.lt E11.1) W18.size.symm) (Nat.le_of_eq hx22.symm)))) W34 (Nat.ne_of_lt (Nat.lt_of_lt_of_le (Nat.lt_of_lt_of_eq (Nat.lt_of_lt_of_le A4.lt E11.1) W18.size.symm) (Nat.le_of_eq hx22.symm)))).ext E39)
    refine go_special x37 [(.ref x1)] [(.ref x37)] 1 at_73 rfl rfl (wd hB 5 rfl) (wd hB 6 rfl) (wd hB 4 rfl) (wd hB 7 rfl) (c_sinite hB F45 A40 F43 F44) (allS (List.Mem.head _) (fun _ q => nomatch q)) (lenOf pd_6 rfl) rfl rfl rfl (by decide) (by decide) (by decide) (by decide) (by decide) (fun v46 h47 s48 q49 => ?_)
    obtain ⟨rfl, rfl, K50, -⟩ := q49
    show Go _ _ _ _ _ _ _ _ _ _ _ _ h47 [x37, x21, x9, x1] 8 15 76 #[.val (.int p0), .val (.int p1), .val (.int k), .val (.int c0), .val (.int c1), .val (.int len), .val (.ref x1), .val (.ref x9), .val (.ref x21), .unset, .unset, .unset] [(.ref x37)]
    refine go_astore at_76 rfl #[.val (.int p0), .val (.int p1), .val (.int k), .val (.int c0), .val (.int c1), .val (.int len), .val (.ref x1), .val (.ref x9), .val (.ref x21), .val (.ref x37), .unset, .unset] rfl rfl ?_
    refine go_goto (pt := 112) at_78 (by decide) (by decide) ?_
    refine go_iloadN at_112 rfl rfl ?_
    by_cases hkz : (k = 0 : Prop)
    · refine go_if_ne_f at_113 rfl hkz ?_
      refine go_iconst 1 at_116 rfl (by decide) ?_
      refine go_goto (pt := 121) at_117 (by decide) (by decide) ?_
      refine go_istore at_121 rfl #[.val (.int p0), .val (.int p1), .val (.int k), .val (.int c0), .val (.int c1), .val (.int len), .val (.ref x1), .val (.ref x9), .val (.ref x21), .val (.ref x37), .val (.int 1), .unset] rfl ?_
      refine go_new at_123 rfl (wd hB 23 rfl) (wd hB 24 rfl) (wd hB 25 rfl) (by decide) (by decide) ?_
      intro h56 x51 hx52 E53 ⟨A54, D55⟩
      have F57 : Fld Z h56 x51 "com/example/nightlatch/nightlatch/authorization/BackgroundDecision" "refusal" "Lcom/example/nightlatch/nightlatch/authorization/Refusal;" .null := D55 (Or.inr (wd hB 44 rfl)) (ty := (.object "com/example/nightlatch/nightlatch/authorization/Refusal")) (by decide)
      have F58 : Fld Z h56 x51 "com/example/nightlatch/nightlatch/authorization/BackgroundDecision" "reason" "Ljava/lang/String;" .null := D55 (Or.inr (wd hB 46 rfl)) (ty := (.object "java/lang/String")) (by decide)
      refine go_dup at_126 rfl rfl ?_
      refine go_iloadN at_127 rfl rfl ?_
      refine go_static [(.int k)] [(.ref x51), (.ref x51)] 2 at_128 rfl (wd hB 26 rfl) (wd hB 27 rfl) (wd hB 28 rfl) (wd hB 29 rfl) (c_pick hB k hk10) (fun _ q => nomatch q) (lenOf pd_7 rfl) rfl rfl rfl (by decide) (by decide) (by decide) (by decide) (by decide) (fun v59 h60 s61 q62 => ?_)
      obtain ⟨rfl, rfl, q62a⟩ := q62
      rcases q62a with ⟨hk0, rfl⟩ | ⟨hk0, r, rfl⟩
      · skip
        show Go _ _ _ _ _ _ _ _ _ _ _ _ h56 [x51, x37, x21, x9, x1] 9 17 131 #[.val (.int p0), .val (.int p1), .val (.int k), .val (.int c0), .val (.int c1), .val (.int len), .val (.ref x1), .val (.ref x9), .val (.ref x21), .val (.ref x37), .val (.int 1), .unset] [.null, (.ref x51), (.ref x51)]
        refine go_aload at_131 rfl rfl rfl ?_
        refine go_special x51 [.null, (.ref x37)] [(.ref x51)] 1 at_133 rfl rfl (wd hB 30 rfl) (wd hB 31 rfl) (wd hB 25 rfl) (wd hB 32 rfl) (c_bdN hB A54 F57 F58) (allS (List.Mem.head _) (fun _ q => nomatch q)) (lenOf pd_8 rfl) rfl rfl rfl (by decide) (by decide) (by decide) (by decide) (by decide) (fun v63 h64 s65 q66 => ?_)
        obtain ⟨rfl, rfl, K67, E68, F69⟩ := q66
        show Go _ _ _ _ _ _ _ _ _ _ _ _ h64 [x51, x37, x21, x9, x1] 9 17 136 #[.val (.int p0), .val (.int p1), .val (.int k), .val (.int c0), .val (.int c1), .val (.int len), .val (.ref x1), .val (.ref x9), .val (.ref x21), .val (.ref x37), .val (.int 1), .unset] [(.ref x51)]
        refine go_astore at_136 rfl #[.val (.int p0), .val (.int p1), .val (.int k), .val (.int c0), .val (.int c1), .val (.int len), .val (.ref x1), .val (.ref x9), .val (.ref x21), .val (.ref x37), .val (.int 1), .val (.ref x51)] rfl rfl ?_
        refine go_aload at_138 rfl rfl rfl ?_
        refine go_virtual x51 [] [] 0 at_140 rfl E68 (wd hB 47 rfl) (wd hB 48 rfl) (nf_of (wd hB 50 rfl)) (wd hB 50 rfl) (wd hB 49 rfl) (wd hB 25 rfl) (wd hB 51 rfl) (c_auN hB F69) (fun _ q => nomatch q) (lenOf pd_9 rfl) rfl rfl rfl (by decide) (by decide) (by decide) (by decide) (by decide) (fun v70 h71 s72 q73 => ?_)
        obtain ⟨rfl, rfl, rfl⟩ := q73
        show Go _ _ _ _ _ _ _ _ _ _ _ _ h64 [x51, x37, x21, x9, x1] 9 17 143 #[.val (.int p0), .val (.int p1), .val (.int k), .val (.int c0), .val (.int c1), .val (.int len), .val (.ref x1), .val (.ref x9), .val (.ref x21), .val (.ref x37), .val (.int 1), .val (.ref x51)] [(.int 1)]
        refine go_iload at_143 rfl rfl ?_
        refine go_icmp_ne_f at_145 rfl (by decide) ?_
        refine go_getstatic at_148 rfl (wd hB 52 rfl) Via.refl Sau ?_
        refine Go.old (fun hOld => ?_)
        have Eau' := Exa.ext hOld.2 Eau
        have Fau' := Fld.ext hOld.2 Fau
        refine go_virtual au [] [] 0 at_151 rfl Eau' (wd hB 47 rfl) (wd hB 48 rfl) (nf_of (wd hB 50 rfl)) (wd hB 50 rfl) (wd hB 49 rfl) (wd hB 25 rfl) (wd hB 51 rfl) (c_auN hB Fau') (fun _ q => nomatch q) (lenOf pd_9 rfl) rfl rfl rfl (by decide) (by decide) (by decide) (by decide) (by decide) (fun v74 h75 s76 q77 => ?_)
        obtain ⟨rfl, rfl, rfl⟩ := q77
        show Go _ _ _ _ _ _ _ _ _ _ _ _ h64 [x51, x37, x21, x9, x1] 9 17 154 #[.val (.int p0), .val (.int p1), .val (.int k), .val (.int c0), .val (.int c1), .val (.int len), .val (.ref x1), .val (.ref x9), .val (.ref x21), .val (.ref x37), .val (.int 1), .val (.ref x51)] [(.int 1)]
        refine go_if_eq_f at_154 rfl (by decide) ?_
        refine go_iconst 1 at_157 rfl (by decide) ?_
        refine go_goto (pt := 162) at_158 (by decide) (by decide) ?_
        refine go_retN (t := .boolean) at_162 [] rfl (by simp) (by decide) (by decide) (fun _ q => nomatch q) ?_
        decide
      · exact absurd hkz hk0
    · refine go_if_ne_t (pt := 120) at_113 (by decide) (by decide) hkz ?_
      refine go_iconst 0 at_120 rfl (by decide) ?_
      refine go_istore at_121 rfl #[.val (.int p0), .val (.int p1), .val (.int k), .val (.int c0), .val (.int c1), .val (.int len), .val (.ref x1), .val (.ref x9), .val (.ref x21), .val (.ref x37), .val (.int 0), .unset] rfl ?_
      refine go_new at_123 rfl (wd hB 23 rfl) (wd hB 24 rfl) (wd hB 25 rfl) (by decide) (by decide) ?_
      intro h83 x78 hx79 E80 ⟨A81, D82⟩
      have F84 : Fld Z h83 x78 "com/example/nightlatch/nightlatch/authorization/BackgroundDecision" "refusal" "Lcom/example/nightlatch/nightlatch/authorization/Refusal;" .null := D82 (Or.inr (wd hB 44 rfl)) (ty := (.object "com/example/nightlatch/nightlatch/authorization/Refusal")) (by decide)
      have F85 : Fld Z h83 x78 "com/example/nightlatch/nightlatch/authorization/BackgroundDecision" "reason" "Ljava/lang/String;" .null := D82 (Or.inr (wd hB 46 rfl)) (ty := (.object "java/lang/String")) (by decide)
      refine go_dup at_126 rfl rfl ?_
      refine go_iloadN at_127 rfl rfl ?_
      refine go_static [(.int k)] [(.ref x78), (.ref x78)] 2 at_128 rfl (wd hB 26 rfl) (wd hB 27 rfl) (wd hB 28 rfl) (wd hB 29 rfl) (c_pick hB k hk10) (fun _ q => nomatch q) (lenOf pd_7 rfl) rfl rfl rfl (by decide) (by decide) (by decide) (by decide) (by decide) (fun v86 h87 s88 q89 => ?_)
      obtain ⟨rfl, rfl, q89a⟩ := q89
      rcases q89a with ⟨hk0, rfl⟩ | ⟨hk0, r, rfl⟩
      · exact absurd hk0 hkz
      · skip
        show Go _ _ _ _ _ _ _ _ _ _ _ _ h83 [x78, x37, x21, x9, x1] 9 17 131 #[.val (.int p0), .val (.int p1), .val (.int k), .val (.int c0), .val (.int c1), .val (.int len), .val (.ref x1), .val (.ref x9), .val (.ref x21), .val (.ref x37), .val (.int 0), .unset] [(.ref r), (.ref x78), (.ref x78)]
        refine go_aload at_131 rfl rfl rfl ?_
        refine go_special x78 [(.ref r), (.ref x37)] [(.ref x78)] 1 at_133 rfl rfl (wd hB 30 rfl) (wd hB 31 rfl) (wd hB 25 rfl) (wd hB 32 rfl) (c_bdR hB A81 F84 F85) (allS (List.Mem.head _) (fun _ q => nomatch q)) (lenOf pd_8 rfl) rfl rfl rfl (by decide) (by decide) (by decide) (by decide) (by decide) (fun v90 h91 s92 q93 => ?_)
        obtain ⟨rfl, rfl, K94, E95, F96⟩ := q93
        show Go _ _ _ _ _ _ _ _ _ _ _ _ h91 [x78, x37, x21, x9, x1] 9 17 136 #[.val (.int p0), .val (.int p1), .val (.int k), .val (.int c0), .val (.int c1), .val (.int len), .val (.ref x1), .val (.ref x9), .val (.ref x21), .val (.ref x37), .val (.int 0), .unset] [(.ref x78)]
        refine go_astore at_136 rfl #[.val (.int p0), .val (.int p1), .val (.int k), .val (.int c0), .val (.int c1), .val (.int len), .val (.ref x1), .val (.ref x9), .val (.ref x21), .val (.ref x37), .val (.int 0), .val (.ref x78)] rfl rfl ?_
        refine go_aload at_138 rfl rfl rfl ?_
        refine go_virtual x78 [] [] 0 at_140 rfl E95 (wd hB 47 rfl) (wd hB 48 rfl) (nf_of (wd hB 50 rfl)) (wd hB 50 rfl) (wd hB 49 rfl) (wd hB 25 rfl) (wd hB 51 rfl) (c_auR hB F96) (fun _ q => nomatch q) (lenOf pd_9 rfl) rfl rfl rfl (by decide) (by decide) (by decide) (by decide) (by decide) (fun v97 h98 s99 q100 => ?_)
        obtain ⟨rfl, rfl, rfl⟩ := q100
        show Go _ _ _ _ _ _ _ _ _ _ _ _ h91 [x78, x37, x21, x9, x1] 9 17 143 #[.val (.int p0), .val (.int p1), .val (.int k), .val (.int c0), .val (.int c1), .val (.int len), .val (.ref x1), .val (.ref x9), .val (.ref x21), .val (.ref x37), .val (.int 0), .val (.ref x78)] [(.int 0)]
        refine go_iload at_143 rfl rfl ?_
        refine go_icmp_ne_f at_145 rfl (by decide) ?_
        refine go_getstatic at_148 rfl (wd hB 52 rfl) Via.refl Sau ?_
        refine Go.old (fun hOld => ?_)
        have Eau' := Exa.ext hOld.2 Eau
        have Fau' := Fld.ext hOld.2 Fau
        refine go_virtual au [] [] 0 at_151 rfl Eau' (wd hB 47 rfl) (wd hB 48 rfl) (nf_of (wd hB 50 rfl)) (wd hB 50 rfl) (wd hB 49 rfl) (wd hB 25 rfl) (wd hB 51 rfl) (c_auN hB Fau') (fun _ q => nomatch q) (lenOf pd_9 rfl) rfl rfl rfl (by decide) (by decide) (by decide) (by decide) (by decide) (fun v101 h102 s103 q104 => ?_)
        obtain ⟨rfl, rfl, rfl⟩ := q104
        show Go _ _ _ _ _ _ _ _ _ _ _ _ h91 [x78, x37, x21, x9, x1] 9 17 154 #[.val (.int p0), .val (.int p1), .val (.int k), .val (.int c0), .val (.int c1), .val (.int len), .val (.ref x1), .val (.ref x9), .val (.ref x21), .val (.ref x37), .val (.int 0), .val (.ref x78)] [(.int 1)]
        refine go_if_eq_f at_154 rfl (by decide) ?_
        refine go_iconst 1 at_157 rfl (by decide) ?_
        refine go_goto (pt := 162) at_158 (by decide) (by decide) ?_
        refine go_retN (t := .boolean) at_162 [] rfl (by simp) (by decide) (by decide) (fun _ q => nomatch q) ?_
        decide
  · refine go_if_ne_t (pt := 81) at_64 (by decide) (by decide) hl0 ?_
    refine go_iload at_81 rfl rfl ?_
    refine go_iconst 1 at_83 rfl (by decide) ?_
    by_cases hl1 : (len = 1 : Prop)
    · refine go_icmp_ne_f at_84 rfl hl1 ?_
      refine go_new at_87 rfl (wd hB 2 rfl) (wd hB 3 rfl) (wd hB 4 rfl) (by decide) (by decide) ?_
      intro h110 x105 hx106 E107 ⟨A108, D109⟩
      have F111 : Fld Z h110 x105 "java/lang/String" "value" "[B" .null := D109 (Or.inr (wd hB 17 rfl)) (ty := (.array .byte)) (by decide)
      have F112 : Fld Z h110 x105 "java/lang/String" "coder" "B" (.int 0) := D109 (Or.inr (wd hB 18 rfl)) (ty := .byte) (by decide)
      refine go_dup at_90 rfl rfl ?_
      refine go_aload at_91 rfl rfl rfl ?_
      refine Go.owned (fun hgeN0 => ?_)
      have hgeN := fun y q => (hgeN0 y q).2
      have F113 := ((Arv.other (Arv.other (B20.ext E23) W30 (Nat.ne_of_lt (Nat.lt_of_lt_of_le B20.lt (Nat.le_of_eq hx22.symm)))) W34 (Nat.ne_of_lt (Nat.lt_of_lt_of_le B20.lt (Nat.le_of_eq hx22.symm)))).ext E107)
      refine go_special x105 [(.ref x9)] [(.ref x105)] 1 at_93 rfl rfl (wd hB 5 rfl) (wd hB 6 rfl) (wd hB 4 rfl) (wd hB 7 rfl) (c_sinit hB [c0] (by simp) (by simp) (List.forall_mem_cons.mpr ⟨lc0, (fun _ q => nomatch q)⟩) F113 A108 F111 F112 (hgeN x105 (List.Mem.head _))) (allS (List.Mem.head _) (fun _ q => nomatch q)) (lenOf pd_6 rfl) rfl rfl rfl (by decide) (by decide) (by decide) (by decide) (by decide) (fun v114 h115 s116 q117 => ?_)
      obtain ⟨rfl, rfl, K118, -⟩ := q117
      show Go _ _ _ _ _ _ _ _ _ _ _ _ h115 [x105, x21, x9, x1] 5 23 96 #[.val (.int p0), .val (.int p1), .val (.int k), .val (.int c0), .val (.int c1), .val (.int len), .val (.ref x1), .val (.ref x9), .val (.ref x21), .unset, .unset, .unset] [(.ref x105)]
      refine go_astore at_96 rfl #[.val (.int p0), .val (.int p1), .val (.int k), .val (.int c0), .val (.int c1), .val (.int len), .val (.ref x1), .val (.ref x9), .val (.ref x21), .val (.ref x105), .unset, .unset] rfl rfl ?_
      refine go_goto (pt := 112) at_98 (by decide) (by decide) ?_
      refine go_iloadN at_112 rfl rfl ?_
      by_cases hkz : (k = 0 : Prop)
      · refine go_if_ne_f at_113 rfl hkz ?_
        refine go_iconst 1 at_116 rfl (by decide) ?_
        refine go_goto (pt := 121) at_117 (by decide) (by decide) ?_
        refine go_istore at_121 rfl #[.val (.int p0), .val (.int p1), .val (.int k), .val (.int c0), .val (.int c1), .val (.int len), .val (.ref x1), .val (.ref x9), .val (.ref x21), .val (.ref x105), .val (.int 1), .unset] rfl ?_
        refine go_new at_123 rfl (wd hB 23 rfl) (wd hB 24 rfl) (wd hB 25 rfl) (by decide) (by decide) ?_
        intro h124 x119 hx120 E121 ⟨A122, D123⟩
        have F125 : Fld Z h124 x119 "com/example/nightlatch/nightlatch/authorization/BackgroundDecision" "refusal" "Lcom/example/nightlatch/nightlatch/authorization/Refusal;" .null := D123 (Or.inr (wd hB 44 rfl)) (ty := (.object "com/example/nightlatch/nightlatch/authorization/Refusal")) (by decide)
        have F126 : Fld Z h124 x119 "com/example/nightlatch/nightlatch/authorization/BackgroundDecision" "reason" "Ljava/lang/String;" .null := D123 (Or.inr (wd hB 46 rfl)) (ty := (.object "java/lang/String")) (by decide)
        refine go_dup at_126 rfl rfl ?_
        refine go_iloadN at_127 rfl rfl ?_
        refine go_static [(.int k)] [(.ref x119), (.ref x119)] 2 at_128 rfl (wd hB 26 rfl) (wd hB 27 rfl) (wd hB 28 rfl) (wd hB 29 rfl) (c_pick hB k hk10) (fun _ q => nomatch q) (lenOf pd_7 rfl) rfl rfl rfl (by decide) (by decide) (by decide) (by decide) (by decide) (fun v127 h128 s129 q130 => ?_)
        obtain ⟨rfl, rfl, q130a⟩ := q130
        rcases q130a with ⟨hk0, rfl⟩ | ⟨hk0, r, rfl⟩
        · skip
          show Go _ _ _ _ _ _ _ _ _ _ _ _ h124 [x119, x105, x21, x9, x1] 6 25 131 #[.val (.int p0), .val (.int p1), .val (.int k), .val (.int c0), .val (.int c1), .val (.int len), .val (.ref x1), .val (.ref x9), .val (.ref x21), .val (.ref x105), .val (.int 1), .unset] [.null, (.ref x119), (.ref x119)]
          refine go_aload at_131 rfl rfl rfl ?_
          refine go_special x119 [.null, (.ref x105)] [(.ref x119)] 1 at_133 rfl rfl (wd hB 30 rfl) (wd hB 31 rfl) (wd hB 25 rfl) (wd hB 32 rfl) (c_bdN hB A122 F125 F126) (allS (List.Mem.head _) (fun _ q => nomatch q)) (lenOf pd_8 rfl) rfl rfl rfl (by decide) (by decide) (by decide) (by decide) (by decide) (fun v131 h132 s133 q134 => ?_)
          obtain ⟨rfl, rfl, K135, E136, F137⟩ := q134
          show Go _ _ _ _ _ _ _ _ _ _ _ _ h132 [x119, x105, x21, x9, x1] 6 25 136 #[.val (.int p0), .val (.int p1), .val (.int k), .val (.int c0), .val (.int c1), .val (.int len), .val (.ref x1), .val (.ref x9), .val (.ref x21), .val (.ref x105), .val (.int 1), .unset] [(.ref x119)]
          refine go_astore at_136 rfl #[.val (.int p0), .val (.int p1), .val (.int k), .val (.int c0), .val (.int c1), .val (.int len), .val (.ref x1), .val (.ref x9), .val (.ref x21), .val (.ref x105), .val (.int 1), .val (.ref x119)] rfl rfl ?_
          refine go_aload at_138 rfl rfl rfl ?_
          refine go_virtual x119 [] [] 0 at_140 rfl E136 (wd hB 47 rfl) (wd hB 48 rfl) (nf_of (wd hB 50 rfl)) (wd hB 50 rfl) (wd hB 49 rfl) (wd hB 25 rfl) (wd hB 51 rfl) (c_auN hB F137) (fun _ q => nomatch q) (lenOf pd_9 rfl) rfl rfl rfl (by decide) (by decide) (by decide) (by decide) (by decide) (fun v138 h139 s140 q141 => ?_)
          obtain ⟨rfl, rfl, rfl⟩ := q141
          show Go _ _ _ _ _ _ _ _ _ _ _ _ h132 [x119, x105, x21, x9, x1] 6 25 143 #[.val (.int p0), .val (.int p1), .val (.int k), .val (.int c0), .val (.int c1), .val (.int len), .val (.ref x1), .val (.ref x9), .val (.ref x21), .val (.ref x105), .val (.int 1), .val (.ref x119)] [(.int 1)]
          refine go_iload at_143 rfl rfl ?_
          refine go_icmp_ne_f at_145 rfl (by decide) ?_
          refine go_getstatic at_148 rfl (wd hB 52 rfl) Via.refl Sau ?_
          refine Go.old (fun hOld => ?_)
          have Eau' := Exa.ext hOld.2 Eau
          have Fau' := Fld.ext hOld.2 Fau
          refine go_virtual au [] [] 0 at_151 rfl Eau' (wd hB 47 rfl) (wd hB 48 rfl) (nf_of (wd hB 50 rfl)) (wd hB 50 rfl) (wd hB 49 rfl) (wd hB 25 rfl) (wd hB 51 rfl) (c_auN hB Fau') (fun _ q => nomatch q) (lenOf pd_9 rfl) rfl rfl rfl (by decide) (by decide) (by decide) (by decide) (by decide) (fun v142 h143 s144 q145 => ?_)
          obtain ⟨rfl, rfl, rfl⟩ := q145
          show Go _ _ _ _ _ _ _ _ _ _ _ _ h132 [x119, x105, x21, x9, x1] 6 25 154 #[.val (.int p0), .val (.int p1), .val (.int k), .val (.int c0), .val (.int c1), .val (.int len), .val (.ref x1), .val (.ref x9), .val (.ref x21), .val (.ref x105), .val (.int 1), .val (.ref x119)] [(.int 1)]
          refine go_if_eq_f at_154 rfl (by decide) ?_
          refine go_iconst 1 at_157 rfl (by decide) ?_
          refine go_goto (pt := 162) at_158 (by decide) (by decide) ?_
          refine go_retN (t := .boolean) at_162 [] rfl (by simp) (by decide) (by decide) (fun _ q => nomatch q) ?_
          decide
        · exact absurd hkz hk0
      · refine go_if_ne_t (pt := 120) at_113 (by decide) (by decide) hkz ?_
        refine go_iconst 0 at_120 rfl (by decide) ?_
        refine go_istore at_121 rfl #[.val (.int p0), .val (.int p1), .val (.int k), .val (.int c0), .val (.int c1), .val (.int len), .val (.ref x1), .val (.ref x9), .val (.ref x21), .val (.ref x105), .val (.int 0), .unset] rfl ?_
        refine go_new at_123 rfl (wd hB 23 rfl) (wd hB 24 rfl) (wd hB 25 rfl) (by decide) (by decide) ?_
        intro h151 x146 hx147 E148 ⟨A149, D150⟩
        have F152 : Fld Z h151 x146 "com/example/nightlatch/nightlatch/authorization/BackgroundDecision" "refusal" "Lcom/example/nightlatch/nightlatch/authorization/Refusal;" .null := D150 (Or.inr (wd hB 44 rfl)) (ty := (.object "com/example/nightlatch/nightlatch/authorization/Refusal")) (by decide)
        have F153 : Fld Z h151 x146 "com/example/nightlatch/nightlatch/authorization/BackgroundDecision" "reason" "Ljava/lang/String;" .null := D150 (Or.inr (wd hB 46 rfl)) (ty := (.object "java/lang/String")) (by decide)
        refine go_dup at_126 rfl rfl ?_
        refine go_iloadN at_127 rfl rfl ?_
        refine go_static [(.int k)] [(.ref x146), (.ref x146)] 2 at_128 rfl (wd hB 26 rfl) (wd hB 27 rfl) (wd hB 28 rfl) (wd hB 29 rfl) (c_pick hB k hk10) (fun _ q => nomatch q) (lenOf pd_7 rfl) rfl rfl rfl (by decide) (by decide) (by decide) (by decide) (by decide) (fun v154 h155 s156 q157 => ?_)
        obtain ⟨rfl, rfl, q157a⟩ := q157
        rcases q157a with ⟨hk0, rfl⟩ | ⟨hk0, r, rfl⟩
        · exact absurd hk0 hkz
        · skip
          show Go _ _ _ _ _ _ _ _ _ _ _ _ h151 [x146, x105, x21, x9, x1] 6 25 131 #[.val (.int p0), .val (.int p1), .val (.int k), .val (.int c0), .val (.int c1), .val (.int len), .val (.ref x1), .val (.ref x9), .val (.ref x21), .val (.ref x105), .val (.int 0), .unset] [(.ref r), (.ref x146), (.ref x146)]
          refine go_aload at_131 rfl rfl rfl ?_
          refine go_special x146 [(.ref r), (.ref x105)] [(.ref x146)] 1 at_133 rfl rfl (wd hB 30 rfl) (wd hB 31 rfl) (wd hB 25 rfl) (wd hB 32 rfl) (c_bdR hB A149 F152 F153) (allS (List.Mem.head _) (fun _ q => nomatch q)) (lenOf pd_8 rfl) rfl rfl rfl (by decide) (by decide) (by decide) (by decide) (by decide) (fun v158 h159 s160 q161 => ?_)
          obtain ⟨rfl, rfl, K162, E163, F164⟩ := q161
          show Go _ _ _ _ _ _ _ _ _ _ _ _ h159 [x146, x105, x21, x9, x1] 6 25 136 #[.val (.int p0), .val (.int p1), .val (.int k), .val (.int c0), .val (.int c1), .val (.int len), .val (.ref x1), .val (.ref x9), .val (.ref x21), .val (.ref x105), .val (.int 0), .unset] [(.ref x146)]
          refine go_astore at_136 rfl #[.val (.int p0), .val (.int p1), .val (.int k), .val (.int c0), .val (.int c1), .val (.int len), .val (.ref x1), .val (.ref x9), .val (.ref x21), .val (.ref x105), .val (.int 0), .val (.ref x146)] rfl rfl ?_
          refine go_aload at_138 rfl rfl rfl ?_
          refine go_virtual x146 [] [] 0 at_140 rfl E163 (wd hB 47 rfl) (wd hB 48 rfl) (nf_of (wd hB 50 rfl)) (wd hB 50 rfl) (wd hB 49 rfl) (wd hB 25 rfl) (wd hB 51 rfl) (c_auR hB F164) (fun _ q => nomatch q) (lenOf pd_9 rfl) rfl rfl rfl (by decide) (by decide) (by decide) (by decide) (by decide) (fun v165 h166 s167 q168 => ?_)
          obtain ⟨rfl, rfl, rfl⟩ := q168
          show Go _ _ _ _ _ _ _ _ _ _ _ _ h159 [x146, x105, x21, x9, x1] 6 25 143 #[.val (.int p0), .val (.int p1), .val (.int k), .val (.int c0), .val (.int c1), .val (.int len), .val (.ref x1), .val (.ref x9), .val (.ref x21), .val (.ref x105), .val (.int 0), .val (.ref x146)] [(.int 0)]
          refine go_iload at_143 rfl rfl ?_
          refine go_icmp_ne_f at_145 rfl (by decide) ?_
          refine go_getstatic at_148 rfl (wd hB 52 rfl) Via.refl Sau ?_
          refine Go.old (fun hOld => ?_)
          have Eau' := Exa.ext hOld.2 Eau
          have Fau' := Fld.ext hOld.2 Fau
          refine go_virtual au [] [] 0 at_151 rfl Eau' (wd hB 47 rfl) (wd hB 48 rfl) (nf_of (wd hB 50 rfl)) (wd hB 50 rfl) (wd hB 49 rfl) (wd hB 25 rfl) (wd hB 51 rfl) (c_auN hB Fau') (fun _ q => nomatch q) (lenOf pd_9 rfl) rfl rfl rfl (by decide) (by decide) (by decide) (by decide) (by decide) (fun v169 h170 s171 q172 => ?_)
          obtain ⟨rfl, rfl, rfl⟩ := q172
          show Go _ _ _ _ _ _ _ _ _ _ _ _ h159 [x146, x105, x21, x9, x1] 6 25 154 #[.val (.int p0), .val (.int p1), .val (.int k), .val (.int c0), .val (.int c1), .val (.int len), .val (.ref x1), .val (.ref x9), .val (.ref x21), .val (.ref x105), .val (.int 0), .val (.ref x146)] [(.int 1)]
          refine go_if_eq_f at_154 rfl (by decide) ?_
          refine go_iconst 1 at_157 rfl (by decide) ?_
          refine go_goto (pt := 162) at_158 (by decide) (by decide) ?_
          refine go_retN (t := .boolean) at_162 [] rfl (by simp) (by decide) (by decide) (fun _ q => nomatch q) ?_
          decide
    · refine go_icmp_ne_t (pt := 101) at_84 (by decide) (by decide) hl1 ?_
      refine go_new at_101 rfl (wd hB 2 rfl) (wd hB 3 rfl) (wd hB 4 rfl) (by decide) (by decide) ?_
      intro h178 x173 hx174 E175 ⟨A176, D177⟩
      have F179 : Fld Z h178 x173 "java/lang/String" "value" "[B" .null := D177 (Or.inr (wd hB 17 rfl)) (ty := (.array .byte)) (by decide)
      have F180 : Fld Z h178 x173 "java/lang/String" "coder" "B" (.int 0) := D177 (Or.inr (wd hB 18 rfl)) (ty := .byte) (by decide)
      refine go_dup at_104 rfl rfl ?_
      refine go_aload at_105 rfl rfl rfl ?_
      refine Go.owned (fun hgeN0 => ?_)
      have hgeN := fun y q => (hgeN0 y q).2
      have F181 := (B36.ext E175)
      refine go_special x173 [(.ref x21)] [(.ref x173)] 1 at_107 rfl rfl (wd hB 5 rfl) (wd hB 6 rfl) (wd hB 4 rfl) (wd hB 7 rfl) (c_sinit hB [c0, c1] (by simp) (by simp) (List.forall_mem_cons.mpr ⟨lc0, (List.forall_mem_cons.mpr ⟨lc1, (fun _ q => nomatch q)⟩)⟩) F181 A176 F179 F180 (hgeN x173 (List.Mem.head _))) (allS (List.Mem.head _) (fun _ q => nomatch q)) (lenOf pd_6 rfl) rfl rfl rfl (by decide) (by decide) (by decide) (by decide) (by decide) (fun v182 h183 s184 q185 => ?_)
      obtain ⟨rfl, rfl, K186, -⟩ := q185
      show Go _ _ _ _ _ _ _ _ _ _ _ _ h183 [x173, x21, x9, x1] 5 23 110 #[.val (.int p0), .val (.int p1), .val (.int k), .val (.int c0), .val (.int c1), .val (.int len), .val (.ref x1), .val (.ref x9), .val (.ref x21), .unset, .unset, .unset] [(.ref x173)]
      refine go_astore at_110 rfl #[.val (.int p0), .val (.int p1), .val (.int k), .val (.int c0), .val (.int c1), .val (.int len), .val (.ref x1), .val (.ref x9), .val (.ref x21), .val (.ref x173), .unset, .unset] rfl rfl ?_
      refine go_iloadN at_112 rfl rfl ?_
      by_cases hkz : (k = 0 : Prop)
      · refine go_if_ne_f at_113 rfl hkz ?_
        refine go_iconst 1 at_116 rfl (by decide) ?_
        refine go_goto (pt := 121) at_117 (by decide) (by decide) ?_
        refine go_istore at_121 rfl #[.val (.int p0), .val (.int p1), .val (.int k), .val (.int c0), .val (.int c1), .val (.int len), .val (.ref x1), .val (.ref x9), .val (.ref x21), .val (.ref x173), .val (.int 1), .unset] rfl ?_
        refine go_new at_123 rfl (wd hB 23 rfl) (wd hB 24 rfl) (wd hB 25 rfl) (by decide) (by decide) ?_
        intro h192 x187 hx188 E189 ⟨A190, D191⟩
        have F193 : Fld Z h192 x187 "com/example/nightlatch/nightlatch/authorization/BackgroundDecision" "refusal" "Lcom/example/nightlatch/nightlatch/authorization/Refusal;" .null := D191 (Or.inr (wd hB 44 rfl)) (ty := (.object "com/example/nightlatch/nightlatch/authorization/Refusal")) (by decide)
        have F194 : Fld Z h192 x187 "com/example/nightlatch/nightlatch/authorization/BackgroundDecision" "reason" "Ljava/lang/String;" .null := D191 (Or.inr (wd hB 46 rfl)) (ty := (.object "java/lang/String")) (by decide)
        refine go_dup at_126 rfl rfl ?_
        refine go_iloadN at_127 rfl rfl ?_
        refine go_static [(.int k)] [(.ref x187), (.ref x187)] 2 at_128 rfl (wd hB 26 rfl) (wd hB 27 rfl) (wd hB 28 rfl) (wd hB 29 rfl) (c_pick hB k hk10) (fun _ q => nomatch q) (lenOf pd_7 rfl) rfl rfl rfl (by decide) (by decide) (by decide) (by decide) (by decide) (fun v195 h196 s197 q198 => ?_)
        obtain ⟨rfl, rfl, q198a⟩ := q198
        rcases q198a with ⟨hk0, rfl⟩ | ⟨hk0, r, rfl⟩
        · skip
          show Go _ _ _ _ _ _ _ _ _ _ _ _ h192 [x187, x173, x21, x9, x1] 6 25 131 #[.val (.int p0), .val (.int p1), .val (.int k), .val (.int c0), .val (.int c1), .val (.int len), .val (.ref x1), .val (.ref x9), .val (.ref x21), .val (.ref x173), .val (.int 1), .unset] [.null, (.ref x187), (.ref x187)]
          refine go_aload at_131 rfl rfl rfl ?_
          refine go_special x187 [.null, (.ref x173)] [(.ref x187)] 1 at_133 rfl rfl (wd hB 30 rfl) (wd hB 31 rfl) (wd hB 25 rfl) (wd hB 32 rfl) (c_bdN hB A190 F193 F194) (allS (List.Mem.head _) (fun _ q => nomatch q)) (lenOf pd_8 rfl) rfl rfl rfl (by decide) (by decide) (by decide) (by decide) (by decide) (fun v199 h200 s201 q202 => ?_)
          obtain ⟨rfl, rfl, K203, E204, F205⟩ := q202
          show Go _ _ _ _ _ _ _ _ _ _ _ _ h200 [x187, x173, x21, x9, x1] 6 25 136 #[.val (.int p0), .val (.int p1), .val (.int k), .val (.int c0), .val (.int c1), .val (.int len), .val (.ref x1), .val (.ref x9), .val (.ref x21), .val (.ref x173), .val (.int 1), .unset] [(.ref x187)]
          refine go_astore at_136 rfl #[.val (.int p0), .val (.int p1), .val (.int k), .val (.int c0), .val (.int c1), .val (.int len), .val (.ref x1), .val (.ref x9), .val (.ref x21), .val (.ref x173), .val (.int 1), .val (.ref x187)] rfl rfl ?_
          refine go_aload at_138 rfl rfl rfl ?_
          refine go_virtual x187 [] [] 0 at_140 rfl E204 (wd hB 47 rfl) (wd hB 48 rfl) (nf_of (wd hB 50 rfl)) (wd hB 50 rfl) (wd hB 49 rfl) (wd hB 25 rfl) (wd hB 51 rfl) (c_auN hB F205) (fun _ q => nomatch q) (lenOf pd_9 rfl) rfl rfl rfl (by decide) (by decide) (by decide) (by decide) (by decide) (fun v206 h207 s208 q209 => ?_)
          obtain ⟨rfl, rfl, rfl⟩ := q209
          show Go _ _ _ _ _ _ _ _ _ _ _ _ h200 [x187, x173, x21, x9, x1] 6 25 143 #[.val (.int p0), .val (.int p1), .val (.int k), .val (.int c0), .val (.int c1), .val (.int len), .val (.ref x1), .val (.ref x9), .val (.ref x21), .val (.ref x173), .val (.int 1), .val (.ref x187)] [(.int 1)]
          refine go_iload at_143 rfl rfl ?_
          refine go_icmp_ne_f at_145 rfl (by decide) ?_
          refine go_getstatic at_148 rfl (wd hB 52 rfl) Via.refl Sau ?_
          refine Go.old (fun hOld => ?_)
          have Eau' := Exa.ext hOld.2 Eau
          have Fau' := Fld.ext hOld.2 Fau
          refine go_virtual au [] [] 0 at_151 rfl Eau' (wd hB 47 rfl) (wd hB 48 rfl) (nf_of (wd hB 50 rfl)) (wd hB 50 rfl) (wd hB 49 rfl) (wd hB 25 rfl) (wd hB 51 rfl) (c_auN hB Fau') (fun _ q => nomatch q) (lenOf pd_9 rfl) rfl rfl rfl (by decide) (by decide) (by decide) (by decide) (by decide) (fun v210 h211 s212 q213 => ?_)
          obtain ⟨rfl, rfl, rfl⟩ := q213
          show Go _ _ _ _ _ _ _ _ _ _ _ _ h200 [x187, x173, x21, x9, x1] 6 25 154 #[.val (.int p0), .val (.int p1), .val (.int k), .val (.int c0), .val (.int c1), .val (.int len), .val (.ref x1), .val (.ref x9), .val (.ref x21), .val (.ref x173), .val (.int 1), .val (.ref x187)] [(.int 1)]
          refine go_if_eq_f at_154 rfl (by decide) ?_
          refine go_iconst 1 at_157 rfl (by decide) ?_
          refine go_goto (pt := 162) at_158 (by decide) (by decide) ?_
          refine go_retN (t := .boolean) at_162 [] rfl (by simp) (by decide) (by decide) (fun _ q => nomatch q) ?_
          decide
        · exact absurd hkz hk0
      · refine go_if_ne_t (pt := 120) at_113 (by decide) (by decide) hkz ?_
        refine go_iconst 0 at_120 rfl (by decide) ?_
        refine go_istore at_121 rfl #[.val (.int p0), .val (.int p1), .val (.int k), .val (.int c0), .val (.int c1), .val (.int len), .val (.ref x1), .val (.ref x9), .val (.ref x21), .val (.ref x173), .val (.int 0), .unset] rfl ?_
        refine go_new at_123 rfl (wd hB 23 rfl) (wd hB 24 rfl) (wd hB 25 rfl) (by decide) (by decide) ?_
        intro h219 x214 hx215 E216 ⟨A217, D218⟩
        have F220 : Fld Z h219 x214 "com/example/nightlatch/nightlatch/authorization/BackgroundDecision" "refusal" "Lcom/example/nightlatch/nightlatch/authorization/Refusal;" .null := D218 (Or.inr (wd hB 44 rfl)) (ty := (.object "com/example/nightlatch/nightlatch/authorization/Refusal")) (by decide)
        have F221 : Fld Z h219 x214 "com/example/nightlatch/nightlatch/authorization/BackgroundDecision" "reason" "Ljava/lang/String;" .null := D218 (Or.inr (wd hB 46 rfl)) (ty := (.object "java/lang/String")) (by decide)
        refine go_dup at_126 rfl rfl ?_
        refine go_iloadN at_127 rfl rfl ?_
        refine go_static [(.int k)] [(.ref x214), (.ref x214)] 2 at_128 rfl (wd hB 26 rfl) (wd hB 27 rfl) (wd hB 28 rfl) (wd hB 29 rfl) (c_pick hB k hk10) (fun _ q => nomatch q) (lenOf pd_7 rfl) rfl rfl rfl (by decide) (by decide) (by decide) (by decide) (by decide) (fun v222 h223 s224 q225 => ?_)
        obtain ⟨rfl, rfl, q225a⟩ := q225
        rcases q225a with ⟨hk0, rfl⟩ | ⟨hk0, r, rfl⟩
        · exact absurd hk0 hkz
        · skip
          show Go _ _ _ _ _ _ _ _ _ _ _ _ h219 [x214, x173, x21, x9, x1] 6 25 131 #[.val (.int p0), .val (.int p1), .val (.int k), .val (.int c0), .val (.int c1), .val (.int len), .val (.ref x1), .val (.ref x9), .val (.ref x21), .val (.ref x173), .val (.int 0), .unset] [(.ref r), (.ref x214), (.ref x214)]
          refine go_aload at_131 rfl rfl rfl ?_
          refine go_special x214 [(.ref r), (.ref x173)] [(.ref x214)] 1 at_133 rfl rfl (wd hB 30 rfl) (wd hB 31 rfl) (wd hB 25 rfl) (wd hB 32 rfl) (c_bdR hB A217 F220 F221) (allS (List.Mem.head _) (fun _ q => nomatch q)) (lenOf pd_8 rfl) rfl rfl rfl (by decide) (by decide) (by decide) (by decide) (by decide) (fun v226 h227 s228 q229 => ?_)
          obtain ⟨rfl, rfl, K230, E231, F232⟩ := q229
          show Go _ _ _ _ _ _ _ _ _ _ _ _ h227 [x214, x173, x21, x9, x1] 6 25 136 #[.val (.int p0), .val (.int p1), .val (.int k), .val (.int c0), .val (.int c1), .val (.int len), .val (.ref x1), .val (.ref x9), .val (.ref x21), .val (.ref x173), .val (.int 0), .unset] [(.ref x214)]
          refine go_astore at_136 rfl #[.val (.int p0), .val (.int p1), .val (.int k), .val (.int c0), .val (.int c1), .val (.int len), .val (.ref x1), .val (.ref x9), .val (.ref x21), .val (.ref x173), .val (.int 0), .val (.ref x214)] rfl rfl ?_
          refine go_aload at_138 rfl rfl rfl ?_
          refine go_virtual x214 [] [] 0 at_140 rfl E231 (wd hB 47 rfl) (wd hB 48 rfl) (nf_of (wd hB 50 rfl)) (wd hB 50 rfl) (wd hB 49 rfl) (wd hB 25 rfl) (wd hB 51 rfl) (c_auR hB F232) (fun _ q => nomatch q) (lenOf pd_9 rfl) rfl rfl rfl (by decide) (by decide) (by decide) (by decide) (by decide) (fun v233 h234 s235 q236 => ?_)
          obtain ⟨rfl, rfl, rfl⟩ := q236
          show Go _ _ _ _ _ _ _ _ _ _ _ _ h227 [x214, x173, x21, x9, x1] 6 25 143 #[.val (.int p0), .val (.int p1), .val (.int k), .val (.int c0), .val (.int c1), .val (.int len), .val (.ref x1), .val (.ref x9), .val (.ref x21), .val (.ref x173), .val (.int 0), .val (.ref x214)] [(.int 0)]
          refine go_iload at_143 rfl rfl ?_
          refine go_icmp_ne_f at_145 rfl (by decide) ?_
          refine go_getstatic at_148 rfl (wd hB 52 rfl) Via.refl Sau ?_
          refine Go.old (fun hOld => ?_)
          have Eau' := Exa.ext hOld.2 Eau
          have Fau' := Fld.ext hOld.2 Fau
          refine go_virtual au [] [] 0 at_151 rfl Eau' (wd hB 47 rfl) (wd hB 48 rfl) (nf_of (wd hB 50 rfl)) (wd hB 50 rfl) (wd hB 49 rfl) (wd hB 25 rfl) (wd hB 51 rfl) (c_auN hB Fau') (fun _ q => nomatch q) (lenOf pd_9 rfl) rfl rfl rfl (by decide) (by decide) (by decide) (by decide) (by decide) (fun v237 h238 s239 q240 => ?_)
          obtain ⟨rfl, rfl, rfl⟩ := q240
          show Go _ _ _ _ _ _ _ _ _ _ _ _ h227 [x214, x173, x21, x9, x1] 6 25 154 #[.val (.int p0), .val (.int p1), .val (.int k), .val (.int c0), .val (.int c1), .val (.int len), .val (.ref x1), .val (.ref x9), .val (.ref x21), .val (.ref x173), .val (.int 0), .val (.ref x214)] [(.int 1)]
          refine go_if_eq_f at_154 rfl (by decide) ?_
          refine go_iconst 1 at_157 rfl (by decide) ?_
          refine go_goto (pt := 162) at_158 (by decide) (by decide) ?_
          refine go_retN (t := .boolean) at_162 [] rfl (by simp) (by decide) (by decide) (fun _ q => nomatch q) ?_
          decide
set_option maxRecDepth 65536 in
set_option maxHeartbeats 40000000 in
theorem comes_1 {Post : Tables → Env → Array Value → State → Outcome → State → Prop} (hpost : ∀ tb e args s v u, (limb_1_1.after args s (.returned v) u = true ∧ limb_1_2.after args s (.returned v) u = true ∧ True) → ReturnedEndW s (.returned v) u (Jvm.fieldLocs frame_1_writes args s ++ Jvm.arrayLocs frame_1_arrays args s ++ Jvm.staticLocs frame_1_statics s) 24 1152 → Post tb e args s (.returned v) u) :
    ArmFor flags0 classFile x code maxLocals ret World_1 tables_1 room_1 Calls_1 rest_1 Pre_1 Post := by
  intro l hfl _ _ p e ha hc hk s m args below hf hA hF happ hP
  obtain ⟨hcalls, hrest, hpre⟩ := hP
  obtain ⟨-, -, -, hnamed, -, -, -, hat⟩ := (Spec.applies_iff hf).mp happ
  obtain ⟨hg, hn⟩ := and_e (Cond.before_iff.mp (show (Jvm.Cond.and given_1 narrow_1).before args s = true from hpre))
  obtain ⟨hcount, hr_0⟩ := and_e hg
  obtain ⟨hk_0, hr_1⟩ := and_e hr_0
  have hk_1 := hr_1
  obtain ⟨w0, w1, rfl⟩ : ∃ w0 w1 : Value, args = #[w0, w1] := by
    have hs : args.size = 2 := by simpa [Cond.value, given_1] using hcount
    obtain ⟨L⟩ := args
    match L, hs with
    | [w0, w1], _ => exact ⟨w0, w1, rfl⟩
  have hw := fun d (hd : d ∈ tables_1) => atoms_spec (ws := Jvm.Cond.code x code maxLocals ret :: tables_1) hat d (List.mem_cons_of_mem _ hd)
  obtain ⟨hsets, hown0⟩ := atoms_of _ (rest_1_c_eq ▸ (show rest_1_c.before _ s = true from hrest))
  have hfit : Fit s := fun {y c} hc i hi => by
    obtain ⟨ha, rfl⟩ := Array.getElem?_eq_some_iff.mp hc
    have q := List.all_eq_true.mp ((Array.all_eq_true_iff_forall_mem.mp hF) _ (Array.getElem_mem ha)) i (List.mem_range.mpr hi)
    simpa [Array.getElem?_eq_getElem hi] using q
  obtain ⟨p0, e_0⟩ := is_v hk_0
  obtain rfl : w0 = (.int p0) := Option.some.inj e_0
  obtain ⟨p1, e_1⟩ := is_v hk_1
  obtain rfl : w1 = (.int p1) := Option.some.inj e_1
  obtain ⟨cz, e_cz⟩ := is_v (Cond.before_iff.mp (hsets _ (List.mem_of_getElem? (i := 1) rfl)))
  have S_cs : Sta s s.heap "java/lang/String" "COMPACT_STRINGS" "Z" (.int cz) := Sta.start e_cz (Or.inl (hsets _ (List.mem_of_getElem? (i := 0) rfl)))
  have c_cs : ¬ (cz = (0 : Int32)) := gotF (Cond.eq_ints e_cz (Term.int_eval (0))) (not_v (Cond.before_iff.mp (hsets _ (List.mem_of_getElem? (i := 2) rfl))))
  obtain ⟨hn_0, hm_0⟩ := and_e hn
  obtain ⟨hn_1, hm_1⟩ := and_e hm_0
  obtain ⟨hn_2, hm_2⟩ := and_e hm_1
  obtain ⟨hn_3, hm_3⟩ := and_e hm_2
  obtain ⟨hn_4, hm_4⟩ := and_e hm_3
  obtain ⟨hn_5, hm_5⟩ := and_e hm_4
  obtain ⟨hn_6, hm_6⟩ := and_e hm_5
  obtain ⟨hn_7, hm_7⟩ := and_e hm_6
  obtain ⟨hn_8, hm_8⟩ := and_e hm_7
  obtain ⟨hn_9, hm_9⟩ := and_e hm_8
  have hn_10 := hm_9
  obtain ⟨au, e_au⟩ := exa_v hn_0
  have S_au : Sta s s.heap "com/example/nightlatch/nightlatch/authorization/BackgroundDecision" "AUTHORIZED" "Lcom/example/nightlatch/nightlatch/authorization/BackgroundDecision;" (.ref au) := Sta.start e_au (Or.inr ⟨hw _ (List.mem_of_getElem? (i := 25) rfl), hw _ (List.mem_of_getElem? (i := 53) rfl)⟩)
  have E_au : Exa s s.heap au "com/example/nightlatch/nightlatch/authorization/BackgroundDecision" := Exa.start e_au hn_0
  have F_au : Fld s s.heap au "com/example/nightlatch/nightlatch/authorization/BackgroundDecision" "refusal" "Lcom/example/nightlatch/nightlatch/authorization/Refusal;" .null := Fld.start ((fld_at e_au).symm.trans (null_v hn_1))
  obtain ⟨a_REGISTRATION_INVALID, e_REGISTRATION_INVALID⟩ := exa_v hn_2
  have S_REGISTRATION_INVALID : Sta s s.heap "com/example/nightlatch/nightlatch/authorization/Refusal" "REGISTRATION_INVALID" "Lcom/example/nightlatch/nightlatch/authorization/Refusal;" (.ref a_REGISTRATION_INVALID) := Sta.start e_REGISTRATION_INVALID (Or.inr ⟨hw _ (List.mem_of_getElem? (i := 55) rfl), hw _ (List.mem_of_getElem? (i := 56) rfl)⟩)
  obtain ⟨a_AUTHENTICATION_EXPIRED, e_AUTHENTICATION_EXPIRED⟩ := exa_v hn_3
  have S_AUTHENTICATION_EXPIRED : Sta s s.heap "com/example/nightlatch/nightlatch/authorization/Refusal" "AUTHENTICATION_EXPIRED" "Lcom/example/nightlatch/nightlatch/authorization/Refusal;" (.ref a_AUTHENTICATION_EXPIRED) := Sta.start e_AUTHENTICATION_EXPIRED (Or.inr ⟨hw _ (List.mem_of_getElem? (i := 55) rfl), hw _ (List.mem_of_getElem? (i := 58) rfl)⟩)
  obtain ⟨a_NOT_UNLOCKED_SINCE_RESTART, e_NOT_UNLOCKED_SINCE_RESTART⟩ := exa_v hn_4
  have S_NOT_UNLOCKED_SINCE_RESTART : Sta s s.heap "com/example/nightlatch/nightlatch/authorization/Refusal" "NOT_UNLOCKED_SINCE_RESTART" "Lcom/example/nightlatch/nightlatch/authorization/Refusal;" (.ref a_NOT_UNLOCKED_SINCE_RESTART) := Sta.start e_NOT_UNLOCKED_SINCE_RESTART (Or.inr ⟨hw _ (List.mem_of_getElem? (i := 55) rfl), hw _ (List.mem_of_getElem? (i := 71) rfl)⟩)
  obtain ⟨a_LOW_POWER, e_LOW_POWER⟩ := exa_v hn_5
  have S_LOW_POWER : Sta s s.heap "com/example/nightlatch/nightlatch/authorization/Refusal" "LOW_POWER" "Lcom/example/nightlatch/nightlatch/authorization/Refusal;" (.ref a_LOW_POWER) := Sta.start e_LOW_POWER (Or.inr ⟨hw _ (List.mem_of_getElem? (i := 55) rfl), hw _ (List.mem_of_getElem? (i := 73) rfl)⟩)
  obtain ⟨a_POLICY_DISALLOWED, e_POLICY_DISALLOWED⟩ := exa_v hn_6
  have S_POLICY_DISALLOWED : Sta s s.heap "com/example/nightlatch/nightlatch/authorization/Refusal" "POLICY_DISALLOWED" "Lcom/example/nightlatch/nightlatch/authorization/Refusal;" (.ref a_POLICY_DISALLOWED) := Sta.start e_POLICY_DISALLOWED (Or.inr ⟨hw _ (List.mem_of_getElem? (i := 55) rfl), hw _ (List.mem_of_getElem? (i := 75) rfl)⟩)
  obtain ⟨a_REGISTRATION_MISSING, e_REGISTRATION_MISSING⟩ := exa_v hn_7
  have S_REGISTRATION_MISSING : Sta s s.heap "com/example/nightlatch/nightlatch/authorization/Refusal" "REGISTRATION_MISSING" "Lcom/example/nightlatch/nightlatch/authorization/Refusal;" (.ref a_REGISTRATION_MISSING) := Sta.start e_REGISTRATION_MISSING (Or.inr ⟨hw _ (List.mem_of_getElem? (i := 55) rfl), hw _ (List.mem_of_getElem? (i := 77) rfl)⟩)
  obtain ⟨a_POLICY_INVALID, e_POLICY_INVALID⟩ := exa_v hn_8
  have S_POLICY_INVALID : Sta s s.heap "com/example/nightlatch/nightlatch/authorization/Refusal" "POLICY_INVALID" "Lcom/example/nightlatch/nightlatch/authorization/Refusal;" (.ref a_POLICY_INVALID) := Sta.start e_POLICY_INVALID (Or.inr ⟨hw _ (List.mem_of_getElem? (i := 55) rfl), hw _ (List.mem_of_getElem? (i := 79) rfl)⟩)
  obtain ⟨a_REGISTRATION_EXPIRED, e_REGISTRATION_EXPIRED⟩ := exa_v hn_9
  have S_REGISTRATION_EXPIRED : Sta s s.heap "com/example/nightlatch/nightlatch/authorization/Refusal" "REGISTRATION_EXPIRED" "Lcom/example/nightlatch/nightlatch/authorization/Refusal;" (.ref a_REGISTRATION_EXPIRED) := Sta.start e_REGISTRATION_EXPIRED (Or.inr ⟨hw _ (List.mem_of_getElem? (i := 55) rfl), hw _ (List.mem_of_getElem? (i := 81) rfl)⟩)
  obtain ⟨a_CLOCK_INCONSISTENT, e_CLOCK_INCONSISTENT⟩ := exa_v hn_10
  have S_CLOCK_INCONSISTENT : Sta s s.heap "com/example/nightlatch/nightlatch/authorization/Refusal" "CLOCK_INCONSISTENT" "Lcom/example/nightlatch/nightlatch/authorization/Refusal;" (.ref a_CLOCK_INCONSISTENT) := Sta.start e_CLOCK_INCONSISTENT (Or.inr ⟨hw _ (List.mem_of_getElem? (i := 55) rfl), hw _ (List.mem_of_getElem? (i := 83) rfl)⟩)
  have hEW : EW s #[.int p0, .int p1] ELc := EW.cons (hw _ (List.mem_of_getElem? (i := 15) rfl)) (by decide) (EW.nil)
  have hCH : CHv s ELc s.vm s.heap := CHv.start hEW (fun q hq => hcalls.1 q hq) (hsets _ (List.mem_of_getElem? (i := 2) rfl)) (hw _ (List.mem_of_getElem? (i := 16) rfl)) (hw _ (List.mem_of_getElem? (i := 3) rfl))
  have hB : Base s #[.int p0, .int p1] := ⟨hw, hEW, ⟨cz, S_cs, c_cs⟩, ⟨au, S_au, E_au, F_au⟩, ⟨_, S_POLICY_INVALID⟩, ⟨_, S_POLICY_DISALLOWED⟩, ⟨_, S_REGISTRATION_MISSING⟩, ⟨_, S_REGISTRATION_INVALID⟩, ⟨_, S_REGISTRATION_EXPIRED⟩, ⟨_, S_NOT_UNLOCKED_SINCE_RESTART⟩, ⟨_, S_CLOCK_INCONSISTENT⟩, ⟨_, S_AUTHENTICATION_EXPIRED⟩, ⟨_, S_LOW_POWER⟩, trivial⟩
  obtain ⟨n, o, h1, h2, h3, v, L, sf', rfl, rfl, N, -, -, -, hq⟩ := c_law (l := l) (n0 := s.heap.size) hB tables_1 p0 p1 (h := s.heap) p e ha hc hk s m _ below hf ((Spec.applies_iff_loose hf).mp happ).1 ⟨rfl, State.Warmed39.refl s, rfl, hCH, OwnL.nil, Old.start s⟩ trivial
  refine ⟨n, _, h1, h2, h3, hpost _ _ _ _ _ _ ⟨Cond.after_iff.mpr rfl, Cond.after_iff.mpr (eq_i res_at (Term.int_eval (1)) rfl), trivial⟩ ⟨hq.1, hq.2.1, hq.2.2.1, (hq.2.2.2.sift fun y hy => Or.inr (N y hy)).mono (by decide) (by decide)⟩⟩
theorem main_1_1 : Claimed_1_1 := comes_1 fun _ _ _ _ _ _ h hF => ⟨h.1, hF⟩
theorem main_1_2 : Claimed_1_2 := comes_1 fun _ _ _ _ _ _ h hF => ⟨h.2.1, hF⟩
end Jvm.Pilot.@@N@@
namespace Jvm.Pilot.@@N@@
open Jvm Jvm.ClassFile Sem Op Lib Jvm.Free Jvm.Stand Jvm.Pilot.@@N@@.Jvm.D
/-! MADE BY PROGRAM (witnessworld.py) out of the Statement's table words and the real class files: 24 classes; the members and pool entries that the words name. The judged class is class 1, her method 2. -/
namespace start1
open Jvm.ClassFile
def u (s : String) : CpInfo := .utf8 (stringToUtf16 s)
/-- a pool by its gaps: so many unusable entries, then the entry; so many at the end -/
def gap : Nat → List CpInfo → List CpInfo
  | 0, r => r
  | n + 1, r => .unusable :: gap n r
def poolList (es : List (Nat × CpInfo)) (last : Nat) : List CpInfo := es.foldr (fun e r => gap e.1 (e.2 :: r)) (gap last [])
def pool (es : List (Nat × CpInfo)) (last : Nat) : Array CpInfo := ⟨poolList es last⟩
def fileOf (pool : Array CpInfo) (this : Nat) (attrs : Array Attribute := #[]) (ms : Array MethodInfo := #[]) (fl : Nat := 33) (sup : Nat := 0) (ifs : Array Nat := #[]) (fds : Array FieldInfo := #[]) : ClassFile where
  minorVersion := 0
  majorVersion := 65
  constantPool := pool
  accessFlags := fl
  thisClass := this
  superClass := sup
  interfaces := ifs
  fields := fds
  methods := ms
  attributes := attrs
def plain (name : String) (sup : Option ClassId) : Class where
  name := name
  kind := .ordinary
  loader := none
  accessFlags := 33
  super := sup
  interfaces := #[]
  cf := none
  fields := #[]
  methods := #[]
  instanceTypes := #[]
  staticTypes := #[]
  resolved := #[]
  callSites := []
  init := .initialized
  statics := none
  mirror := none

def pool0 : Array CpInfo := pool [(5, u "<init>"), (0, u "()V"), (1, .class_ 10), (1, u "java/lang/Object")] 113

def k0c0 : Code := { maxStack := 0, maxLocals := 1, code := object_method_1_code, exceptionTable := #[], attributes := #[] }
def k0m0 : Method := { name := "<init>", desc := "()V", sig := { parameters := [], returnType := none }, accessFlags := 1, code := some k0c0 }
/-- java/lang/Object -/
def k0 : Class := { plain "java/lang/Object" none with
  accessFlags := 33
  interfaces := #[]
  cf := some (fileOf pool0 8 #[] #[{ accessFlags := 1, nameIndex := 5, descriptorIndex := 6, attributes := #[] }] 33 0 #[] #[])
  fields := #[]
  methods := #[k0m0]
  instanceTypes := #[]
  staticTypes := #[]
  resolved := Array.replicate 124 none
  statics := none }

def pool1 : Array CpInfo := pool [(2, .class_ 4), (1, u "java/lang/Object"), (0, u "<init>"), (0, u "()V"), (0, .fieldref 8 9), (0, .class_ 10), (0, .nameAndType 11 12), (0, u "com/example/nightlatch/nightlatch/authorization/Refusal"), (0, u "POLICY_INVALID"), (0, u "Lcom/example/nightlatch/nightlatch/authorization/Refusal;"), (0, .fieldref 8 14), (0, .nameAndType 15 12), (0, u "POLICY_DISALLOWED"), (0, .fieldref 8 17), (0, .nameAndType 18 12), (0, u "REGISTRATION_MISSING"), (0, .fieldref 8 20), (0, .nameAndType 21 12), (0, u "REGISTRATION_INVALID"), (0, .fieldref 8 23), (0, .nameAndType 24 12), (0, u "REGISTRATION_EXPIRED"), (0, .fieldref 8 26), (0, .nameAndType 27 12), (0, u "NOT_UNLOCKED_SINCE_RESTART"), (0, .fieldref 8 29), (0, .nameAndType 30 12), (0, u "CLOCK_INCONSISTENT"), (0, .fieldref 8 32), (0, .nameAndType 33 12), (0, u "AUTHENTICATION_EXPIRED"), (0, .fieldref 8 35), (0, .nameAndType 36 12), (0, u "LOW_POWER"), (0, .integer 2147483647), (0, .class_ 39), (0, u "java/lang/String"), (0, .methodref 38 41), (0, .nameAndType 5 42), (0, u "([C)V"), (0, .class_ 44), (0, u "com/example/nightlatch/nightlatch/authorization/BackgroundDecision"), (0, .methodref 46 47), (0, .class_ 48), (0, .nameAndType 49 50), (0, u "com/example/nightlatch/nightlatch/authorization/BackgroundDecisionAuthorizedPinLaw"), (0, u "pick"), (0, u "(I)Lcom/example/nightlatch/nightlatch/authorization/Refusal;"), (0, .methodref 43 52), (0, .nameAndType 5 53), (0, u "(Lcom/example/nightlatch/nightlatch/authorization/Refusal;Ljava/lang/String;)V"), (0, .methodref 43 55), (0, .nameAndType 56 57), (0, u "authorized"), (0, u "()Z"), (0, .fieldref 43 59), (0, .nameAndType 60 61), (0, u "AUTHORIZED"), (0, u "Lcom/example/nightlatch/nightlatch/authorization/BackgroundDecision;"), (3, u "law"), (0, u "(II)Z")] 4

def k1m0 : Method := { name := "<init>", desc := "()V", sig := { parameters := [], returnType := none }, accessFlags := 1, code := none }
def k1c1 : Code := { maxStack := 2, maxLocals := 1, code := method_2_code, exceptionTable := #[], attributes := #[] }
def k1m1 : Method := { name := "pick", desc := "(I)Lcom/example/nightlatch/nightlatch/authorization/Refusal;", sig := { parameters := [.int], returnType := some (.object "com/example/nightlatch/nightlatch/authorization/Refusal") }, accessFlags := 10, code := some k1c1 }
def k1c2 : Code := { maxStack := 4, maxLocals := 12, code := code, exceptionTable := #[], attributes := #[] }
def k1m2 : Method := { name := "law", desc := "(II)Z", sig := { parameters := [.int, .int], returnType := some .boolean }, accessFlags := 9, code := some k1c2 }
/-- com/example/nightlatch/nightlatch/authorization/BackgroundDecisionAuthorizedPinLaw -/
def k1 : Class := { plain "com/example/nightlatch/nightlatch/authorization/BackgroundDecisionAuthorizedPinLaw" (some 0) with
  accessFlags := 49
  interfaces := #[]
  cf := some (fileOf pool1 46 #[] #[{ accessFlags := 1, nameIndex := 5, descriptorIndex := 6, attributes := #[] }, { accessFlags := 10, nameIndex := 49, descriptorIndex := 50, attributes := #[] }, { accessFlags := 9, nameIndex := 65, descriptorIndex := 66, attributes := #[] }] 49 2 #[] #[])
  fields := #[]
  methods := #[k1m0, k1m1, k1m2]
  instanceTypes := #[]
  staticTypes := #[]
  resolved := Array.replicate 71 none
  statics := none }

def pool2 : Array CpInfo := pool [(1, .class_ 2), (0, u "java/io/Serializable"), (0, .class_ 4), (0, u "java/lang/Object")] 2

/-- java/io/Serializable -/
def k2 : Class := { plain "java/io/Serializable" (some 0) with
  accessFlags := 1537
  interfaces := #[]
  cf := some (fileOf pool2 1 #[] #[] 1537 3 #[] #[])
  fields := #[]
  methods := #[]
  instanceTypes := #[]
  staticTypes := #[]
  resolved := Array.replicate 7 none
  statics := none }

def pool3 : Array CpInfo := pool [(1, .class_ 2), (0, u "java/lang/Comparable"), (0, .class_ 4), (0, u "java/lang/Object")] 7

/-- java/lang/Comparable -/
def k3 : Class := { plain "java/lang/Comparable" (some 0) with
  accessFlags := 1537
  interfaces := #[]
  cf := some (fileOf pool3 1 #[] #[] 1537 3 #[] #[])
  fields := #[]
  methods := #[]
  instanceTypes := #[]
  staticTypes := #[]
  resolved := Array.replicate 12 none
  statics := none }

def pool4 : Array CpInfo := pool [(2, .class_ 4), (1, u "java/lang/CharSequence"), (42, .class_ 48), (0, u "java/lang/CharSequence$1CodePointIterator"), (10, .class_ 60), (0, u "java/lang/CharSequence$1CharIterator"), (5, .class_ 67), (0, u "java/lang/Object")] 63

/-- java/lang/CharSequence -/
def k4 : Class := { plain "java/lang/CharSequence" (some 0) with
  accessFlags := 1537
  interfaces := #[]
  cf := some (fileOf pool4 2 #[.nestMembers #[47, 59]] #[] 1537 66 #[] #[])
  fields := #[]
  methods := #[]
  instanceTypes := #[]
  staticTypes := #[]
  resolved := Array.replicate 131 none
  statics := none }

def pool5 : Array CpInfo := pool [(1, .class_ 2), (0, u "java/lang/constant/Constable"), (0, .class_ 4), (0, u "java/lang/Object")] 6

/-- java/lang/constant/Constable -/
def k5 : Class := { plain "java/lang/constant/Constable" (some 0) with
  accessFlags := 1537
  interfaces := #[]
  cf := some (fileOf pool5 1 #[] #[] 1537 3 #[] #[])
  fields := #[]
  methods := #[]
  instanceTypes := #[]
  staticTypes := #[]
  resolved := Array.replicate 11 none
  statics := none }

def pool6 : Array CpInfo := pool [(1, .class_ 2), (0, u "java/lang/constant/ConstantDesc"), (0, .class_ 4), (0, u "java/lang/Object")] 32

/-- java/lang/constant/ConstantDesc -/
def k6 : Class := { plain "java/lang/constant/ConstantDesc" (some 0) with
  accessFlags := 1537
  interfaces := #[]
  cf := some (fileOf pool6 1 #[] #[] 1537 3 #[] #[])
  fields := #[]
  methods := #[]
  instanceTypes := #[]
  staticTypes := #[]
  resolved := Array.replicate 37 none
  statics := none }

def pool7 : Array CpInfo := pool [(1, .methodref 2 3), (0, .class_ 4), (0, .nameAndType 5 6), (0, u "java/lang/Object"), (0, u "<init>"), (0, u "()V"), (0, .string 8), (0, u ""), (0, .fieldref 10 11), (0, .class_ 12), (0, .nameAndType 13 14), (0, u "java/lang/String"), (0, u "value"), (0, u "[B"), (0, .fieldref 10 16), (0, .nameAndType 17 18), (0, u "coder"), (0, u "B"), (2, u "hash"), (0, u "I"), (2, u "hashIsZero"), (0, u "Z"), (0, .methodref 10 28), (0, .nameAndType 5 29), (0, u "([CIILjava/lang/Void;)V"), (8, .fieldref 10 39), (0, .nameAndType 40 26), (0, u "COMPACT_STRINGS"), (1, .class_ 44), (1, u "java/lang/StringUTF16"), (0, u "compress"), (1, .methodref 42 48), (0, .nameAndType 49 50), (0, u "coderFromArrayLen"), (0, u "([BI)B"), (126, .methodref 42 178), (0, .nameAndType 45 179), (0, u "([CII)[B"), (395, .class_ 576), (0, u "java/lang/CharSequence"), (22, u "CASE_INSENSITIVE_ORDER"), (0, u "Ljava/util/Comparator;"), (409, u "([C)V"), (90, u "serialPersistentFields"), (0, u "[Ljava/io/ObjectStreamField;"), (0, .class_ 1104), (0, u "java/lang/String$CaseInsensitiveComparator"), (1, .class_ 1107), (0, u "java/io/Serializable"), (0, .class_ 1109), (0, u "java/lang/Comparable"), (0, .class_ 1111), (0, u "java/lang/constant/Constable"), (0, .class_ 1113), (0, u "java/lang/constant/ConstantDesc"), (2, u "serialVersionUID"), (0, u "J"), (3, u "REPL"), (0, u "C"), (2, u "LATIN1"), (1, u "UTF16")] 323

def k7m0 : Method := { name := "<init>", desc := "()V", sig := { parameters := [], returnType := none }, accessFlags := 1, code := none }
def k7c1 : Code := { maxStack := 5, maxLocals := 2, code := jdk_42_method_3_code, exceptionTable := #[], attributes := #[] }
def k7m1 : Method := { name := "<init>", desc := "([C)V", sig := { parameters := [(.array .char)], returnType := none }, accessFlags := 1, code := some k7c1 }
def k7c2 : Code := { maxStack := 4, maxLocals := 6, code := jdk_42_method_149_code, exceptionTable := #[], attributes := #[] }
def k7m2 : Method := { name := "<init>", desc := "([CIILjava/lang/Void;)V", sig := { parameters := [(.array .char), .int, .int, (.object "java/lang/Void")], returnType := none }, accessFlags := 2, code := some k7c2 }
/-- java/lang/String -/
def k7 : Class := { plain "java/lang/String" (some 0) with
  accessFlags := 49
  interfaces := #[2, 3, 4, 5, 6]
  cf := some (fileOf pool7 10 #[.nestMembers #[1103]] #[{ accessFlags := 1, nameIndex := 5, descriptorIndex := 6, attributes := #[] }, { accessFlags := 1, nameIndex := 5, descriptorIndex := 1010, attributes := #[] }, { accessFlags := 2, nameIndex := 5, descriptorIndex := 29, attributes := #[] }] 49 2 #[1106, 1108, 575, 1110, 1112] #[{ accessFlags := 18, nameIndex := 13, descriptorIndex := 14, attributes := #[] }, { accessFlags := 18, nameIndex := 17, descriptorIndex := 18, attributes := #[] }, { accessFlags := 2, nameIndex := 21, descriptorIndex := 22, attributes := #[] }, { accessFlags := 2, nameIndex := 25, descriptorIndex := 26, attributes := #[] }, { accessFlags := 26, nameIndex := 1116, descriptorIndex := 1117, attributes := #[] }, { accessFlags := 24, nameIndex := 40, descriptorIndex := 26, attributes := #[] }, { accessFlags := 26, nameIndex := 1101, descriptorIndex := 1102, attributes := #[] }, { accessFlags := 26, nameIndex := 1121, descriptorIndex := 1122, attributes := #[] }, { accessFlags := 25, nameIndex := 599, descriptorIndex := 600, attributes := #[] }, { accessFlags := 24, nameIndex := 1125, descriptorIndex := 18, attributes := #[] }, { accessFlags := 24, nameIndex := 1127, descriptorIndex := 18, attributes := #[] }])
  fields := #[{ name := "value", type := (.array .byte), accessFlags := 18, slot := 0, constantValue := 0 }, { name := "coder", type := .byte, accessFlags := 18, slot := 1, constantValue := 0 }, { name := "hash", type := .int, accessFlags := 2, slot := 2, constantValue := 0 }, { name := "hashIsZero", type := .boolean, accessFlags := 2, slot := 3, constantValue := 0 }, { name := "serialVersionUID", type := .long, accessFlags := 26, slot := 0, constantValue := 0 }, { name := "COMPACT_STRINGS", type := .boolean, accessFlags := 24, slot := 1, constantValue := 0 }, { name := "serialPersistentFields", type := (.array (.object "java/io/ObjectStreamField")), accessFlags := 26, slot := 2, constantValue := 0 }, { name := "REPL", type := .char, accessFlags := 26, slot := 3, constantValue := 0 }, { name := "CASE_INSENSITIVE_ORDER", type := (.object "java/util/Comparator"), accessFlags := 25, slot := 4, constantValue := 0 }, { name := "LATIN1", type := .byte, accessFlags := 24, slot := 5, constantValue := 0 }, { name := "UTF16", type := .byte, accessFlags := 24, slot := 6, constantValue := 0 }]
  methods := #[k7m0, k7m1, k7m2]
  instanceTypes := #[(.array .byte), .byte, .int, .boolean]
  staticTypes := #[.long, .boolean, (.array (.object "java/io/ObjectStreamField")), .char, (.object "java/util/Comparator"), .byte, .byte]
  resolved := Array.replicate 1451 none
  statics := some 0 }

def pool8 : Array CpInfo := pool [(1, .methodref 2 3), (0, .class_ 4), (0, .nameAndType 5 6), (0, u "java/lang/Object"), (0, u "<init>"), (0, u "()V"), (0, .class_ 8), (0, u "java/lang/Record")] 13

def k8c0 : Code := { maxStack := 1, maxLocals := 1, code := jdk_30_method_1_code, exceptionTable := #[], attributes := #[] }
def k8m0 : Method := { name := "<init>", desc := "()V", sig := { parameters := [], returnType := none }, accessFlags := 4, code := some k8c0 }
/-- java/lang/Record -/
def k8 : Class := { plain "java/lang/Record" (some 0) with
  accessFlags := 1057
  interfaces := #[]
  cf := some (fileOf pool8 7 #[] #[{ accessFlags := 4, nameIndex := 5, descriptorIndex := 6, attributes := #[] }] 1057 2 #[] #[])
  fields := #[]
  methods := #[k8m0]
  instanceTypes := #[]
  staticTypes := #[]
  resolved := Array.replicate 22 none
  statics := none }

def pool9 : Array CpInfo := pool [(1, .methodref 2 3), (0, .class_ 4), (0, .nameAndType 5 6), (0, u "java/lang/Record"), (0, u "<init>"), (0, u "()V"), (0, .methodref 8 9), (0, .class_ 10), (0, .nameAndType 11 12), (0, u "java/util/Objects"), (0, u "requireNonNull"), (0, u "(Ljava/lang/Object;)Ljava/lang/Object;"), (0, .fieldref 14 15), (0, .class_ 16), (0, .nameAndType 17 18), (0, u "com/example/nightlatch/nightlatch/authorization/BackgroundDecision"), (0, u "refusal"), (0, u "Lcom/example/nightlatch/nightlatch/authorization/Refusal;"), (0, .fieldref 14 20), (0, .nameAndType 21 22), (0, u "reason"), (0, u "Ljava/lang/String;"), (16, u "(Lcom/example/nightlatch/nightlatch/authorization/Refusal;Ljava/lang/String;)V"), (2, u "AUTHORIZED"), (0, u "Lcom/example/nightlatch/nightlatch/authorization/BackgroundDecision;"), (3, u "authorized"), (0, u "()Z")] 27

def k9c0 : Code := { maxStack := 2, maxLocals := 3, code := prog_1_method_1_code, exceptionTable := #[], attributes := #[] }
def k9m0 : Method := { name := "<init>", desc := "(Lcom/example/nightlatch/nightlatch/authorization/Refusal;Ljava/lang/String;)V", sig := { parameters := [(.object "com/example/nightlatch/nightlatch/authorization/Refusal"), (.object "java/lang/String")], returnType := none }, accessFlags := 1, code := some k9c0 }
def k9c1 : Code := { maxStack := 1, maxLocals := 1, code := prog_1_method_2_code, exceptionTable := #[], attributes := #[] }
def k9m1 : Method := { name := "authorized", desc := "()Z", sig := { parameters := [], returnType := some .boolean }, accessFlags := 1, code := some k9c1 }
/-- com/example/nightlatch/nightlatch/authorization/BackgroundDecision -/
def k9 : Class := { plain "com/example/nightlatch/nightlatch/authorization/BackgroundDecision" (some 8) with
  accessFlags := 49
  interfaces := #[]
  cf := some (fileOf pool9 14 #[] #[{ accessFlags := 1, nameIndex := 5, descriptorIndex := 39, attributes := #[] }, { accessFlags := 1, nameIndex := 47, descriptorIndex := 48, attributes := #[] }] 49 2 #[] #[{ accessFlags := 18, nameIndex := 17, descriptorIndex := 18, attributes := #[] }, { accessFlags := 18, nameIndex := 21, descriptorIndex := 22, attributes := #[] }, { accessFlags := 25, nameIndex := 42, descriptorIndex := 43, attributes := #[] }])
  fields := #[{ name := "refusal", type := (.object "com/example/nightlatch/nightlatch/authorization/Refusal"), accessFlags := 18, slot := 0, constantValue := 0 }, { name := "reason", type := (.object "java/lang/String"), accessFlags := 18, slot := 1, constantValue := 0 }, { name := "AUTHORIZED", type := (.object "com/example/nightlatch/nightlatch/authorization/BackgroundDecision"), accessFlags := 25, slot := 0, constantValue := 0 }]
  methods := #[k9m0, k9m1]
  instanceTypes := #[(.object "com/example/nightlatch/nightlatch/authorization/Refusal"), (.object "java/lang/String")]
  staticTypes := #[(.object "com/example/nightlatch/nightlatch/authorization/BackgroundDecision")]
  resolved := Array.replicate 76 none
  statics := some 1 }

def pool10 : Array CpInfo := pool [(2, .class_ 4), (1, u "java/lang/Object"), (0, u "<init>"), (0, u "()V"), (35, .class_ 44), (1, u "java/util/Objects"), (0, u "requireNonNull"), (0, u "(Ljava/lang/Object;)Ljava/lang/Object;")] 137

def k10m0 : Method := { name := "<init>", desc := "()V", sig := { parameters := [], returnType := none }, accessFlags := 2, code := none }
def k10c1 : Code := { maxStack := 2, maxLocals := 1, code := jdk_31_method_10_code, exceptionTable := #[], attributes := #[] }
def k10m1 : Method := { name := "requireNonNull", desc := "(Ljava/lang/Object;)Ljava/lang/Object;", sig := { parameters := [(.object "java/lang/Object")], returnType := some (.object "java/lang/Object") }, accessFlags := 9, code := some k10c1 }
/-- java/util/Objects -/
def k10 : Class := { plain "java/util/Objects" (some 0) with
  accessFlags := 49
  interfaces := #[]
  cf := some (fileOf pool10 42 #[] #[{ accessFlags := 2, nameIndex := 5, descriptorIndex := 6, attributes := #[] }, { accessFlags := 9, nameIndex := 45, descriptorIndex := 46, attributes := #[] }] 49 2 #[] #[])
  fields := #[]
  methods := #[k10m0, k10m1]
  instanceTypes := #[]
  staticTypes := #[]
  resolved := Array.replicate 184 none
  statics := none }

def pool11 : Array CpInfo := pool [(2, .class_ 4), (1, u "java/lang/Enum"), (0, u "name"), (0, u "Ljava/lang/String;"), (2, u "ordinal"), (0, u "I"), (1, .class_ 14), (1, u "java/lang/Object"), (4, u "hash"), (86, .class_ 108), (1, u "java/lang/Enum$EnumDesc"), (2, .class_ 112), (0, u "java/lang/constant/Constable"), (0, .class_ 114), (0, u "java/lang/Comparable"), (0, .class_ 116), (0, u "java/io/Serializable")] 87

/-- java/lang/Enum -/
def k11 : Class := { plain "java/lang/Enum" (some 0) with
  accessFlags := 1057
  interfaces := #[5, 3, 2]
  cf := some (fileOf pool11 2 #[.nestMembers #[106]] #[] 1057 12 #[111, 113, 115] #[{ accessFlags := 18, nameIndex := 5, descriptorIndex := 6, attributes := #[] }, { accessFlags := 18, nameIndex := 9, descriptorIndex := 10, attributes := #[] }, { accessFlags := 2, nameIndex := 19, descriptorIndex := 10, attributes := #[] }])
  fields := #[{ name := "name", type := (.object "java/lang/String"), accessFlags := 18, slot := 0, constantValue := 0 }, { name := "ordinal", type := .int, accessFlags := 18, slot := 1, constantValue := 0 }, { name := "hash", type := .int, accessFlags := 2, slot := 2, constantValue := 0 }]
  methods := #[]
  instanceTypes := #[(.object "java/lang/String"), .int, .int]
  staticTypes := #[]
  resolved := Array.replicate 204 none
  statics := none }

def pool12 : Array CpInfo := pool [(1, .class_ 2), (0, u "com/example/nightlatch/nightlatch/authorization/Refusal"), (2, u "POLICY_INVALID"), (0, u "Lcom/example/nightlatch/nightlatch/authorization/Refusal;"), (2, u "POLICY_DISALLOWED"), (2, u "REGISTRATION_MISSING"), (2, u "REGISTRATION_INVALID"), (2, u "REGISTRATION_EXPIRED"), (2, u "NOT_UNLOCKED_SINCE_RESTART"), (2, u "CLOCK_INCONSISTENT"), (2, u "AUTHENTICATION_EXPIRED"), (2, u "LOW_POWER"), (2, u "$VALUES"), (0, u "[Lcom/example/nightlatch/nightlatch/authorization/Refusal;"), (6, .class_ 43), (1, u "java/lang/Enum")] 36

/-- com/example/nightlatch/nightlatch/authorization/Refusal -/
def k12 : Class := { plain "com/example/nightlatch/nightlatch/authorization/Refusal" (some 11) with
  accessFlags := 16433
  interfaces := #[]
  cf := some (fileOf pool12 1 #[] #[] 16433 41 #[] #[{ accessFlags := 16409, nameIndex := 5, descriptorIndex := 6, attributes := #[] }, { accessFlags := 16409, nameIndex := 9, descriptorIndex := 6, attributes := #[] }, { accessFlags := 16409, nameIndex := 12, descriptorIndex := 6, attributes := #[] }, { accessFlags := 16409, nameIndex := 15, descriptorIndex := 6, attributes := #[] }, { accessFlags := 16409, nameIndex := 18, descriptorIndex := 6, attributes := #[] }, { accessFlags := 16409, nameIndex := 21, descriptorIndex := 6, attributes := #[] }, { accessFlags := 16409, nameIndex := 24, descriptorIndex := 6, attributes := #[] }, { accessFlags := 16409, nameIndex := 27, descriptorIndex := 6, attributes := #[] }, { accessFlags := 16409, nameIndex := 30, descriptorIndex := 6, attributes := #[] }, { accessFlags := 4122, nameIndex := 33, descriptorIndex := 34, attributes := #[] }])
  fields := #[{ name := "POLICY_INVALID", type := (.object "com/example/nightlatch/nightlatch/authorization/Refusal"), accessFlags := 16409, slot := 0, constantValue := 0 }, { name := "POLICY_DISALLOWED", type := (.object "com/example/nightlatch/nightlatch/authorization/Refusal"), accessFlags := 16409, slot := 1, constantValue := 0 }, { name := "REGISTRATION_MISSING", type := (.object "com/example/nightlatch/nightlatch/authorization/Refusal"), accessFlags := 16409, slot := 2, constantValue := 0 }, { name := "REGISTRATION_INVALID", type := (.object "com/example/nightlatch/nightlatch/authorization/Refusal"), accessFlags := 16409, slot := 3, constantValue := 0 }, { name := "REGISTRATION_EXPIRED", type := (.object "com/example/nightlatch/nightlatch/authorization/Refusal"), accessFlags := 16409, slot := 4, constantValue := 0 }, { name := "NOT_UNLOCKED_SINCE_RESTART", type := (.object "com/example/nightlatch/nightlatch/authorization/Refusal"), accessFlags := 16409, slot := 5, constantValue := 0 }, { name := "CLOCK_INCONSISTENT", type := (.object "com/example/nightlatch/nightlatch/authorization/Refusal"), accessFlags := 16409, slot := 6, constantValue := 0 }, { name := "AUTHENTICATION_EXPIRED", type := (.object "com/example/nightlatch/nightlatch/authorization/Refusal"), accessFlags := 16409, slot := 7, constantValue := 0 }, { name := "LOW_POWER", type := (.object "com/example/nightlatch/nightlatch/authorization/Refusal"), accessFlags := 16409, slot := 8, constantValue := 0 }, { name := "$VALUES", type := (.array (.object "com/example/nightlatch/nightlatch/authorization/Refusal")), accessFlags := 4122, slot := 9, constantValue := 0 }]
  methods := #[]
  instanceTypes := #[(.object "java/lang/String"), .int, .int]
  staticTypes := #[(.object "com/example/nightlatch/nightlatch/authorization/Refusal"), (.object "com/example/nightlatch/nightlatch/authorization/Refusal"), (.object "com/example/nightlatch/nightlatch/authorization/Refusal"), (.object "com/example/nightlatch/nightlatch/authorization/Refusal"), (.object "com/example/nightlatch/nightlatch/authorization/Refusal"), (.object "com/example/nightlatch/nightlatch/authorization/Refusal"), (.object "com/example/nightlatch/nightlatch/authorization/Refusal"), (.object "com/example/nightlatch/nightlatch/authorization/Refusal"), (.object "com/example/nightlatch/nightlatch/authorization/Refusal"), (.array (.object "com/example/nightlatch/nightlatch/authorization/Refusal"))]
  resolved := Array.replicate 80 none
  statics := some 2 }

def pool13 : Array CpInfo := pool [(6, .class_ 8), (1, u "java/lang/Object"), (0, u "<init>"), (0, u "()V"), (1, .class_ 14), (1, u "java/lang/StringUTF16"), (31, u "$assertionsDisabled"), (0, u "Z"), (13, u "HI_BYTE_SHIFT"), (0, u "I"), (2, u "LO_BYTE_SHIFT"), (49, .methodref 12 116), (0, .nameAndType 117 118), (0, u "compress"), (0, u "([CI[BII)I"), (3, u "([CII)[B"), (138, u "coderFromArrayLen"), (0, u "([BI)B"), (106, .class_ 371), (1, u "java/lang/StringUTF16$LinesSpliterator"), (58, u "MAX_LENGTH"), (196, .class_ 628), (0, u "java/lang/StringUTF16$CodePointsSpliterator"), (0, .class_ 630), (0, u "java/lang/StringUTF16$CharsSpliterator")] 4

def k13m0 : Method := { name := "<init>", desc := "()V", sig := { parameters := [], returnType := none }, accessFlags := 0, code := none }
def k13c1 : Code := { maxStack := 2, maxLocals := 2, code := jdk_52_method_15_code, exceptionTable := #[], attributes := #[] }
def k13m1 : Method := { name := "coderFromArrayLen", desc := "([BI)B", sig := { parameters := [(.array .byte), .int], returnType := some .byte }, accessFlags := 8, code := some k13c1 }
def k13c2 : Code := { maxStack := 5, maxLocals := 6, code := jdk_52_method_16_code, exceptionTable := #[], attributes := #[] }
def k13m2 : Method := { name := "compress", desc := "([CII)[B", sig := { parameters := [(.array .char), .int, .int], returnType := some (.array .byte) }, accessFlags := 9, code := some k13c2 }
def k13c3 : Code := { maxStack := 3, maxLocals := 7, code := jdk_52_method_21_code, exceptionTable := #[], attributes := #[] }
def k13m3 : Method := { name := "compress", desc := "([CI[BII)I", sig := { parameters := [(.array .char), .int, (.array .byte), .int, .int], returnType := some .int }, accessFlags := 9, code := some k13c3 }
/-- java/lang/StringUTF16 -/
def k13 : Class := { plain "java/lang/StringUTF16" (some 0) with
  accessFlags := 48
  interfaces := #[]
  cf := some (fileOf pool13 12 #[.nestMembers #[627, 629, 369]] #[{ accessFlags := 0, nameIndex := 9, descriptorIndex := 10, attributes := #[] }, { accessFlags := 8, nameIndex := 261, descriptorIndex := 262, attributes := #[] }, { accessFlags := 9, nameIndex := 117, descriptorIndex := 122, attributes := #[] }, { accessFlags := 9, nameIndex := 117, descriptorIndex := 118, attributes := #[] }] 48 6 #[] #[{ accessFlags := 26, nameIndex := 61, descriptorIndex := 62, attributes := #[] }, { accessFlags := 26, nameIndex := 65, descriptorIndex := 62, attributes := #[] }, { accessFlags := 24, nameIndex := 430, descriptorIndex := 62, attributes := #[] }, { accessFlags := 4120, nameIndex := 46, descriptorIndex := 47, attributes := #[] }])
  fields := #[{ name := "HI_BYTE_SHIFT", type := .int, accessFlags := 26, slot := 0, constantValue := 0 }, { name := "LO_BYTE_SHIFT", type := .int, accessFlags := 26, slot := 1, constantValue := 0 }, { name := "MAX_LENGTH", type := .int, accessFlags := 24, slot := 2, constantValue := 0 }, { name := "$assertionsDisabled", type := .boolean, accessFlags := 4120, slot := 3, constantValue := 0 }]
  methods := #[k13m0, k13m1, k13m2, k13m3]
  instanceTypes := #[]
  staticTypes := #[.int, .int, .int, .boolean]
  resolved := Array.replicate 635 none
  statics := none }

def pool14 : Array CpInfo := pool [(4, .class_ 6), (1, u "java/lang/Object"), (0, u "<init>"), (0, u "()V"), (5, .class_ 16), (1, u "java/lang/StringLatin1"), (104, u "$assertionsDisabled"), (0, u "Z"), (98, .class_ 223), (1, u "java/lang/StringLatin1$LinesSpliterator"), (166, .class_ 391), (0, u "java/lang/StringLatin1$CharsSpliterator")] 3

def k14m0 : Method := { name := "<init>", desc := "()V", sig := { parameters := [], returnType := none }, accessFlags := 0, code := none }
/-- java/lang/StringLatin1 -/
def k14 : Class := { plain "java/lang/StringLatin1" (some 0) with
  accessFlags := 48
  interfaces := #[]
  cf := some (fileOf pool14 14 #[.nestMembers #[390, 221]] #[{ accessFlags := 0, nameIndex := 7, descriptorIndex := 8, attributes := #[] }] 48 4 #[] #[{ accessFlags := 4120, nameIndex := 121, descriptorIndex := 122, attributes := #[] }])
  fields := #[{ name := "$assertionsDisabled", type := .boolean, accessFlags := 4120, slot := 0, constantValue := 0 }]
  methods := #[k14m0]
  instanceTypes := #[]
  staticTypes := #[.boolean]
  resolved := Array.replicate 395 none
  statics := none }

def pool15 : Array CpInfo := pool [(2, .class_ 4), (1, u "java/lang/Object"), (0, u "<init>"), (0, u "()V"), (17, .class_ 26), (1, u "jdk/internal/util/Preconditions"), (28, .class_ 56), (0, u "jdk/internal/util/Preconditions$4"), (57, .class_ 115), (0, u "jdk/internal/util/Preconditions$1"), (7, u "SIOOBE_FORMATTER"), (0, u "Ljava/util/function/BiFunction;"), (0, .class_ 126), (0, u "jdk/internal/util/Preconditions$2"), (3, u "AIOOBE_FORMATTER"), (0, .class_ 132), (0, u "jdk/internal/util/Preconditions$3"), (3, u "IOOBE_FORMATTER")] 57

def k15m0 : Method := { name := "<init>", desc := "()V", sig := { parameters := [], returnType := none }, accessFlags := 1, code := none }
/-- jdk/internal/util/Preconditions -/
def k15 : Class := { plain "jdk/internal/util/Preconditions" (some 0) with
  accessFlags := 33
  interfaces := #[]
  cf := some (fileOf pool15 24 #[.nestMembers #[55, 131, 125, 114]] #[{ accessFlags := 1, nameIndex := 5, descriptorIndex := 6, attributes := #[] }] 33 2 #[] #[{ accessFlags := 25, nameIndex := 123, descriptorIndex := 124, attributes := #[] }, { accessFlags := 25, nameIndex := 130, descriptorIndex := 124, attributes := #[] }, { accessFlags := 25, nameIndex := 136, descriptorIndex := 124, attributes := #[] }])
  fields := #[{ name := "SIOOBE_FORMATTER", type := (.object "java/util/function/BiFunction"), accessFlags := 25, slot := 0, constantValue := 0 }, { name := "AIOOBE_FORMATTER", type := (.object "java/util/function/BiFunction"), accessFlags := 25, slot := 1, constantValue := 0 }, { name := "IOOBE_FORMATTER", type := (.object "java/util/function/BiFunction"), accessFlags := 25, slot := 2, constantValue := 0 }]
  methods := #[k15m0]
  instanceTypes := #[]
  staticTypes := #[(.object "java/util/function/BiFunction"), (.object "java/util/function/BiFunction"), (.object "java/util/function/BiFunction")]
  resolved := Array.replicate 194 none
  statics := some 3 }

def pool16 : Array CpInfo := pool [(9, u "<init>"), (6, .class_ 18), (1, u "java/lang/Object"), (0, u "()V"), (1, .class_ 23), (1, u "jdk/internal/util/ArraysSupport"), (0, u "LOG2_ARRAY_LONG_INDEX_SCALE"), (0, u "I"), (2, u "U"), (0, u "Ljdk/internal/misc/Unsafe;"), (8, u "BIG_ENDIAN"), (0, u "Z"), (8, u "LOG2_BYTE_BIT_SIZE"), (4, u "LOG2_ARRAY_INT_INDEX_SCALE"), (54, u "JLA"), (0, u "Ljdk/internal/access/JavaLangAccess;"), (11, u "LOG2_ARRAY_BOOLEAN_INDEX_SCALE"), (9, u "LOG2_ARRAY_BYTE_INDEX_SCALE"), (5, u "LOG2_ARRAY_CHAR_INDEX_SCALE"), (5, u "LOG2_ARRAY_SHORT_INDEX_SCALE"), (18, u "LOG2_ARRAY_FLOAT_INDEX_SCALE"), (24, u "LOG2_ARRAY_DOUBLE_INDEX_SCALE"), (89, u "T_BOOLEAN"), (2, u "T_CHAR"), (1, u "T_FLOAT"), (1, u "T_DOUBLE"), (1, u "T_BYTE"), (1, u "T_SHORT"), (1, u "T_INT"), (1, u "T_LONG"), (1, u "SOFT_MAX_ARRAY_LENGTH")] 83

def k16m0 : Method := { name := "<init>", desc := "()V", sig := { parameters := [], returnType := none }, accessFlags := 2, code := none }
/-- jdk/internal/util/ArraysSupport -/
def k16 : Class := { plain "jdk/internal/util/ArraysSupport" (some 0) with
  accessFlags := 33
  interfaces := #[]
  cf := some (fileOf pool16 21 #[] #[{ accessFlags := 2, nameIndex := 9, descriptorIndex := 19, attributes := #[] }] 33 16 #[] #[{ accessFlags := 24, nameIndex := 28, descriptorIndex := 29, attributes := #[] }, { accessFlags := 26, nameIndex := 38, descriptorIndex := 39, attributes := #[] }, { accessFlags := 25, nameIndex := 121, descriptorIndex := 25, attributes := #[] }, { accessFlags := 25, nameIndex := 131, descriptorIndex := 25, attributes := #[] }, { accessFlags := 25, nameIndex := 137, descriptorIndex := 25, attributes := #[] }, { accessFlags := 25, nameIndex := 143, descriptorIndex := 25, attributes := #[] }, { accessFlags := 25, nameIndex := 53, descriptorIndex := 25, attributes := #[] }, { accessFlags := 25, nameIndex := 24, descriptorIndex := 25, attributes := #[] }, { accessFlags := 25, nameIndex := 162, descriptorIndex := 25, attributes := #[] }, { accessFlags := 25, nameIndex := 187, descriptorIndex := 25, attributes := #[] }, { accessFlags := 26, nameIndex := 48, descriptorIndex := 25, attributes := #[] }, { accessFlags := 25, nameIndex := 277, descriptorIndex := 25, attributes := #[] }, { accessFlags := 25, nameIndex := 280, descriptorIndex := 25, attributes := #[] }, { accessFlags := 25, nameIndex := 282, descriptorIndex := 25, attributes := #[] }, { accessFlags := 25, nameIndex := 284, descriptorIndex := 25, attributes := #[] }, { accessFlags := 25, nameIndex := 286, descriptorIndex := 25, attributes := #[] }, { accessFlags := 25, nameIndex := 288, descriptorIndex := 25, attributes := #[] }, { accessFlags := 25, nameIndex := 290, descriptorIndex := 25, attributes := #[] }, { accessFlags := 25, nameIndex := 292, descriptorIndex := 25, attributes := #[] }, { accessFlags := 26, nameIndex := 108, descriptorIndex := 109, attributes := #[] }, { accessFlags := 25, nameIndex := 294, descriptorIndex := 25, attributes := #[] }])
  fields := #[{ name := "U", type := (.object "jdk/internal/misc/Unsafe"), accessFlags := 24, slot := 0, constantValue := 0 }, { name := "BIG_ENDIAN", type := .boolean, accessFlags := 26, slot := 1, constantValue := 0 }, { name := "LOG2_ARRAY_BOOLEAN_INDEX_SCALE", type := .int, accessFlags := 25, slot := 2, constantValue := 0 }, { name := "LOG2_ARRAY_BYTE_INDEX_SCALE", type := .int, accessFlags := 25, slot := 3, constantValue := 0 }, { name := "LOG2_ARRAY_CHAR_INDEX_SCALE", type := .int, accessFlags := 25, slot := 4, constantValue := 0 }, { name := "LOG2_ARRAY_SHORT_INDEX_SCALE", type := .int, accessFlags := 25, slot := 5, constantValue := 0 }, { name := "LOG2_ARRAY_INT_INDEX_SCALE", type := .int, accessFlags := 25, slot := 6, constantValue := 0 }, { name := "LOG2_ARRAY_LONG_INDEX_SCALE", type := .int, accessFlags := 25, slot := 7, constantValue := 0 }, { name := "LOG2_ARRAY_FLOAT_INDEX_SCALE", type := .int, accessFlags := 25, slot := 8, constantValue := 0 }, { name := "LOG2_ARRAY_DOUBLE_INDEX_SCALE", type := .int, accessFlags := 25, slot := 9, constantValue := 0 }, { name := "LOG2_BYTE_BIT_SIZE", type := .int, accessFlags := 26, slot := 10, constantValue := 0 }, { name := "T_BOOLEAN", type := .int, accessFlags := 25, slot := 11, constantValue := 0 }, { name := "T_CHAR", type := .int, accessFlags := 25, slot := 12, constantValue := 0 }, { name := "T_FLOAT", type := .int, accessFlags := 25, slot := 13, constantValue := 0 }, { name := "T_DOUBLE", type := .int, accessFlags := 25, slot := 14, constantValue := 0 }, { name := "T_BYTE", type := .int, accessFlags := 25, slot := 15, constantValue := 0 }, { name := "T_SHORT", type := .int, accessFlags := 25, slot := 16, constantValue := 0 }, { name := "T_INT", type := .int, accessFlags := 25, slot := 17, constantValue := 0 }, { name := "T_LONG", type := .int, accessFlags := 25, slot := 18, constantValue := 0 }, { name := "JLA", type := (.object "jdk/internal/access/JavaLangAccess"), accessFlags := 26, slot := 19, constantValue := 0 }, { name := "SOFT_MAX_ARRAY_LENGTH", type := .int, accessFlags := 25, slot := 20, constantValue := 0 }]
  methods := #[k16m0]
  instanceTypes := #[]
  staticTypes := #[(.object "jdk/internal/misc/Unsafe"), .boolean, .int, .int, .int, .int, .int, .int, .int, .int, .int, .int, .int, .int, .int, .int, .int, .int, .int, (.object "jdk/internal/access/JavaLangAccess"), .int]
  resolved := Array.replicate 378 none
  statics := none }

def pool17 : Array CpInfo := pool [(1, u "java/lang/Cloneable"), (0, .class_ 1), (0, u "java/lang/Object"), (0, .class_ 3)] 3

/-- java/lang/Cloneable -/
def k17 : Class := { plain "java/lang/Cloneable" (some 0) with
  accessFlags := 1537
  interfaces := #[]
  cf := some (fileOf pool17 2 #[] #[] 1537 4 #[] #[])
  fields := #[]
  methods := #[]
  instanceTypes := #[]
  staticTypes := #[]
  resolved := Array.replicate 8 none
  statics := none }

/-- the primitive byte -/
def k18 : Class := { plain "byte" none with kind := .primitive 'B', accessFlags := 0x411 }
/-- [B -/
def k19 : Class := { plain "[B" (some 0) with kind := .array 18 .byte, interfaces := #[17, 2], accessFlags := 1041 }

/-- the primitive char -/
def k20 : Class := { plain "char" none with kind := .primitive 'C', accessFlags := 0x411 }
/-- [C -/
def k21 : Class := { plain "[C" (some 0) with kind := .array 20 .char, interfaces := #[17, 2], accessFlags := 1041 }

/-- the primitive int -/
def k22 : Class := { plain "int" none with kind := .primitive 'I', accessFlags := 0x411 }
/-- [I -/
def k23 : Class := { plain "[I" (some 0) with kind := .array 22 .int, interfaces := #[17, 2], accessFlags := 1041 }

def heap : Heap := #[{ cls := 7, slots := #[.long 0, .int 1, .null, .int 0, .null, .int 0, .int 0], vm := .statics 7 },
  { cls := 9, slots := #[.ref 4], vm := .statics 9 },
  { cls := 12, slots := #[.ref 5, .ref 5, .ref 5, .ref 5, .ref 5, .ref 5, .ref 5, .ref 5, .ref 5, .null], vm := .statics 12 },
  { cls := 15, slots := #[.null, .null, .null], vm := .statics 15 },
  { cls := 9, slots := #[.null, .null], vm := .none },
  { cls := 12, slots := #[.null, .int 0, .int 0], vm := .none }]
def classes : Array Class := #[k0, k1, k2, k3, k4, k5, k6, k7, k8, k9, k10, k11, k12, k13, k14, k15, k16, k17, k18, k19, k20, k21, k22, k23]
def interned : List (Array UInt16 × Addr) := []
def slotsUsed : Nat := 26
def theMethod : MethodId := ⟨1, 2⟩
def args0 : Array Value := #[.int 5, .int 7]
def aboutOver (below : List Frame) : State where
  vm := { classes := classes, interned := interned.toArray }
  heap := heap
  slotsUsed := slotsUsed
  threads := #[{ frames := .invoking theMethod args0 :: below }]
def below0 : List Frame := [.native { method := ⟨0, 0⟩, args := #[] }]
def about1 : State := aboutOver below0
def p0 : Program := .bare "" "" ""
def e0 : Env := launch0.env 0 0 0
theorem w_frames : about1.frames = Frame.invoking theMethod args0 :: below0 := rfl
set_option maxRecDepth 65536 in
theorem w_args : argsFit about1.vm theMethod args0 = true := by decide +kernel
set_option maxRecDepth 65536 in
theorem w_heap : heapFits about1 = true := by decide +kernel
set_option maxRecDepth 65536 in
theorem w_runnable : about1.curStatus? = some .runnable := by decide +kernel
set_option maxRecDepth 65536 in
theorem w_alone : about1.alone = true := by decide +kernel
set_option maxRecDepth 65536 in
theorem w_named : about1.methodNamed? x = some theMethod := by decide +kernel
set_option maxRecDepth 65536 in
theorem w_hears : about1.hears theMethod below0 = true := by decide +kernel
set_option maxRecDepth 65536 in
theorem w_ripe : about1.ripe theMethod args0 below0 = true := by decide +kernel
theorem w_running : about1.status = .running := rfl
set_option maxRecDepth 65536 in
theorem w_room : about1.hasRoom e0.platform room_1 = true :=
  launch0.hasRoom_least _ room_1 (by decide +kernel) (by decide +kernel) (by decide +kernel) (by decide +kernel) (by decide +kernel) (by decide +kernel)
theorem allAtoms_all (ts : List Jvm.Cond) (a : Array Jvm.Value) (st : Jvm.State) : (allAtoms ts).before a st = ts.all (fun c => c.before a st) := by
  induction ts with
  | nil => rfl
  | cons c t ih =>
    show (Jvm.Cond.and c (allAtoms t)).before a st = _
    rw [Jvm.Cond.before_and, ih, List.all_cons]
def words1 : List Jvm.Cond := Jvm.Cond.code x code maxLocals ret :: tables_1
/-- a 'code' word, met by the world's own term for the bytes: nothing is compared byte by byte -/
theorem code_word {y : MethodName} {bytes : ByteArray} {mx : Nat} {rt : Option FieldType} {a : Array Value} {s : State} {m : MethodId} {meth : Method} {c : Code} (h1 : s.methodNamed? y = some m) (h2 : s.vm.method? m = some meth) (h3 : meth.code = some c) (h4 : c.code = bytes)
    (h5 : (c.maxLocals == mx && c.exceptionTable.isEmpty && decide (c.maxStack ≤ mostOperands) && decide (meth.sig.returnType = rt) && !meth.locks && decide (parseMethodDescriptor y.desc = some meth.sig)) = true) : (Jvm.Cond.code y bytes mx rt).before a s = true := by
  simp only [Bool.and_eq_true, beq_iff_eq, Bool.not_eq_true', decide_eq_true_eq] at h5
  obtain ⟨⟨⟨⟨⟨g1, g2⟩, g3⟩, g4⟩, g5⟩, g6⟩ := h5
  simp [Cond.before, Cond.holds, Cond.value, h1, h2, h3, h4, g1, g2, g3, g4, g5, g6]
def isCode : Jvm.Cond → Bool
  | .code _ _ _ _ => true
  | _ => false
theorem all_split {L : List Jvm.Cond} {P : Jvm.Cond → Bool} (h1 : L.all (fun c => isCode c || P c) = true) (h2 : ∀ c ∈ L.filter isCode, P c = true) : L.all P = true := by
  refine List.all_eq_true.mpr fun c hc => ?_
  have h := List.all_eq_true.mp h1 c hc
  rcases Bool.eq_false_or_eq_true (isCode c) with hi | hi
  · exact h2 c (List.mem_filter.mpr ⟨hc, hi⟩)
  · simpa [hi] using h
set_option maxRecDepth 65536 in
theorem w_c0 : (Jvm.Cond.code x code maxLocals ret).before args0 about1 = true := code_word (m := ⟨1, 2⟩) (meth := k1m2) (c := k1c2) (by decide +kernel) rfl rfl rfl (by decide +kernel)
set_option maxRecDepth 65536 in
theorem w_c1 : (Jvm.Cond.code ({ cls := "java/lang/String", name := "<init>", desc := "([C)V" } : Jvm.MethodName) jdk_42_method_3_code (2 : Nat) (Option.none : Option Jvm.ClassFile.FieldType)).before args0 about1 = true := code_word (m := ⟨7, 1⟩) (meth := k7m1) (c := k7c1) (by decide +kernel) rfl rfl rfl (by decide +kernel)
set_option maxRecDepth 65536 in
theorem w_c2 : (Jvm.Cond.code ({ cls := "java/lang/String", name := "<init>", desc := "([CIILjava/lang/Void;)V" } : Jvm.MethodName) jdk_42_method_149_code (6 : Nat) (Option.none : Option Jvm.ClassFile.FieldType)).before args0 about1 = true := code_word (m := ⟨7, 2⟩) (meth := k7m2) (c := k7c2) (by decide +kernel) rfl rfl rfl (by decide +kernel)
set_option maxRecDepth 65536 in
theorem w_c3 : (Jvm.Cond.code ({ cls := "java/lang/Object", name := "<init>", desc := "()V" } : Jvm.MethodName) object_method_1_code (1 : Nat) (Option.none : Option Jvm.ClassFile.FieldType)).before args0 about1 = true := code_word (m := ⟨0, 0⟩) (meth := k0m0) (c := k0c0) (by decide +kernel) rfl rfl rfl (by decide +kernel)
set_option maxRecDepth 65536 in
theorem w_c4 : (Jvm.Cond.code ({ cls := "com/example/nightlatch/nightlatch/authorization/BackgroundDecisionAuthorizedPinLaw", name := "pick", desc := "(I)Lcom/example/nightlatch/nightlatch/authorization/Refusal;" } : Jvm.MethodName) method_2_code (1 : Nat) (Option.some (Jvm.ClassFile.FieldType.object "com/example/nightlatch/nightlatch/authorization/Refusal"))).before args0 about1 = true := code_word (m := ⟨1, 1⟩) (meth := k1m1) (c := k1c1) (by decide +kernel) rfl rfl rfl (by decide +kernel)
set_option maxRecDepth 65536 in
theorem w_c5 : (Jvm.Cond.code ({ cls := "com/example/nightlatch/nightlatch/authorization/BackgroundDecision", name := "<init>", desc := "(Lcom/example/nightlatch/nightlatch/authorization/Refusal;Ljava/lang/String;)V" } : Jvm.MethodName) prog_1_method_1_code (3 : Nat) (Option.none : Option Jvm.ClassFile.FieldType)).before args0 about1 = true := code_word (m := ⟨9, 0⟩) (meth := k9m0) (c := k9c0) (by decide +kernel) rfl rfl rfl (by decide +kernel)
set_option maxRecDepth 65536 in
theorem w_c6 : (Jvm.Cond.code ({ cls := "java/lang/Record", name := "<init>", desc := "()V" } : Jvm.MethodName) jdk_30_method_1_code (1 : Nat) (Option.none : Option Jvm.ClassFile.FieldType)).before args0 about1 = true := code_word (m := ⟨8, 0⟩) (meth := k8m0) (c := k8c0) (by decide +kernel) rfl rfl rfl (by decide +kernel)
set_option maxRecDepth 65536 in
theorem w_c7 : (Jvm.Cond.code ({ cls := "java/util/Objects", name := "requireNonNull", desc := "(Ljava/lang/Object;)Ljava/lang/Object;" } : Jvm.MethodName) jdk_31_method_10_code (1 : Nat) (Option.some (Jvm.ClassFile.FieldType.object "java/lang/Object"))).before args0 about1 = true := code_word (m := ⟨10, 1⟩) (meth := k10m1) (c := k10c1) (by decide +kernel) rfl rfl rfl (by decide +kernel)
set_option maxRecDepth 65536 in
theorem w_c8 : (Jvm.Cond.code ({ cls := "com/example/nightlatch/nightlatch/authorization/BackgroundDecision", name := "authorized", desc := "()Z" } : Jvm.MethodName) prog_1_method_2_code (1 : Nat) (Option.some Jvm.ClassFile.FieldType.boolean)).before args0 about1 = true := code_word (m := ⟨9, 1⟩) (meth := k9m1) (c := k9c1) (by decide +kernel) rfl rfl rfl (by decide +kernel)
set_option maxRecDepth 65536 in
theorem w_c9 : (Jvm.Cond.code ({ cls := "java/lang/StringUTF16", name := "compress", desc := "([CII)[B" } : Jvm.MethodName) jdk_52_method_16_code (6 : Nat) (Option.some (Jvm.ClassFile.FieldType.array Jvm.ClassFile.FieldType.byte))).before args0 about1 = true := code_word (m := ⟨13, 2⟩) (meth := k13m2) (c := k13c2) (by decide +kernel) rfl rfl rfl (by decide +kernel)
set_option maxRecDepth 65536 in
theorem w_c10 : (Jvm.Cond.code ({ cls := "java/lang/StringUTF16", name := "compress", desc := "([CI[BII)I" } : Jvm.MethodName) jdk_52_method_21_code (7 : Nat) (Option.some Jvm.ClassFile.FieldType.int)).before args0 about1 = true := code_word (m := ⟨13, 3⟩) (meth := k13m3) (c := k13c3) (by decide +kernel) rfl rfl rfl (by decide +kernel)
set_option maxRecDepth 65536 in
theorem w_c11 : (Jvm.Cond.code ({ cls := "java/lang/StringUTF16", name := "coderFromArrayLen", desc := "([BI)B" } : Jvm.MethodName) jdk_52_method_15_code (2 : Nat) (Option.some Jvm.ClassFile.FieldType.byte)).before args0 about1 = true := code_word (m := ⟨13, 1⟩) (meth := k13m1) (c := k13c1) (by decide +kernel) rfl rfl rfl (by decide +kernel)
def codes1 : List Jvm.Cond := [Jvm.Cond.code x code maxLocals ret, Jvm.Cond.code ({ cls := "java/lang/String", name := "<init>", desc := "([C)V" } : Jvm.MethodName) jdk_42_method_3_code (2 : Nat) (Option.none : Option Jvm.ClassFile.FieldType), Jvm.Cond.code ({ cls := "java/lang/String", name := "<init>", desc := "([CIILjava/lang/Void;)V" } : Jvm.MethodName) jdk_42_method_149_code (6 : Nat) (Option.none : Option Jvm.ClassFile.FieldType), Jvm.Cond.code ({ cls := "java/lang/Object", name := "<init>", desc := "()V" } : Jvm.MethodName) object_method_1_code (1 : Nat) (Option.none : Option Jvm.ClassFile.FieldType), Jvm.Cond.code ({ cls := "com/example/nightlatch/nightlatch/authorization/BackgroundDecisionAuthorizedPinLaw", name := "pick", desc := "(I)Lcom/example/nightlatch/nightlatch/authorization/Refusal;" } : Jvm.MethodName) method_2_code (1 : Nat) (Option.some (Jvm.ClassFile.FieldType.object "com/example/nightlatch/nightlatch/authorization/Refusal")), Jvm.Cond.code ({ cls := "com/example/nightlatch/nightlatch/authorization/BackgroundDecision", name := "<init>", desc := "(Lcom/example/nightlatch/nightlatch/authorization/Refusal;Ljava/lang/String;)V" } : Jvm.MethodName) prog_1_method_1_code (3 : Nat) (Option.none : Option Jvm.ClassFile.FieldType), Jvm.Cond.code ({ cls := "java/lang/Record", name := "<init>", desc := "()V" } : Jvm.MethodName) jdk_30_method_1_code (1 : Nat) (Option.none : Option Jvm.ClassFile.FieldType), Jvm.Cond.code ({ cls := "java/util/Objects", name := "requireNonNull", desc := "(Ljava/lang/Object;)Ljava/lang/Object;" } : Jvm.MethodName) jdk_31_method_10_code (1 : Nat) (Option.some (Jvm.ClassFile.FieldType.object "java/lang/Object")), Jvm.Cond.code ({ cls := "com/example/nightlatch/nightlatch/authorization/BackgroundDecision", name := "authorized", desc := "()Z" } : Jvm.MethodName) prog_1_method_2_code (1 : Nat) (Option.some Jvm.ClassFile.FieldType.boolean), Jvm.Cond.code ({ cls := "java/lang/StringUTF16", name := "compress", desc := "([CII)[B" } : Jvm.MethodName) jdk_52_method_16_code (6 : Nat) (Option.some (Jvm.ClassFile.FieldType.array Jvm.ClassFile.FieldType.byte)), Jvm.Cond.code ({ cls := "java/lang/StringUTF16", name := "compress", desc := "([CI[BII)I" } : Jvm.MethodName) jdk_52_method_21_code (7 : Nat) (Option.some Jvm.ClassFile.FieldType.int), Jvm.Cond.code ({ cls := "java/lang/StringUTF16", name := "coderFromArrayLen", desc := "([BI)B" } : Jvm.MethodName) jdk_52_method_15_code (2 : Nat) (Option.some Jvm.ClassFile.FieldType.byte)]
set_option maxRecDepth 65536 in
theorem codes_eq : words1.filter isCode = codes1 := rfl
theorem w_codes : ∀ c ∈ words1.filter isCode, c.before args0 about1 = true := by
  rw [codes_eq]
  intro c hc
  simp only [codes1, List.mem_cons, List.not_mem_nil, or_false] at hc
  rcases hc with rfl | rfl | rfl | rfl | rfl | rfl | rfl | rfl | rfl | rfl | rfl | rfl
  · exact w_c0
  · exact w_c1
  · exact w_c2
  · exact w_c3
  · exact w_c4
  · exact w_c5
  · exact w_c6
  · exact w_c7
  · exact w_c8
  · exact w_c9
  · exact w_c10
  · exact w_c11
set_option maxRecDepth 65536 in
theorem w_t1 : (words1.take 24).all (fun c => isCode c || c.before args0 about1) = true := by decide +kernel
set_option maxRecDepth 65536 in
theorem w_t2 : ((words1.drop 24).take 24).all (fun c => isCode c || c.before args0 about1) = true := by decide +kernel
set_option maxRecDepth 65536 in
theorem w_t3 : (((words1.drop 24).drop 24).take 24).all (fun c => isCode c || c.before args0 about1) = true := by decide +kernel
set_option maxRecDepth 65536 in
theorem w_t4 : (((words1.drop 24).drop 24).drop 24).all (fun c => isCode c || c.before args0 about1) = true := by decide +kernel
theorem w_tables : (allAtoms (Jvm.Cond.code x code maxLocals ret :: tables_1)).before args0 about1 = true := by
  rw [allAtoms_all]
  show words1.all (fun c => c.before args0 about1) = true
  refine all_split ?_ w_codes
  rw [← List.take_append_drop 24 words1, List.all_append, w_t1, ← List.take_append_drop 24 (words1.drop 24), List.all_append, w_t2, ← List.take_append_drop 24 ((words1.drop 24).drop 24), List.all_append, w_t3, w_t4]
  rfl
set_option maxRecDepth 65536 in
theorem w_rest : rest_1_c.before args0 about1 = true := by decide +kernel
set_option maxRecDepth 65536 in
theorem w_case : (Jvm.Cond.and given_1 narrow_1).before args0 about1 = true := by decide +kernel
set_option maxRecDepth 65536 in
theorem w_consts : constsHeld consts_1 about1 := Jvm.Lit.constsHeldB_iff.mp (by decide +kernel)
theorem w_applies : (headSpec (Jvm.Cond.code x code maxLocals ret :: tables_1) room_1).applies x e0.platform about1 = true :=
  (Spec.applies_iff w_frames).mpr ⟨w_running, w_runnable, w_alone, w_named, w_hears, w_ripe, w_room, w_tables⟩
theorem atStart : AtStart classFile x code maxLocals ret World_1 tables_1 room_1 Calls_1 rest_1 Pre_1 launch0 p0 e0 about1 theMethod args0 below0 :=
  ⟨lists_1, trivial, launch0.admits_env _ _ _, launch0.least_env, fairChoices_fair.cas, fairChoices_fair.clock, w_frames, w_args, w_heap, w_applies, ⟨w_consts, trivial⟩, w_rest, w_case⟩
end start1
theorem witness_1 : WitnessClaimed_1 := ⟨start1.p0, start1.e0, start1.about1, start1.theMethod, start1.args0, start1.below0, start1.atStart⟩
end Jvm.Pilot.@@N@@
