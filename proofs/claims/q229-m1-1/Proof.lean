import JvmDerived
import JvmDerived.Pilot.@@N@@Statement
import JvmDerived.Pilot.@@N@@Code
set_option linter.unusedVariables false
set_option linter.unusedSimpArgs false
namespace Jvm.Pilot.@@N@@
open Jvm Jvm.ClassFile Sem Op Lib Jvm.Free Jvm.Stand Jvm.LawKit Jvm.RoadKit Bundle Jvm.Pilot.@@N@@.Jvm.D
/-- cells made since the law began, none of them a booked literal's -/
def OwnL (Z : State) (EL : List (String × Nat)) (n0 : Nat) (vm : Vm) (h : Heap) (sf : List Addr) : Prop := ∀ x ∈ sf, x < h.size ∧ n0 ≤ x ∧ Safe Z EL vm h x
/-- all that a walk bears at one point -/
def Wk (l : Launch) (Z : State) (a0 : Array Value) (EL : List (String × Nat)) (n0 : Nat) (R : Room) (own : String) (bytes : ByteArray) (maxL : Nat) (ret : Option FieldType) (nm : String) (h : Heap) (sf : List Addr) (ce sl : Nat)
    (p : Program) (e : Env) (s : State) (m : MethodId) (args : Array Value) (below : List Frame) (meth : Method) (c : Code) (T : State) : Prop :=
  (p.tables.exec = Jvm.exec ∧ c.code = bytes ∧ c.maxLocals = maxL ∧ meth.sig.returnType = ret ∧ meth.name = nm ∧ meth.locks = false ∧ EW Z a0 EL ∧ Old Z n0 h) ∧
    ∃ (vm0 : Vm) (locs : List Loc) (k0 : Nat), Stand p l e R (s.setVm vm0) m args below meth c T locs ce sl ∧ T.heap = h ∧ s.Since vm0 k0 ∧ k0 ≤ h.size ∧ Z.Warmed39 vm0 ∧ vm0.findClass own = some m.cls ∧ Fr n0 locs ∧ CHr Z EL s.vm s.heap vm0 h ∧ OwnL Z EL n0 vm0 h sf
/-- the run from here ends as Q says -/
def Fin1 (Z : State) (EL : List (String × Nat)) (n0 : Nat) (R : Room) (Q : Option Value → Heap → List Addr → Prop) (p : Program) (e : Env) (s : State) (below : List Frame) (U : State) : Prop :=
  ∃ t o, Steps p.tables e below U t ∧ t.status = .running ∧ Ended t below o ∧ ∃ v L sf, o = .returned v ∧ Q v t.heap sf ∧ Fr n0 L ∧ CHr Z EL s.vm s.heap t.vm t.heap ∧ OwnL Z EL n0 t.vm t.heap sf ∧ Old Z n0 t.heap ∧ ReturnedEndW s o t L R.cells R.slots
/-- from every such point, with this frame on top, the run ends as Q says -/
def Go (l : Launch) (Z : State) (a0 : Array Value) (EL : List (String × Nat)) (n0 : Nat) (R : Room) (own : String) (bytes : ByteArray) (maxL : Nat) (ret : Option FieldType) (nm : String) (Q : Option Value → Heap → List Addr → Prop)
    (h : Heap) (sf : List Addr) (ce sl pc : Nat) (ls : Array Slot) (st : List Value) : Prop :=
  ∀ p e s m args below meth c T, Wk l Z a0 EL n0 R own bytes maxL ret nm h sf ce sl p e s m args below meth c T → Fin1 Z EL n0 R Q p e s below (T.setTop (mkF m pc ls st))
/-- a body's contract -/
def Con (l : Launch) (Z : State) (EL : List (String × Nat)) (n0 : Nat) (y : MethodName) (bytes : ByteArray) (maxL : Nat) (ret : Option FieldType) (ws : List Jvm.Cond) (R : Room) (as : Array Value) (h : Heap) (sf : List Addr) (Q : Option Value → Heap → List Addr → Prop) : Prop :=
  MetFree l y (head1 (Jvm.Cond.code y bytes maxL ret :: ws) R) (fun a U => a = as ∧ Z.Warmed39 U.vm ∧ U.heap = h ∧ CHv Z EL U.vm h ∧ OwnL Z EL n0 U.vm h sf ∧ Old Z n0 h) (fun _ _ _ _ _ => True)
    (fun _ U o U' => ∃ v L sf', o = .returned v ∧ Q v U'.heap sf' ∧ Fr n0 L ∧ CHr Z EL U.vm U.heap U'.vm U'.heap ∧ OwnL Z EL n0 U'.vm U'.heap sf' ∧ Old Z n0 U'.heap ∧ ReturnedEndW U o U' L R.cells R.slots)
section Walk
variable {l : Launch} {Z : State} {a0 : Array Value} {EL : List (String × Nat)} {n0 : Nat} {R : Room} {own : String} {bytes : ByteArray} {maxL : Nat} {ret : Option FieldType} {nm : String} {Q : Option Value → Heap → List Addr → Prop}
  {h : Heap} {sf : List Addr} {ce sl pc pc' pt : Nat} {ls ls' : Array Slot} {st rest : List Value}
theorem OwnL.nil {vm : Vm} : OwnL Z EL n0 vm h [] := fun _ q => nomatch q
theorem OwnL.cons {vm : Vm} {x : Addr} (h1 : x < h.size) (h2 : n0 ≤ x) (h3 : Safe Z EL vm h x) (O : OwnL Z EL n0 vm h sf) : OwnL Z EL n0 vm h (x :: sf) := fun y q => by
  rcases List.mem_cons.mp q with rfl | q
  · exact ⟨h1, h2, h3⟩
  · exact O y q
theorem OwnL.app {vm : Vm} {sf' : List Addr} (A : OwnL Z EL n0 vm h sf') (B : OwnL Z EL n0 vm h sf) : OwnL Z EL n0 vm h (sf' ++ sf) := fun y q => (List.mem_append.mp q).elim (A y) (B y)
theorem OwnL.sub {vm : Vm} {sf' : List Addr} (B : OwnL Z EL n0 vm h sf) (q : ∀ x ∈ sf', x ∈ sf) : OwnL Z EL n0 vm h sf' := fun y r => B y (q y r)
theorem OwnL.mv {vm vm1 : Vm} {h' : Heap} (A : CHr Z EL vm h vm1 h') (B : OwnL Z EL n0 vm h sf) : OwnL Z EL n0 vm1 h' sf := fun y r => by
  obtain ⟨q1, q2, q3⟩ := B y r
  exact ⟨Nat.lt_of_lt_of_le q1 A.2.1, q2, A.safe q1 q3⟩
/-- fewer owned cells, the same walk -/
theorem Go.sub {sf' : List Addr} (hr : Go l Z a0 EL n0 R own bytes maxL ret nm Q h sf' ce sl pc ls st) (q : ∀ x ∈ sf', x ∈ sf) : Go l Z a0 EL n0 R own bytes maxL ret nm Q h sf ce sl pc ls st := by
  intro p e s m args below meth c T W
  obtain ⟨W1, vm0, locs, k0, X, eT, hS, hk, hZ, hown, N, C, O⟩ := W
  exact hr p e s m args below meth c T ⟨W1, vm0, locs, k0, X, eT, hS, hk, hZ, hown, N, C, O.sub q⟩
theorem Go.old (hr : Old Z n0 h → Go l Z a0 EL n0 R own bytes maxL ret nm Q h sf ce sl pc ls st) : Go l Z a0 EL n0 R own bytes maxL ret nm Q h sf ce sl pc ls st := by
  intro p e s m args below meth c T W
  exact hr W.1.2.2.2.2.2.2.2 p e s m args below meth c T W
theorem Go.owned (hr : (∀ x ∈ sf, x < h.size ∧ n0 ≤ x) → Go l Z a0 EL n0 R own bytes maxL ret nm Q h sf ce sl pc ls st) : Go l Z a0 EL n0 R own bytes maxL ret nm Q h sf ce sl pc ls st := by
  intro p e s m args below meth c T W
  refine hr (fun x q => ?_) p e s m args below meth c T W
  obtain ⟨W1, vm0, locs, k0, X, eT, hS, hk, hZ, hown, N, C, O⟩ := W
  exact ⟨(O x q).1, (O x q).2.1⟩
theorem Go.more {ce' sl' : Nat} (hr : Go l Z a0 EL n0 R own bytes maxL ret nm Q h sf ce' sl' pc ls st) (q1 : ce ≤ ce') (q2 : sl ≤ sl') : Go l Z a0 EL n0 R own bytes maxL ret nm Q h sf ce sl pc ls st := by
  intro p e s m args below meth c T W
  obtain ⟨W1, vm0, locs, k0, X, r⟩ := W
  exact hr p e s m args below meth c T ⟨W1, vm0, locs, k0, ⟨X.admits, X.cas, X.clock, X.frames, X.room, X.hears, X.method, X.code, X.here, X.tail, X.warmed, X.limits, X.bytes, X.same.mono q1 q2⟩, r⟩
theorem Go.mono {Q' : Option Value → Heap → List Addr → Prop} (hr : Go l Z a0 EL n0 R own bytes maxL ret nm Q' h sf ce sl pc ls st) (q : ∀ v h' sf', Q' v h' sf' → Q v h' sf') : Go l Z a0 EL n0 R own bytes maxL ret nm Q h sf ce sl pc ls st := by
  intro p e s m args below meth c T W
  obtain ⟨t, o, h1, h2, h3, v, L, sf', e1, h4, h5⟩ := hr p e s m args below meth c T W
  exact ⟨t, o, h1, h2, h3, v, L, sf', e1, q _ _ _ h4, h5⟩
/-- one step that moves the frame alone -/
theorem go_step (hr : Go l Z a0 EL n0 R own bytes maxL ret nm Q h sf ce sl pc' ls' rest)
    (k : ∀ {p : Program} {e : Env} {m : MethodId} {below : List Frame} {c : Code} {T t : State}, At T m c below → p.tables.exec = Jvm.exec → c.code = bytes → Steps p.tables e below (T.setTop (mkF m pc' ls' rest)) t → Steps p.tables e below (T.setTop (mkF m pc ls st)) t) :
    Go l Z a0 EL n0 R own bytes maxL ret nm Q h sf ce sl pc ls st := by
  intro p e s m args below meth c T W
  obtain ⟨t, o, h1, h2⟩ := hr p e s m args below meth c T W
  obtain ⟨⟨hx, hby, -⟩, vm0, locs, k0, X, -⟩ := W
  exact ⟨t, o, k X.here hx hby h1, h2⟩
/-- one step that may resolve an entry: the heap as it was -/
theorem go_move (hr : Go l Z a0 EL n0 R own bytes maxL ret nm Q h sf ce sl pc' ls' rest)
    (k : ∀ {p : Program} {e : Env} {s : State} {m : MethodId} {args : Array Value} {below : List Frame} {meth : Method} {c : Code} {T : State} {locs : List Loc}, Stand p l e R s m args below meth c T locs ce sl → p.tables.exec = Jvm.exec → c.code = bytes → c.maxLocals = maxL → T.heap = h → Z.Warmed39 s.vm → s.vm.findClass own = some m.cls → Old Z n0 h →
      ∃ T', Stand p l e R s m args below meth c T' locs ce sl ∧ T'.heap = h ∧ ∀ t, Steps p.tables e below (T'.setTop (mkF m pc' ls' rest)) t → Steps p.tables e below (T.setTop (mkF m pc ls st)) t) :
    Go l Z a0 EL n0 R own bytes maxL ret nm Q h sf ce sl pc ls st := by
  intro p e s m args below meth c T W
  obtain ⟨⟨hx, hby, hml, hret, hnm, hlk, hEL, hOld⟩, vm0, locs, k0, X, eT, hS, hk, hZ, hown, N, C, O⟩ := W
  obtain ⟨T', X', eT', st'⟩ := k (s := s.setVm vm0) X hx hby hml eT hZ hown hOld
  obtain ⟨t, o, h1, h2⟩ := hr p e s m args below meth c T' ⟨⟨hx, hby, hml, hret, hnm, hlk, hEL, hOld⟩, vm0, locs, k0, X', eT', hS, hk, hZ, hown, N, C, O⟩
  exact ⟨t, o, st' _ h1, h2⟩
/-- one step that makes cells -/
theorem go_make {P : Heap → Addr → Prop} {ce' sl' : Nat}
    (k : ∀ {p : Program} {e : Env} {s : State} {m : MethodId} {args : Array Value} {below : List Frame} {meth : Method} {c : Code} {T : State} {locs : List Loc}, Stand p l e R s m args below meth c T locs ce sl → p.tables.exec = Jvm.exec → c.code = bytes → c.maxLocals = maxL → T.heap = h → Z.Warmed39 s.vm → s.vm.findClass own = some m.cls →
      ∃ T' h', Stand p l e R s m args below meth c T' locs ce' sl' ∧ T'.heap = h' ∧ Ext h h' ∧ h.size < h'.size ∧ P h' h.size ∧ ∀ t, Steps p.tables e below (T'.setTop (mkF m pc' ls' (.ref h.size :: rest))) t → Steps p.tables e below (T.setTop (mkF m pc ls st)) t)
    (hr : ∀ h' x, x = h.size → Ext h h' → P h' x → Go l Z a0 EL n0 R own bytes maxL ret nm Q h' (x :: sf) ce' sl' pc' ls' (.ref x :: rest)) :
    Go l Z a0 EL n0 R own bytes maxL ret nm Q h sf ce sl pc ls st := by
  intro p e s m args below meth c T W
  obtain ⟨⟨hx, hby, hml, hret, hnm, hlk, hEL, hOld⟩, vm0, locs, k0, X, eT, hS, hk, hZ, hown, N, C, O⟩ := W
  obtain ⟨T', h', X', eT', E, hlt, hP, st'⟩ := k (s := s.setVm vm0) X hx hby hml eT hZ hown
  have A := CHr.ext E C.1
  have hn : n0 ≤ h.size := by have := hOld.1; have := hOld.2.1; omega
  obtain ⟨t, o, h1, h2⟩ := hr h' h.size rfl E hP p e s m args below meth c T' ⟨⟨hx, hby, hml, hret, hnm, hlk, hEL, hOld.ext E⟩, vm0, locs, k0, X', eT', hS, Nat.le_trans hk E.1, hZ, hown, N, C.trans A,
    OwnL.cons hlt hn (Safe.ext E C.1 (Safe.new (Nat.le_refl _))) (O.mv A)⟩
  exact ⟨t, o, st' _ h1, h2⟩
/-- one step that writes one place of an owned cell -/
theorem go_write {x : Addr} {k1 : Nat} {v1 : Value} (hm : x ∈ sf)
    (k : ∀ {p : Program} {e : Env} {s : State} {m : MethodId} {args : Array Value} {below : List Frame} {meth : Method} {c : Code} {T : State} {locs : List Loc}, Stand p l e R s m args below meth c T locs ce sl → p.tables.exec = Jvm.exec → c.code = bytes → meth.name = nm → T.heap = h → Z.Warmed39 s.vm → s.vm.findClass own = some m.cls →
      ∃ T' h', Stand p l e R s m args below meth c T' (locs ++ [⟨x, k1⟩]) ce sl ∧ T'.heap = h' ∧ Wr h h' x k1 v1 ∧ ∀ t, Steps p.tables e below (T'.setTop (mkF m pc' ls' rest)) t → Steps p.tables e below (T.setTop (mkF m pc ls st)) t)
    (hr : ∀ h', Wr h h' x k1 v1 → Go l Z a0 EL n0 R own bytes maxL ret nm Q h' sf ce sl pc' ls' rest) :
    Go l Z a0 EL n0 R own bytes maxL ret nm Q h sf ce sl pc ls st := by
  intro p e s m args below meth c T W
  obtain ⟨⟨hx, hby, hml, hret, hnm, hlk, hEL, hOld⟩, vm0, locs, k0, X, eT, hS, hk, hZ, hown, N, C, O⟩ := W
  obtain ⟨T', h', X', eT', Ww, st'⟩ := k (s := s.setVm vm0) X hx hby hnm eT hZ hown
  obtain ⟨q1, q2, q3⟩ := O x hm
  have A := CHr.wr Ww q3 C.1
  obtain ⟨t, o, h1, h2⟩ := hr h' Ww p e s m args below meth c T' ⟨⟨hx, hby, hml, hret, hnm, hlk, hEL, hOld.wr Ww q2⟩, vm0, _, k0, X', eT', hS, by rw [Ww.size]; exact hk, hZ, hown, N.snoc X' q2, C.trans A, O.mv A⟩
  exact ⟨t, o, st' _ h1, h2⟩
/-- the end -/
theorem go_out {v : Option Value} {sf' : List Addr} (hv : ret = none → v = none) (hc : ce ≤ R.cells) (hs : sl ≤ R.slots) (hsub : ∀ x ∈ sf', x ∈ sf)
    (k : ∀ {p : Program} {e : Env} {s : State} {m : MethodId} {args : Array Value} {below : List Frame} {meth : Method} {c : Code} {T : State} {locs : List Loc} {fs : List Frame}, Stand p l e R s m args below meth c T locs ce sl → p.tables.exec = Jvm.exec → c.code = bytes → meth.sig.returnType = ret →
      (∀ (f : JFrame) (acts : List Action), f.method = m → f.locked = none → f.entered = [] → (doReturn e (T.setTop f) acts v).1 = T.setFrames fs) → Steps p.tables e below (T.setTop (mkF m pc ls st)) (T.setFrames fs))
    (hq : Q v h sf') : Go l Z a0 EL n0 R own bytes maxL ret nm Q h sf ce sl pc ls st := by
  intro p e s m args below meth c T W
  obtain ⟨⟨hx, hby, hml, hret, hnm, hlk, hEL, hOld⟩, vm0, locs, k0, X, eT, hS, hk, hZ, hown, N, C, O⟩ := W
  obtain ⟨fs, hl, hrun, hend, hR⟩ := X.leaveW (v := v) hS (by rw [eT]; exact hk) (by rw [hret]; exact hv) hlk
  have A := CHv.at X hZ hEL C.1
  subst eT
  refine ⟨_, _, k (s := s.setVm vm0) X hx hby hret hl, hrun, hend, v, locs, sf', rfl, hq, N, C.trans A, (O.mv A).sub hsub, hOld, hR.1, hR.2.1, hR.2.2.1, hR.2.2.2.mono hc hs⟩
/-- into a body -/
theorem con_of {y : MethodName} {ws : List Jvm.Cond} {as : Array Value} (hpl : plainFor y = true) (hEW : EW Z a0 EL) (hE : ∀ m, entryFrame m as maxL = mkF m 0 ls [])
    (hr : Go l Z a0 EL n0 R y.cls bytes maxL ret y.name Q h sf 0 0 0 ls []) : Con l Z EL n0 y bytes maxL ret ws R as h sf Q := by
  refine MetFree.of_bodySF hpl hisR ?_
  intro p e s m args below meth c s₁ Bd hml0 hP hK
  obtain ⟨rfl, hZ, hh, hC, hO, hOld⟩ := hP
  have X0 : Stand p l e R s m args below meth c s₁ [] 0 0 := Stand.of_body Bd
  have e0 : s₁.heap = h := by rw [← hh, Bd.state]; rfl
  subst hh
  obtain ⟨t, o, h1, h2⟩ := hr p e s m args below meth c s₁ ⟨⟨Bd.exec, Bd.bytes, hml0, Bd.returns, (name_of_methodNamed Bd.named Bd.method).1, Bd.notSynchronized, hEW, hOld⟩, s.vm, [], 0, X0, e0, (State.WarmedH.refl s).since 0, Nat.zero_le _, hZ, findClass_of_methodNamed Bd.named, Fr.nil n0, CHr.refl hC, hO⟩
  exact ⟨t, o, castTop (hE m) h1, h2⟩
/-- a contract as a payer -/
theorem back_of {p : Program} {e : Env} {s : State} {args : Array Value} {below : List Frame} {vm0 : Vm} {R' : Room} {y : MethodName} {as : Array Value} {len W : Nat}
    (hM : Con l Z EL n0 y bytes maxL ret [] R' as h sf Q) (hZ : Z.Warmed39 vm0) (wc : (Jvm.Cond.code y bytes maxL ret).before a0 Z = true) (wz : (Jvm.Cond.initialized y.cls).before a0 Z = true) (hf : R'.frames + 1 ≤ R.frames) (hl : W + (maxL + 11) + R'.locals ≤ R.locals) (hEL : EW Z a0 EL) (H : CHv Z EL vm0 h) (O : OwnL Z EL n0 vm0 h sf) (hOld : Old Z n0 h) :
    BackS l R p e below (s.setVm vm0) args y len W (fun A a => a = as ∧ A.U.heap = h ∧ A.cells + R'.cells ≤ R.cells ∧ A.slots + R'.slots ≤ R.slots)
      (fun A _ v B => ∃ L sf', Q v B.U.heap sf' ∧ Fr n0 L ∧ OwnL Z EL n0 B.U.vm B.U.heap sf' ∧ Old Z n0 B.U.heap ∧ B.locs = A.locs ++ L ∧ B.cells = A.cells + R'.cells ∧ B.slots = A.slots + R'.slots ∧ CHr Z EL vm0 h B.U.vm B.U.heap) :=
  BackS.of_freeW (bytes := bytes) (maxL := maxL) (ret := ret) (E := fun _ first o t L k n => k = R'.cells ∧ n = R'.slots ∧ Fr n0 L ∧ (∃ v sf', o = .returned v ∧ Q v t.heap sf' ∧ OwnL Z EL n0 t.vm t.heap sf' ∧ Old Z n0 t.heap) ∧ CHr Z EL first.vm first.heap t.vm t.heap) hM hf hl
    (fun m meth c A a Y hp => have hU : Z.Warmed39 A.U.vm := wtrans (s := s.setVm vm0) hZ Y.warmed
      ⟨by show (Jvm.Cond.and _ .tt).before a A.U = true; rw [Cond.before_and, RoadKit.mv hU wc]; rfl, RoadKit.mv hU wc, RoadKit.mv hU wz, hp.2.2.1, hp.2.2.2⟩)
    (fun m meth c A a g mk Y hp => ⟨hp.1, wtrans (s := s.setVm vm0) hZ Y.warmed, hp.2.1, (CHv.at Y hZ hEL H).1, show OwnL Z EL n0 A.U.vm h sf from O.mv (CHv.at Y hZ hEL H), hOld⟩) (fun _ _ _ _ _ _ _ _ _ => trivial)
    (fun _ _ _ _ ⟨v, L, sf', h1, h2, h3, h4, h5, h6, h7⟩ => ⟨L, _, _, h7, rfl, rfl, h3, ⟨v, sf', h1, h2, h5, h6⟩, h4⟩)
    (fun m meth c A a g mk v t L k n Y hp _ _ ⟨e1, e2, e3, ⟨v', sf', e4, e5, e6, e7⟩, e8⟩ => by
      cases e4; subst e1 e2
      refine ⟨L, sf', e5, e3, e6, e7, rfl, rfl, rfl, (CHv.at Y hZ hEL H).trans ?_⟩
      rw [← hp.2.1]; exact e8)
theorem go_aloadN {k : Fin 4} {v : Value} (hd : decode bytes pc = .ok (.aload_n k, 1)) (hp : pc + 1 = pc') (hl : ls[k.val]? = some (.val v)) (hv : v.isRef = true) (hr : Go l Z a0 EL n0 R own bytes maxL ret nm Q h sf ce sl pc' ls (v :: st)) : Go l Z a0 EL n0 R own bytes maxL ret nm Q h sf ce sl pc ls st := by
  subst hp
  exact go_step hr fun A hx hb kk => XS.aloadN A hx rfl (Jvm.hb hb hd) hl hv kk
theorem go_aload {k : Nat} {v : Value} (hd : decode bytes pc = .ok (.aload k, 2)) (hp : pc + 2 = pc') (hl : ls[k]? = some (.val v)) (hv : v.isRef = true) (hr : Go l Z a0 EL n0 R own bytes maxL ret nm Q h sf ce sl pc' ls (v :: st)) : Go l Z a0 EL n0 R own bytes maxL ret nm Q h sf ce sl pc ls st := by
  subst hp
  exact go_step hr fun A hx hb kk => XS.aload A hx rfl (Jvm.hb hb hd) hl hv kk
theorem go_iloadN {k : Fin 4} {v : Int32} (hd : decode bytes pc = .ok (.iload_n k, 1)) (hp : pc + 1 = pc') (hl : ls[k.val]? = some (.val (.int v))) (hr : Go l Z a0 EL n0 R own bytes maxL ret nm Q h sf ce sl pc' ls (.int v :: st)) : Go l Z a0 EL n0 R own bytes maxL ret nm Q h sf ce sl pc ls st := by
  subst hp
  exact go_step hr fun A hx hb kk => XS.iloadN A hx rfl (Jvm.hb hb hd) hl kk
theorem go_iload {k : Nat} {v : Int32} (hd : decode bytes pc = .ok (.iload k, 2)) (hp : pc + 2 = pc') (hl : ls[k]? = some (.val (.int v))) (hr : Go l Z a0 EL n0 R own bytes maxL ret nm Q h sf ce sl pc' ls (.int v :: st)) : Go l Z a0 EL n0 R own bytes maxL ret nm Q h sf ce sl pc ls st := by
  subst hp
  exact go_step hr fun A hx hb kk => XS.iload A hx rfl (Jvm.hb hb hd) hl kk
theorem go_lloadN {k : Fin 4} {v : Int64} (hd : decode bytes pc = .ok (.lload_n k, 1)) (hp : pc + 1 = pc') (hl : ls[k.val]? = some (.val (.long v))) (hr : Go l Z a0 EL n0 R own bytes maxL ret nm Q h sf ce sl pc' ls (.long v :: st)) : Go l Z a0 EL n0 R own bytes maxL ret nm Q h sf ce sl pc ls st := by
  subst hp
  exact go_step hr fun A hx hb kk => XT.lloadN A hx rfl (Jvm.hb hb hd) hl kk
theorem go_lload {k : Nat} {v : Int64} (hd : decode bytes pc = .ok (.lload k, 2)) (hp : pc + 2 = pc') (hl : ls[k]? = some (.val (.long v))) (hr : Go l Z a0 EL n0 R own bytes maxL ret nm Q h sf ce sl pc' ls (.long v :: st)) : Go l Z a0 EL n0 R own bytes maxL ret nm Q h sf ce sl pc ls st := by
  subst hp
  exact go_step hr fun A hx hb kk => XT.lload A hx rfl (Jvm.hb hb hd) hl kk
theorem go_iconst {i : Int} (v : Int32) (hd : decode bytes pc = .ok (.iconst i, 1)) (hp : pc + 1 = pc') (hv : Int32.ofInt i = v) (hr : Go l Z a0 EL n0 R own bytes maxL ret nm Q h sf ce sl pc' ls (.int v :: st)) : Go l Z a0 EL n0 R own bytes maxL ret nm Q h sf ce sl pc ls st := by
  subst hp
  exact go_step hr fun A hx hb kk => XT.iconstV A hx rfl v (Jvm.hb hb hd) hv kk
theorem go_bipush {i : Int} (v : Int32) (hd : decode bytes pc = .ok (.bipush i, 2)) (hp : pc + 2 = pc') (hv : (Int8.ofInt i).toInt32 = v) (hr : Go l Z a0 EL n0 R own bytes maxL ret nm Q h sf ce sl pc' ls (.int v :: st)) : Go l Z a0 EL n0 R own bytes maxL ret nm Q h sf ce sl pc ls st := by
  subst hp
  exact go_step hr fun A hx hb kk => XT.bipushV A hx rfl v (Jvm.hb hb hd) hv kk
theorem go_sipush {i : Int} (v : Int32) (hd : decode bytes pc = .ok (.sipush i, 3)) (hp : pc + 3 = pc') (hv : (Int16.ofInt i).toInt32 = v) (hr : Go l Z a0 EL n0 R own bytes maxL ret nm Q h sf ce sl pc' ls (.int v :: st)) : Go l Z a0 EL n0 R own bytes maxL ret nm Q h sf ce sl pc ls st := by
  subst hp
  exact go_step hr fun A hx hb kk => XT.sipushV A hx rfl v (Jvm.hb hb hd) hv kk
theorem go_lconst {k : Fin 2} (v : Int64) (hd : decode bytes pc = .ok (.lconst k, 1)) (hp : pc + 1 = pc') (hv : Int64.ofNat k = v) (hr : Go l Z a0 EL n0 R own bytes maxL ret nm Q h sf ce sl pc' ls (.long v :: st)) : Go l Z a0 EL n0 R own bytes maxL ret nm Q h sf ce sl pc ls st := by
  subst hp
  exact go_step hr fun A hx hb kk => XT.lconstV A hx rfl v (Jvm.hb hb hd) hv kk
theorem go_aconstNull (hd : decode bytes pc = .ok (.aconst_null, 1)) (hp : pc + 1 = pc') (hr : Go l Z a0 EL n0 R own bytes maxL ret nm Q h sf ce sl pc' ls (.null :: st)) : Go l Z a0 EL n0 R own bytes maxL ret nm Q h sf ce sl pc ls st := by
  subst hp
  exact go_step hr fun A hx hb kk => XS.aconstNull A hx rfl (Jvm.hb hb hd) kk
theorem go_iadd {x y : Int32} (hd : decode bytes pc = .ok (.iadd, 1)) (hp : pc + 1 = pc') (hr : Go l Z a0 EL n0 R own bytes maxL ret nm Q h sf ce sl pc' ls (.int (x + y) :: st)) : Go l Z a0 EL n0 R own bytes maxL ret nm Q h sf ce sl pc ls (.int y :: .int x :: st) := by
  subst hp
  exact go_step hr fun A hx hb kk => XS.iadd A hx rfl (Jvm.hb hb hd) rfl kk
theorem go_isub {x y : Int32} (hd : decode bytes pc = .ok (.isub, 1)) (hp : pc + 1 = pc') (hr : Go l Z a0 EL n0 R own bytes maxL ret nm Q h sf ce sl pc' ls (.int (x - y) :: st)) : Go l Z a0 EL n0 R own bytes maxL ret nm Q h sf ce sl pc ls (.int y :: .int x :: st) := by
  subst hp
  exact go_step hr fun A hx hb kk => XS.isub A hx rfl (Jvm.hb hb hd) rfl kk
theorem go_imul {x y : Int32} (hd : decode bytes pc = .ok (.imul, 1)) (hp : pc + 1 = pc') (hr : Go l Z a0 EL n0 R own bytes maxL ret nm Q h sf ce sl pc' ls (.int (x * y) :: st)) : Go l Z a0 EL n0 R own bytes maxL ret nm Q h sf ce sl pc ls (.int y :: .int x :: st) := by
  subst hp
  exact go_step hr fun A hx hb kk => XS.imul A hx rfl (Jvm.hb hb hd) rfl kk
theorem go_iand {x y : Int32} (hd : decode bytes pc = .ok (.iand, 1)) (hp : pc + 1 = pc') (hr : Go l Z a0 EL n0 R own bytes maxL ret nm Q h sf ce sl pc' ls (.int (x &&& y) :: st)) : Go l Z a0 EL n0 R own bytes maxL ret nm Q h sf ce sl pc ls (.int y :: .int x :: st) := by
  subst hp
  exact go_step hr fun A hx hb kk => XS.iand A hx rfl (Jvm.hb hb hd) rfl kk
theorem go_ior {x y : Int32} (hd : decode bytes pc = .ok (.ior, 1)) (hp : pc + 1 = pc') (hr : Go l Z a0 EL n0 R own bytes maxL ret nm Q h sf ce sl pc' ls (.int (x ||| y) :: st)) : Go l Z a0 EL n0 R own bytes maxL ret nm Q h sf ce sl pc ls (.int y :: .int x :: st) := by
  subst hp
  exact go_step hr fun A hx hb kk => XT.ior A hx rfl (Jvm.hb hb hd) rfl kk
theorem go_ixor {x y : Int32} (hd : decode bytes pc = .ok (.ixor, 1)) (hp : pc + 1 = pc') (hr : Go l Z a0 EL n0 R own bytes maxL ret nm Q h sf ce sl pc' ls (.int (x ^^^ y) :: st)) : Go l Z a0 EL n0 R own bytes maxL ret nm Q h sf ce sl pc ls (.int y :: .int x :: st) := by
  subst hp
  exact go_step hr fun A hx hb kk => XT.ixor A hx rfl (Jvm.hb hb hd) rfl kk
theorem go_iushr {x y : Int32} (hd : decode bytes pc = .ok (.iushr, 1)) (hp : pc + 1 = pc') (hr : Go l Z a0 EL n0 R own bytes maxL ret nm Q h sf ce sl pc' ls (.int (XT.ushr x y) :: st)) : Go l Z a0 EL n0 R own bytes maxL ret nm Q h sf ce sl pc ls (.int y :: .int x :: st) := by
  subst hp
  exact go_step hr fun A hx hb kk => XT.iushr A hx rfl (Jvm.hb hb hd) rfl kk
theorem go_ishl {x y : Int32} (hd : decode bytes pc = .ok (.ishl, 1)) (hp : pc + 1 = pc') (hr : Go l Z a0 EL n0 R own bytes maxL ret nm Q h sf ce sl pc' ls (.int (x <<< (y &&& 31)) :: st)) : Go l Z a0 EL n0 R own bytes maxL ret nm Q h sf ce sl pc ls (.int y :: .int x :: st) := by
  subst hp
  exact go_step hr fun A hx hb kk => XT.ishl A hx rfl (Jvm.hb hb hd) rfl kk
theorem go_ishr {x y : Int32} (hd : decode bytes pc = .ok (.ishr, 1)) (hp : pc + 1 = pc') (hr : Go l Z a0 EL n0 R own bytes maxL ret nm Q h sf ce sl pc' ls (.int (x >>> (y &&& 31)) :: st)) : Go l Z a0 EL n0 R own bytes maxL ret nm Q h sf ce sl pc ls (.int y :: .int x :: st) := by
  subst hp
  exact go_step hr fun A hx hb kk => XT.ishr A hx rfl (Jvm.hb hb hd) rfl kk
theorem go_ineg {x : Int32} (hd : decode bytes pc = .ok (.ineg, 1)) (hp : pc + 1 = pc') (hr : Go l Z a0 EL n0 R own bytes maxL ret nm Q h sf ce sl pc' ls (.int (-x) :: st)) : Go l Z a0 EL n0 R own bytes maxL ret nm Q h sf ce sl pc ls (.int x :: st) := by
  subst hp
  exact go_step hr fun A hx hb kk => XS.ineg A hx rfl (Jvm.hb hb hd) rfl kk
theorem go_i2b {x : Int32} (hd : decode bytes pc = .ok (.i2b, 1)) (hp : pc + 1 = pc') (hr : Go l Z a0 EL n0 R own bytes maxL ret nm Q h sf ce sl pc' ls (.int x.toInt8.toInt32 :: st)) : Go l Z a0 EL n0 R own bytes maxL ret nm Q h sf ce sl pc ls (.int x :: st) := by
  subst hp
  exact go_step hr fun A hx hb kk => XT.i2b A hx rfl (Jvm.hb hb hd) rfl kk
theorem go_i2c {x : Int32} (hd : decode bytes pc = .ok (.i2c, 1)) (hp : pc + 1 = pc') (hr : Go l Z a0 EL n0 R own bytes maxL ret nm Q h sf ce sl pc' ls (.int x.toUInt32.toUInt16.toUInt32.toInt32 :: st)) : Go l Z a0 EL n0 R own bytes maxL ret nm Q h sf ce sl pc ls (.int x :: st) := by
  subst hp
  exact go_step hr fun A hx hb kk => XT.i2c A hx rfl (Jvm.hb hb hd) rfl kk
theorem go_i2l {x : Int32} (hd : decode bytes pc = .ok (.i2l, 1)) (hp : pc + 1 = pc') (hr : Go l Z a0 EL n0 R own bytes maxL ret nm Q h sf ce sl pc' ls (.long x.toInt64 :: st)) : Go l Z a0 EL n0 R own bytes maxL ret nm Q h sf ce sl pc ls (.int x :: st) := by
  subst hp
  exact go_step hr fun A hx hb kk => XT.i2l A hx rfl (Jvm.hb hb hd) rfl kk
theorem go_l2i {x : Int64} (hd : decode bytes pc = .ok (.l2i, 1)) (hp : pc + 1 = pc') (hr : Go l Z a0 EL n0 R own bytes maxL ret nm Q h sf ce sl pc' ls (.int x.toInt32 :: st)) : Go l Z a0 EL n0 R own bytes maxL ret nm Q h sf ce sl pc ls (.long x :: st) := by
  subst hp
  exact go_step hr fun A hx hb kk => XT.l2i A hx rfl (Jvm.hb hb hd) rfl kk
theorem go_land {x y : Int64} (hd : decode bytes pc = .ok (.land, 1)) (hp : pc + 1 = pc') (hr : Go l Z a0 EL n0 R own bytes maxL ret nm Q h sf ce sl pc' ls (.long (x &&& y) :: st)) : Go l Z a0 EL n0 R own bytes maxL ret nm Q h sf ce sl pc ls (.long y :: .long x :: st) := by
  subst hp
  exact go_step hr fun A hx hb kk => XT.land A hx rfl (Jvm.hb hb hd) rfl kk
theorem go_lushr {x : Int64} {y : Int32} (hd : decode bytes pc = .ok (.lushr, 1)) (hp : pc + 1 = pc') (hr : Go l Z a0 EL n0 R own bytes maxL ret nm Q h sf ce sl pc' ls (.long (XT.ushrL x y) :: st)) : Go l Z a0 EL n0 R own bytes maxL ret nm Q h sf ce sl pc ls (.int y :: .long x :: st) := by
  subst hp
  exact go_step hr fun A hx hb kk => XT.lushr A hx rfl (Jvm.hb hb hd) rfl kk
theorem go_dup {x : Value} (hd : decode bytes pc = .ok (.dup, 1)) (hp : pc + 1 = pc') (hc : x.category = 1) (hr : Go l Z a0 EL n0 R own bytes maxL ret nm Q h sf ce sl pc' ls (x :: x :: st)) : Go l Z a0 EL n0 R own bytes maxL ret nm Q h sf ce sl pc ls (x :: st) := by
  subst hp
  exact go_step hr fun A hx hb kk => XS.dup A hx rfl (Jvm.hb hb hd) rfl hc kk
theorem go_pop {x : Value} (hd : decode bytes pc = .ok (.pop, 1)) (hp : pc + 1 = pc') (hc : x.category = 1) (hr : Go l Z a0 EL n0 R own bytes maxL ret nm Q h sf ce sl pc' ls st) : Go l Z a0 EL n0 R own bytes maxL ret nm Q h sf ce sl pc ls (x :: st) := by
  subst hp
  exact go_step hr fun A hx hb kk => XT.pop A hx rfl (Jvm.hb hb hd) rfl hc kk
theorem go_dupX1 {x y : Value} (hd : decode bytes pc = .ok (.dup_x1, 1)) (hp : pc + 1 = pc') (hc : x.category = 1) (hc' : y.category = 1) (hr : Go l Z a0 EL n0 R own bytes maxL ret nm Q h sf ce sl pc' ls (x :: y :: x :: st)) : Go l Z a0 EL n0 R own bytes maxL ret nm Q h sf ce sl pc ls (x :: y :: st) := by
  subst hp
  exact go_step hr fun A hx hb kk => XT.dupX1 A hx rfl (Jvm.hb hb hd) rfl hc hc' kk
theorem go_dup2 {x y : Value} (hd : decode bytes pc = .ok (.dup2, 1)) (hp : pc + 1 = pc') (hc : x.category = 1) (hc' : y.category = 1) (hr : Go l Z a0 EL n0 R own bytes maxL ret nm Q h sf ce sl pc' ls (x :: y :: x :: y :: st)) : Go l Z a0 EL n0 R own bytes maxL ret nm Q h sf ce sl pc ls (x :: y :: st) := by
  subst hp
  exact go_step hr fun A hx hb kk => XT.dup2 A hx rfl (Jvm.hb hb hd) rfl hc hc' kk
theorem go_istoreN {k : Fin 4} {x : Int32} (hd : decode bytes pc = .ok (.istore_n k, 1)) (hp : pc + 1 = pc') (ls' : Array Slot) (hl : storeLocals ls k.val (.int x) = some ls') (hr : Go l Z a0 EL n0 R own bytes maxL ret nm Q h sf ce sl pc' ls' st) : Go l Z a0 EL n0 R own bytes maxL ret nm Q h sf ce sl pc ls (.int x :: st) := by
  subst hp
  exact go_step hr fun A hx hb kk => XS.istoreN A hx rfl (Jvm.hb hb hd) rfl hl kk
theorem go_istore {k : Nat} {x : Int32} (hd : decode bytes pc = .ok (.istore k, 2)) (hp : pc + 2 = pc') (ls' : Array Slot) (hl : storeLocals ls k (.int x) = some ls') (hr : Go l Z a0 EL n0 R own bytes maxL ret nm Q h sf ce sl pc' ls' st) : Go l Z a0 EL n0 R own bytes maxL ret nm Q h sf ce sl pc ls (.int x :: st) := by
  subst hp
  exact go_step hr fun A hx hb kk => XS.istore A hx rfl (Jvm.hb hb hd) rfl hl kk
theorem go_astoreN {k : Fin 4} {x : Value} (hd : decode bytes pc = .ok (.astore_n k, 1)) (hp : pc + 1 = pc') (ls' : Array Slot) (hv : x.isRef = true) (hl : storeLocals ls k.val x = some ls') (hr : Go l Z a0 EL n0 R own bytes maxL ret nm Q h sf ce sl pc' ls' st) : Go l Z a0 EL n0 R own bytes maxL ret nm Q h sf ce sl pc ls (x :: st) := by
  subst hp
  exact go_step hr fun A hx hb kk => XS.astoreN A hx rfl (Jvm.hb hb hd) rfl hv hl kk
theorem go_astore {k : Nat} {x : Value} (hd : decode bytes pc = .ok (.astore k, 2)) (hp : pc + 2 = pc') (ls' : Array Slot) (hv : x.isRef = true) (hl : storeLocals ls k x = some ls') (hr : Go l Z a0 EL n0 R own bytes maxL ret nm Q h sf ce sl pc' ls' st) : Go l Z a0 EL n0 R own bytes maxL ret nm Q h sf ce sl pc ls (x :: st) := by
  subst hp
  exact go_step hr fun A hx hb kk => XS.astore A hx rfl (Jvm.hb hb hd) rfl hv hl kk
theorem go_lstoreN {k : Fin 4} {x : Int64} (hd : decode bytes pc = .ok (.lstore_n k, 1)) (hp : pc + 1 = pc') (ls' : Array Slot) (hl : storeLocals ls k.val (.long x) = some ls') (hr : Go l Z a0 EL n0 R own bytes maxL ret nm Q h sf ce sl pc' ls' st) : Go l Z a0 EL n0 R own bytes maxL ret nm Q h sf ce sl pc ls (.long x :: st) := by
  subst hp
  exact go_step hr fun A hx hb kk => XT.lstoreN A hx rfl (Jvm.hb hb hd) rfl hl kk
theorem go_lstore {k : Nat} {x : Int64} (hd : decode bytes pc = .ok (.lstore k, 2)) (hp : pc + 2 = pc') (ls' : Array Slot) (hl : storeLocals ls k (.long x) = some ls') (hr : Go l Z a0 EL n0 R own bytes maxL ret nm Q h sf ce sl pc' ls' st) : Go l Z a0 EL n0 R own bytes maxL ret nm Q h sf ce sl pc ls (.long x :: st) := by
  subst hp
  exact go_step hr fun A hx hb kk => XT.lstore A hx rfl (Jvm.hb hb hd) rfl hl kk
theorem go_iinc {k : Nat} {cst : Int} {x : Int32} (v : Int32) (hd : decode bytes pc = .ok (.iinc k cst, 3)) (hp : pc + 3 = pc') (ls' : Array Slot) (hv : Int32.ofInt cst = v) (hl : ls[k]? = some (.val (.int x))) (hl' : storeLocals ls k (.int (x + v)) = some ls') (hr : Go l Z a0 EL n0 R own bytes maxL ret nm Q h sf ce sl pc' ls' st) : Go l Z a0 EL n0 R own bytes maxL ret nm Q h sf ce sl pc ls st := by
  subst hp
  exact go_step hr fun A hx hb kk => XT.iincV A hx rfl v (Jvm.hb hb hd) hv hl hl' kk
theorem go_goto {o : Int} (hd : decode bytes pc = .ok (.goto o, 3)) (ho : 0 ≤ (pc : Int) + o) (ht : ((pc : Int) + o).toNat = pt) (hr : Go l Z a0 EL n0 R own bytes maxL ret nm Q h sf ce sl pt ls st) : Go l Z a0 EL n0 R own bytes maxL ret nm Q h sf ce sl pc ls st := go_step hr fun A hx hb kk => XS.goto A hx rfl rfl (Jvm.hb hb hd) ho ht kk
theorem go_icmp_eq_t {o : Int} {x y : Int32} (hd : decode bytes pc = .ok (.if_icmp .eq o, 3)) (ho : 0 ≤ (pc : Int) + o) (ht : ((pc : Int) + o).toNat = pt) (hc : x = y) (hr : Go l Z a0 EL n0 R own bytes maxL ret nm Q h sf ce sl pt ls st) : Go l Z a0 EL n0 R own bytes maxL ret nm Q h sf ce sl pc ls (.int y :: .int x :: st) := go_step hr fun A hx hb kk => XS.icmpYes A hx rfl rfl (Jvm.hb hb hd) rfl (XT.ii_eq_t hc) ho ht kk
theorem go_icmp_eq_f {o : Int} {x y : Int32} (hd : decode bytes pc = .ok (.if_icmp .eq o, 3)) (hp : pc + 3 = pc') (hc : ¬ x = y) (hr : Go l Z a0 EL n0 R own bytes maxL ret nm Q h sf ce sl pc' ls st) : Go l Z a0 EL n0 R own bytes maxL ret nm Q h sf ce sl pc ls (.int y :: .int x :: st) := by
  subst hp
  exact go_step hr fun A hx hb kk => XS.icmpNo A hx rfl (Jvm.hb hb hd) rfl (XT.ii_eq_f hc) kk
theorem go_if_eq_t {o : Int} {x : Int32} (hd : decode bytes pc = .ok (.ifCond .eq o, 3)) (ho : 0 ≤ (pc : Int) + o) (ht : ((pc : Int) + o).toNat = pt) (hc : x = 0) (hr : Go l Z a0 EL n0 R own bytes maxL ret nm Q h sf ce sl pt ls st) : Go l Z a0 EL n0 R own bytes maxL ret nm Q h sf ce sl pc ls (.int x :: st) := go_step hr fun A hx hb kk => XS.ifYes A hx rfl rfl (Jvm.hb hb hd) rfl (XT.i0_eq_t hc) ho ht kk
theorem go_if_eq_f {o : Int} {x : Int32} (hd : decode bytes pc = .ok (.ifCond .eq o, 3)) (hp : pc + 3 = pc') (hc : ¬ x = 0) (hr : Go l Z a0 EL n0 R own bytes maxL ret nm Q h sf ce sl pc' ls st) : Go l Z a0 EL n0 R own bytes maxL ret nm Q h sf ce sl pc ls (.int x :: st) := by
  subst hp
  exact go_step hr fun A hx hb kk => XS.ifNo A hx rfl (Jvm.hb hb hd) rfl (XT.i0_eq_f hc) kk
theorem go_icmp_ne_t {o : Int} {x y : Int32} (hd : decode bytes pc = .ok (.if_icmp .ne o, 3)) (ho : 0 ≤ (pc : Int) + o) (ht : ((pc : Int) + o).toNat = pt) (hc : ¬ x = y) (hr : Go l Z a0 EL n0 R own bytes maxL ret nm Q h sf ce sl pt ls st) : Go l Z a0 EL n0 R own bytes maxL ret nm Q h sf ce sl pc ls (.int y :: .int x :: st) := go_step hr fun A hx hb kk => XS.icmpYes A hx rfl rfl (Jvm.hb hb hd) rfl (XT.ii_ne_t hc) ho ht kk
theorem go_icmp_ne_f {o : Int} {x y : Int32} (hd : decode bytes pc = .ok (.if_icmp .ne o, 3)) (hp : pc + 3 = pc') (hc : x = y) (hr : Go l Z a0 EL n0 R own bytes maxL ret nm Q h sf ce sl pc' ls st) : Go l Z a0 EL n0 R own bytes maxL ret nm Q h sf ce sl pc ls (.int y :: .int x :: st) := by
  subst hp
  exact go_step hr fun A hx hb kk => XS.icmpNo A hx rfl (Jvm.hb hb hd) rfl (XT.ii_ne_f hc) kk
theorem go_if_ne_t {o : Int} {x : Int32} (hd : decode bytes pc = .ok (.ifCond .ne o, 3)) (ho : 0 ≤ (pc : Int) + o) (ht : ((pc : Int) + o).toNat = pt) (hc : ¬ x = 0) (hr : Go l Z a0 EL n0 R own bytes maxL ret nm Q h sf ce sl pt ls st) : Go l Z a0 EL n0 R own bytes maxL ret nm Q h sf ce sl pc ls (.int x :: st) := go_step hr fun A hx hb kk => XS.ifYes A hx rfl rfl (Jvm.hb hb hd) rfl (XT.i0_ne_t hc) ho ht kk
theorem go_if_ne_f {o : Int} {x : Int32} (hd : decode bytes pc = .ok (.ifCond .ne o, 3)) (hp : pc + 3 = pc') (hc : x = 0) (hr : Go l Z a0 EL n0 R own bytes maxL ret nm Q h sf ce sl pc' ls st) : Go l Z a0 EL n0 R own bytes maxL ret nm Q h sf ce sl pc ls (.int x :: st) := by
  subst hp
  exact go_step hr fun A hx hb kk => XS.ifNo A hx rfl (Jvm.hb hb hd) rfl (XT.i0_ne_f hc) kk
theorem go_icmp_lt_t {o : Int} {x y : Int32} (hd : decode bytes pc = .ok (.if_icmp .lt o, 3)) (ho : 0 ≤ (pc : Int) + o) (ht : ((pc : Int) + o).toNat = pt) (hc : x < y) (hr : Go l Z a0 EL n0 R own bytes maxL ret nm Q h sf ce sl pt ls st) : Go l Z a0 EL n0 R own bytes maxL ret nm Q h sf ce sl pc ls (.int y :: .int x :: st) := go_step hr fun A hx hb kk => XS.icmpYes A hx rfl rfl (Jvm.hb hb hd) rfl (XT.ii_lt_t hc) ho ht kk
theorem go_icmp_lt_f {o : Int} {x y : Int32} (hd : decode bytes pc = .ok (.if_icmp .lt o, 3)) (hp : pc + 3 = pc') (hc : ¬ x < y) (hr : Go l Z a0 EL n0 R own bytes maxL ret nm Q h sf ce sl pc' ls st) : Go l Z a0 EL n0 R own bytes maxL ret nm Q h sf ce sl pc ls (.int y :: .int x :: st) := by
  subst hp
  exact go_step hr fun A hx hb kk => XS.icmpNo A hx rfl (Jvm.hb hb hd) rfl (XT.ii_lt_f hc) kk
theorem go_if_lt_t {o : Int} {x : Int32} (hd : decode bytes pc = .ok (.ifCond .lt o, 3)) (ho : 0 ≤ (pc : Int) + o) (ht : ((pc : Int) + o).toNat = pt) (hc : x < 0) (hr : Go l Z a0 EL n0 R own bytes maxL ret nm Q h sf ce sl pt ls st) : Go l Z a0 EL n0 R own bytes maxL ret nm Q h sf ce sl pc ls (.int x :: st) := go_step hr fun A hx hb kk => XS.ifYes A hx rfl rfl (Jvm.hb hb hd) rfl (XT.i0_lt_t hc) ho ht kk
theorem go_if_lt_f {o : Int} {x : Int32} (hd : decode bytes pc = .ok (.ifCond .lt o, 3)) (hp : pc + 3 = pc') (hc : ¬ x < 0) (hr : Go l Z a0 EL n0 R own bytes maxL ret nm Q h sf ce sl pc' ls st) : Go l Z a0 EL n0 R own bytes maxL ret nm Q h sf ce sl pc ls (.int x :: st) := by
  subst hp
  exact go_step hr fun A hx hb kk => XS.ifNo A hx rfl (Jvm.hb hb hd) rfl (XT.i0_lt_f hc) kk
theorem go_icmp_ge_t {o : Int} {x y : Int32} (hd : decode bytes pc = .ok (.if_icmp .ge o, 3)) (ho : 0 ≤ (pc : Int) + o) (ht : ((pc : Int) + o).toNat = pt) (hc : ¬ x < y) (hr : Go l Z a0 EL n0 R own bytes maxL ret nm Q h sf ce sl pt ls st) : Go l Z a0 EL n0 R own bytes maxL ret nm Q h sf ce sl pc ls (.int y :: .int x :: st) := go_step hr fun A hx hb kk => XS.icmpYes A hx rfl rfl (Jvm.hb hb hd) rfl (XT.ii_ge_t hc) ho ht kk
theorem go_icmp_ge_f {o : Int} {x y : Int32} (hd : decode bytes pc = .ok (.if_icmp .ge o, 3)) (hp : pc + 3 = pc') (hc : x < y) (hr : Go l Z a0 EL n0 R own bytes maxL ret nm Q h sf ce sl pc' ls st) : Go l Z a0 EL n0 R own bytes maxL ret nm Q h sf ce sl pc ls (.int y :: .int x :: st) := by
  subst hp
  exact go_step hr fun A hx hb kk => XS.icmpNo A hx rfl (Jvm.hb hb hd) rfl (XT.ii_ge_f hc) kk
theorem go_if_ge_t {o : Int} {x : Int32} (hd : decode bytes pc = .ok (.ifCond .ge o, 3)) (ho : 0 ≤ (pc : Int) + o) (ht : ((pc : Int) + o).toNat = pt) (hc : ¬ x < 0) (hr : Go l Z a0 EL n0 R own bytes maxL ret nm Q h sf ce sl pt ls st) : Go l Z a0 EL n0 R own bytes maxL ret nm Q h sf ce sl pc ls (.int x :: st) := go_step hr fun A hx hb kk => XS.ifYes A hx rfl rfl (Jvm.hb hb hd) rfl (XT.i0_ge_t hc) ho ht kk
theorem go_if_ge_f {o : Int} {x : Int32} (hd : decode bytes pc = .ok (.ifCond .ge o, 3)) (hp : pc + 3 = pc') (hc : x < 0) (hr : Go l Z a0 EL n0 R own bytes maxL ret nm Q h sf ce sl pc' ls st) : Go l Z a0 EL n0 R own bytes maxL ret nm Q h sf ce sl pc ls (.int x :: st) := by
  subst hp
  exact go_step hr fun A hx hb kk => XS.ifNo A hx rfl (Jvm.hb hb hd) rfl (XT.i0_ge_f hc) kk
theorem go_icmp_gt_t {o : Int} {x y : Int32} (hd : decode bytes pc = .ok (.if_icmp .gt o, 3)) (ho : 0 ≤ (pc : Int) + o) (ht : ((pc : Int) + o).toNat = pt) (hc : y < x) (hr : Go l Z a0 EL n0 R own bytes maxL ret nm Q h sf ce sl pt ls st) : Go l Z a0 EL n0 R own bytes maxL ret nm Q h sf ce sl pc ls (.int y :: .int x :: st) := go_step hr fun A hx hb kk => XS.icmpYes A hx rfl rfl (Jvm.hb hb hd) rfl (XT.ii_gt_t hc) ho ht kk
theorem go_icmp_gt_f {o : Int} {x y : Int32} (hd : decode bytes pc = .ok (.if_icmp .gt o, 3)) (hp : pc + 3 = pc') (hc : ¬ y < x) (hr : Go l Z a0 EL n0 R own bytes maxL ret nm Q h sf ce sl pc' ls st) : Go l Z a0 EL n0 R own bytes maxL ret nm Q h sf ce sl pc ls (.int y :: .int x :: st) := by
  subst hp
  exact go_step hr fun A hx hb kk => XS.icmpNo A hx rfl (Jvm.hb hb hd) rfl (XT.ii_gt_f hc) kk
theorem go_if_gt_t {o : Int} {x : Int32} (hd : decode bytes pc = .ok (.ifCond .gt o, 3)) (ho : 0 ≤ (pc : Int) + o) (ht : ((pc : Int) + o).toNat = pt) (hc : 0 < x) (hr : Go l Z a0 EL n0 R own bytes maxL ret nm Q h sf ce sl pt ls st) : Go l Z a0 EL n0 R own bytes maxL ret nm Q h sf ce sl pc ls (.int x :: st) := go_step hr fun A hx hb kk => XS.ifYes A hx rfl rfl (Jvm.hb hb hd) rfl (XT.i0_gt_t hc) ho ht kk
theorem go_if_gt_f {o : Int} {x : Int32} (hd : decode bytes pc = .ok (.ifCond .gt o, 3)) (hp : pc + 3 = pc') (hc : ¬ 0 < x) (hr : Go l Z a0 EL n0 R own bytes maxL ret nm Q h sf ce sl pc' ls st) : Go l Z a0 EL n0 R own bytes maxL ret nm Q h sf ce sl pc ls (.int x :: st) := by
  subst hp
  exact go_step hr fun A hx hb kk => XS.ifNo A hx rfl (Jvm.hb hb hd) rfl (XT.i0_gt_f hc) kk
theorem go_icmp_le_t {o : Int} {x y : Int32} (hd : decode bytes pc = .ok (.if_icmp .le o, 3)) (ho : 0 ≤ (pc : Int) + o) (ht : ((pc : Int) + o).toNat = pt) (hc : ¬ y < x) (hr : Go l Z a0 EL n0 R own bytes maxL ret nm Q h sf ce sl pt ls st) : Go l Z a0 EL n0 R own bytes maxL ret nm Q h sf ce sl pc ls (.int y :: .int x :: st) := go_step hr fun A hx hb kk => XS.icmpYes A hx rfl rfl (Jvm.hb hb hd) rfl (XT.ii_le_t hc) ho ht kk
theorem go_icmp_le_f {o : Int} {x y : Int32} (hd : decode bytes pc = .ok (.if_icmp .le o, 3)) (hp : pc + 3 = pc') (hc : y < x) (hr : Go l Z a0 EL n0 R own bytes maxL ret nm Q h sf ce sl pc' ls st) : Go l Z a0 EL n0 R own bytes maxL ret nm Q h sf ce sl pc ls (.int y :: .int x :: st) := by
  subst hp
  exact go_step hr fun A hx hb kk => XS.icmpNo A hx rfl (Jvm.hb hb hd) rfl (XT.ii_le_f hc) kk
theorem go_if_le_t {o : Int} {x : Int32} (hd : decode bytes pc = .ok (.ifCond .le o, 3)) (ho : 0 ≤ (pc : Int) + o) (ht : ((pc : Int) + o).toNat = pt) (hc : ¬ 0 < x) (hr : Go l Z a0 EL n0 R own bytes maxL ret nm Q h sf ce sl pt ls st) : Go l Z a0 EL n0 R own bytes maxL ret nm Q h sf ce sl pc ls (.int x :: st) := go_step hr fun A hx hb kk => XS.ifYes A hx rfl rfl (Jvm.hb hb hd) rfl (XT.i0_le_t hc) ho ht kk
theorem go_if_le_f {o : Int} {x : Int32} (hd : decode bytes pc = .ok (.ifCond .le o, 3)) (hp : pc + 3 = pc') (hc : 0 < x) (hr : Go l Z a0 EL n0 R own bytes maxL ret nm Q h sf ce sl pc' ls st) : Go l Z a0 EL n0 R own bytes maxL ret nm Q h sf ce sl pc ls (.int x :: st) := by
  subst hp
  exact go_step hr fun A hx hb kk => XS.ifNo A hx rfl (Jvm.hb hb hd) rfl (XT.i0_le_f hc) kk
theorem go_ifnull_t {o : Int} (hd : decode bytes pc = .ok (.ifnull o, 3)) (ho : 0 ≤ (pc : Int) + o) (ht : ((pc : Int) + o).toNat = pt) (hr : Go l Z a0 EL n0 R own bytes maxL ret nm Q h sf ce sl pt ls st) : Go l Z a0 EL n0 R own bytes maxL ret nm Q h sf ce sl pc ls (.null :: st) := go_step hr fun A hx hb kk => XS.ifnullYes A hx rfl rfl (Jvm.hb hb hd) rfl ho ht kk
theorem go_ifnull_f {o : Int} {b : Addr} (hd : decode bytes pc = .ok (.ifnull o, 3)) (hp : pc + 3 = pc') (hr : Go l Z a0 EL n0 R own bytes maxL ret nm Q h sf ce sl pc' ls st) : Go l Z a0 EL n0 R own bytes maxL ret nm Q h sf ce sl pc ls (.ref b :: st) := by
  subst hp
  exact go_step hr fun A hx hb kk => XS.ifnullNo A hx rfl (Jvm.hb hb hd) rfl kk
theorem go_ifnonnull_t {o : Int} {b : Addr} (hd : decode bytes pc = .ok (.ifnonnull o, 3)) (ho : 0 ≤ (pc : Int) + o) (ht : ((pc : Int) + o).toNat = pt) (hr : Go l Z a0 EL n0 R own bytes maxL ret nm Q h sf ce sl pt ls st) : Go l Z a0 EL n0 R own bytes maxL ret nm Q h sf ce sl pc ls (.ref b :: st) := go_step hr fun A hx hb kk => XT.ifnonnullYes A hx rfl rfl (Jvm.hb hb hd) rfl ho ht kk
theorem go_ifnonnull_f {o : Int} (hd : decode bytes pc = .ok (.ifnonnull o, 3)) (hp : pc + 3 = pc') (hr : Go l Z a0 EL n0 R own bytes maxL ret nm Q h sf ce sl pc' ls st) : Go l Z a0 EL n0 R own bytes maxL ret nm Q h sf ce sl pc ls (.null :: st) := by
  subst hp
  exact go_step hr fun A hx hb kk => XT.ifnonnullNo A hx rfl (Jvm.hb hb hd) rfl kk
theorem go_irem {x y : Int32} (hd : decode bytes pc = .ok (.irem, 1)) (hp : pc + 1 = pc') (hy : y ≠ 0) (hr : Go l Z a0 EL n0 R own bytes maxL ret nm Q h sf ce sl pc' ls (.int (x % y) :: st)) : Go l Z a0 EL n0 R own bytes maxL ret nm Q h sf ce sl pc ls (.int y :: .int x :: st) := by
  subst hp
  exact go_move hr fun {p e s m args below meth c T locs} X hx hby hml eT hZ ho hOld => ⟨T, X, eT, fun t kk => iremM X hx (g := mkF m pc ls (.int y :: .int x :: st)) rfl (Jvm.hb hby hd) rfl hy kk⟩
theorem go_acmp {cd : ACond} {x y : Value} {o : Int} (same : Bool) (hd : decode bytes pc = .ok (.if_acmp cd o, 3)) (h1 : x.isRef = true) (h2 : y.isRef = true) (hq : decide (x = y) = same) (ho : 0 ≤ (pc : Int) + o) (ht : pt = if acV cd same = true then ((pc : Int) + o).toNat else pc + 3) (hr : Go l Z a0 EL n0 R own bytes maxL ret nm Q h sf ce sl pt ls st) : Go l Z a0 EL n0 R own bytes maxL ret nm Q h sf ce sl pc ls (y :: x :: st) :=
  go_move hr fun {p e s m args below meth c T locs} X hx hby hml eT hZ ho' hOld => ⟨T, X, eT, fun t kk => RoadKit.acmp X hx (g := mkF m pc ls (y :: x :: st)) rfl h1 h2 rfl (Jvm.hb hby hd) rfl hq ho ht kk⟩
/-- a call by its contract -/
theorem go_call {R' : Room} {y : MethodName} {bY : ByteArray} {mY : Nat} {rY : Option FieldType} {as : List Value} {sfY : List Addr} {QY : Option Value → Heap → List Addr → Prop} {len W : Nat}
    (hC : Con l Z EL n0 y bY mY rY [] R' as.toArray h sfY QY) (hsf : ∀ x ∈ sfY, x ∈ sf) (wc : (Jvm.Cond.code y bY mY rY).before a0 Z = true) (wz : (Jvm.Cond.initialized y.cls).before a0 Z = true)
    (hf : R'.frames + 1 ≤ R.frames) (hl : W + (mY + 11) + R'.locals ≤ R.locals) (hc : ce + R'.cells ≤ R.cells) (hs : sl + R'.slots ≤ R.slots)
    (k : ∀ {p : Program} {e : Env} {s : State} {m : MethodId} {args : Array Value} {below : List Frame} {meth : Method} {c : Code} {T : State} {locs : List Loc} {Pre : Free.Pt → Array Value → Prop} {Post : Free.Pt → Array Value → Option Value → Free.Pt → Prop}, Stand p l e R s m args below meth c T locs ce sl → p.tables.exec = Jvm.exec → c.code = bytes → c.maxLocals = maxL → T.heap = h → Z.Warmed39 s.vm → s.vm.findClass own = some m.cls →
      BackS l R p e below s args y len W Pre Post → (∀ vm₁, s.WarmedH vm₁ → Pre ⟨T.setVm vm₁, locs, ce, sl⟩ as.toArray) →
      ∃ (v : Option Value) (vm₁ : Vm) (B : Free.Pt), s.WarmedH vm₁ ∧ Stand p l e R (s.setVm B.U.vm) m args below meth c B.U B.locs B.cells B.slots ∧ s.Since B.U.vm B.U.heap.size ∧ T.heap.size ≤ B.U.heap.size ∧ Post ⟨T.setVm vm₁, locs, ce, sl⟩ as.toArray v B ∧
        Steps p.tables e below (T.setTop (mkF m pc ls st)) (B.U.setTop (mkF m pc' ls (v.toList ++ rest))))
    (hr : ∀ v h' sf', QY v h' sf' → Go l Z a0 EL n0 R own bytes maxL ret nm Q h' (sf' ++ sf) (ce + R'.cells) (sl + R'.slots) pc' ls (v.toList ++ rest)) :
    Go l Z a0 EL n0 R own bytes maxL ret nm Q h sf ce sl pc ls st := by
  intro p e s m args below meth c T W'
  obtain ⟨⟨hx, hby, hml, hret, hnm, hlk, hEL, hOld⟩, vm0, locs, k0, X, eT, hS, hk, hZ, hown, N, C, O⟩ := W'
  have hB := back_of (p := p) (e := e) (s := s) (args := args) (below := below) (R := R) (W := W) (len := len) hC hZ wc wz hf hl hEL C.1 (O.sub hsf) hOld
  obtain ⟨v, vm₁, ⟨U, Lc, kc, nc⟩, -, X', hS', hg, ⟨L, sf', q, fr, ow, ol, e1, e2, e3, ch⟩, st'⟩ := k (s := s.setVm vm0) X hx hby hml eT hZ hown hB (fun vm₁ _ => ⟨rfl, eT, hc, hs⟩)
  obtain ⟨X2, hS2, hZ2, hown2⟩ := rebS (own := own) (Z := Z) hS (Nat.le_trans hk (Nat.le_of_eq (by rw [eT]))) X' hS' hg hZ hown
  dsimp only [Free.Pt.U, Free.Pt.locs, Free.Pt.cells, Free.Pt.slots] at X2 hS2 hZ2 hown2 q ow ol e1 e2 e3 ch st'
  subst e1 e2 e3
  obtain ⟨t, o, h1, h2⟩ := hr v U.heap sf' q p e s m args below meth c U ⟨⟨hx, hby, hml, hret, hnm, hlk, hEL, ol⟩, U.vm, locs ++ L, U.heap.size, X2, rfl, hS2, Nat.le_refl _, hZ2, hown2, N.app fr, C.trans ch, ow.app (O.mv ch)⟩
  exact ⟨t, o, st'.trans h1, h2⟩
theorem go_static {R' : Room} {y : MethodName} {bY : ByteArray} {mY : Nat} {rY : Option FieldType} {sfY : List Addr} {QY : Option Value → Heap → List Addr → Prop} {idx : Nat} (as rest : List Value) (W : Nat)
    (hd : decode bytes pc = .ok (.invokestatic idx, 3)) (hp : pc + 3 = pc') (w1 : (Jvm.Cond.methodLink own idx y).before a0 Z = true) (w2 : (Jvm.Cond.static y).before a0 Z = true) (wz : (Jvm.Cond.initialized y.cls).before a0 Z = true) (wc : (Jvm.Cond.code y bY mY rY).before a0 Z = true)
    (hC : Con l Z EL n0 y bY mY rY [] R' as.toArray h sfY QY) (hsf : ∀ x ∈ sfY, x ∈ sf) (hlen : ∀ sig, parseMethodDescriptor y.desc = some sig → as.length = sig.parameters.length) (hst : st = as.reverse ++ rest) (hsz : ls.size = maxL) (hW : (rest.map fun v => v.category).sum = W)
    (hy : y.cls ≠ "java/lang/invoke/MethodHandle" ∧ y.cls ≠ "java/lang/invoke/VarHandle")
    (hf : R'.frames + 1 ≤ R.frames) (hl : W + (mY + 11) + R'.locals ≤ R.locals) (hc : ce + R'.cells ≤ R.cells) (hs : sl + R'.slots ≤ R.slots)
    (hr : ∀ v h' sf', QY v h' sf' → Go l Z a0 EL n0 R own bytes maxL ret nm Q h' (sf' ++ sf) (ce + R'.cells) (sl + R'.slots) pc' ls (v.toList ++ rest)) :
    Go l Z a0 EL n0 R own bytes maxL ret nm Q h sf ce sl pc ls st := by
  subst hp hst
  exact go_call (len := 3) (W := W) hC hsf wc wz hf hl hc hs (fun {p e s m args below meth c T locs Pre Post} X hx hby hml eT hZ ho hK hpre =>
    callSS X hx ho (mvT hZ w1) (mvT hZ w2) (mvT hZ wz) (mvT hZ wc) hy hK (g := mkF m pc ls (as.reverse ++ rest)) rfl (by rw [hml]; exact hsz) hlen rfl (by show 2 * 0 + (rest.map fun v => v.category).sum ≤ W; omega) (Jvm.hb hby hd) hpre) hr
theorem go_special {R' : Room} {y : MethodName} {bY : ByteArray} {mY : Nat} {sfY : List Addr} {QY : Option Value → Heap → List Addr → Prop} {idx : Nat} (a : Addr) (as rest : List Value) (W : Nat)
    (hd : decode bytes pc = .ok (.invokespecial idx, 3)) (hp : pc + 3 = pc') (hy1 : y.name = "<init>") (w1 : (Jvm.Cond.methodLink own idx y).before a0 Z = true) (w2 : (Jvm.Cond.instanceMethod y).before a0 Z = true) (wz : (Jvm.Cond.initialized y.cls).before a0 Z = true) (wc : (Jvm.Cond.code y bY mY none).before a0 Z = true)
    (hC : Con l Z EL n0 y bY mY none [] R' (.ref a :: as).toArray h sfY QY) (hsf : ∀ x ∈ sfY, x ∈ sf) (hlen : ∀ sig, parseMethodDescriptor y.desc = some sig → as.length = sig.parameters.length) (hst : st = as.reverse ++ .ref a :: rest) (hsz : ls.size = maxL) (hW : (rest.map fun v => v.category).sum = W)
    (hy : y.cls ≠ "java/lang/invoke/MethodHandle" ∧ y.cls ≠ "java/lang/invoke/VarHandle")
    (hf : R'.frames + 1 ≤ R.frames) (hl : W + (mY + 11) + R'.locals ≤ R.locals) (hc : ce + R'.cells ≤ R.cells) (hs : sl + R'.slots ≤ R.slots)
    (hr : ∀ v h' sf', QY v h' sf' → Go l Z a0 EL n0 R own bytes maxL ret nm Q h' (sf' ++ sf) (ce + R'.cells) (sl + R'.slots) pc' ls (v.toList ++ rest)) :
    Go l Z a0 EL n0 R own bytes maxL ret nm Q h sf ce sl pc ls st := by
  subst hp hst
  exact go_call (len := 3) (W := W) hC hsf wc wz hf hl hc hs (fun {p e s m args below meth c T locs Pre Post} X hx hby hml eT hZ ho hK hpre =>
    Stand.specialBackS X hx hy1 ho (mvT hZ w1) (mvT hZ w2) (mvT hZ wc) hy hK (g := mkF m pc ls (as.reverse ++ .ref a :: rest)) rfl (by rw [hml]; exact hsz) (Steps.refl _) hlen rfl (by show 2 * 0 + (rest.map fun v => v.category).sum ≤ W; omega) (Jvm.hb hby hd) hpre) hr
theorem go_virtual {R' : Room} {y z : MethodName} {bY : ByteArray} {mY : Nat} {rY : Option FieldType} {sfY : List Addr} {QY : Option Value → Heap → List Addr → Prop} {idx : Nat} {C : String} (a : Addr) (as rest : List Value) (W : Nat)
    (hd : decode bytes pc = .ok (.invokevirtual idx, 3)) (hp : pc + 3 = pc') (E : Exa Z h a C) (w1 : (Jvm.Cond.methodLink own idx y).before a0 Z = true) (w2 : (Jvm.Cond.declares y).before a0 Z = true) (hnf : ∀ {s : State}, Z.Warmed39 s.vm → NotFace s y) (w3 : (Jvm.Cond.selects C y z).before a0 Z = true) (w4 : (Jvm.Cond.instanceMethod z).before a0 Z = true) (wz : (Jvm.Cond.initialized z.cls).before a0 Z = true) (wc : (Jvm.Cond.code z bY mY rY).before a0 Z = true)
    (hC : Con l Z EL n0 z bY mY rY [] R' (.ref a :: as).toArray h sfY QY) (hsf : ∀ x ∈ sfY, x ∈ sf) (hlen : ∀ sig, parseMethodDescriptor y.desc = some sig → as.length = sig.parameters.length) (hst : st = as.reverse ++ .ref a :: rest) (hsz : ls.size = maxL) (hW : (rest.map fun v => v.category).sum = W)
    (hy : y.cls ≠ "java/lang/invoke/MethodHandle" ∧ y.cls ≠ "java/lang/invoke/VarHandle")
    (hf : R'.frames + 1 ≤ R.frames) (hl : W + (mY + 11) + R'.locals ≤ R.locals) (hc : ce + R'.cells ≤ R.cells) (hs : sl + R'.slots ≤ R.slots)
    (hr : ∀ v h' sf', QY v h' sf' → Go l Z a0 EL n0 R own bytes maxL ret nm Q h' (sf' ++ sf) (ce + R'.cells) (sl + R'.slots) pc' ls (v.toList ++ rest)) :
    Go l Z a0 EL n0 R own bytes maxL ret nm Q h sf ce sl pc ls st := by
  subst hp hst
  exact go_call (len := 3) (W := W) hC hsf wc wz hf hl hc hs (fun {p e s m args below meth c T locs Pre Post} X hx hby hml eT hZ ho hK hpre => by
    obtain ⟨cB, kB, q1, q2, q3⟩ := isOf hZ eT E
    exact Stand.virtualBackS X hx ho (mvT hZ w1) (mvT hZ w2) (hnf hZ) (mvT hZ w3) (mvT hZ w4) hy hK q1 q3 (g := mkF m pc ls (as.reverse ++ .ref a :: rest)) rfl (by rw [hml]; exact hsz) (Steps.refl _) hlen rfl (by show 2 * 0 + (rest.map fun v => v.category).sum ≤ W; omega) (Jvm.hb hby hd) hpre) hr
theorem nf_of {y : MethodName} {C : String} (w : (Jvm.Cond.selects C y y).before a0 Z = true) : ∀ {s : State}, Z.Warmed39 s.vm → NotFace s y := fun hZ => notFace_of_selects (args := #[]) (mvT hZ w)
theorem go_iface {R' : Room} {y xi : MethodName} {bY : ByteArray} {mY : Nat} {rY : Option FieldType} {sfY : List Addr} {QY : Option Value → Heap → List Addr → Prop} {idx cnt : Nat} {C : String} (a : Addr) (as rest : List Value) (W : Nat)
    (hd : decode bytes pc = .ok (.invokeinterface idx cnt, 5)) (hp : pc + 5 = pc') (E : Exa Z h a C) (w1 : (Jvm.Cond.methodLink own idx xi).before a0 Z = true) (w2 : (Jvm.Cond.declares xi).before a0 Z = true) (w3 : (Jvm.Cond.interfaceMethod xi.cls xi.cls xi.name xi.desc).before a0 Z = true) (w3k : ((Jvm.Cond.interfaceMethod xi.cls xi.cls xi.name xi.desc).onTables && (Jvm.Cond.interfaceMethod xi.cls xi.cls xi.name xi.desc).keepsFace) = true) (w4 : (Jvm.Cond.selects C xi y).before a0 Z = true) (w5 : (Jvm.Cond.instanceMethod y).before a0 Z = true) (w6 : (Jvm.Cond.publicMethod y).before a0 Z = true) (w7 : (Jvm.Cond.unhidden C xi.name xi.desc).before a0 Z = true) (w8 : (Jvm.Cond.castable C xi.cls).before a0 Z = true) (wz : (Jvm.Cond.initialized y.cls).before a0 Z = true) (wc : (Jvm.Cond.code y bY mY rY).before a0 Z = true)
    (hC : Con l Z EL n0 y bY mY rY [] R' (.ref a :: as).toArray h sfY QY) (hsf : ∀ x ∈ sfY, x ∈ sf) (hlen : ∀ sig, parseMethodDescriptor xi.desc = some sig → as.length = sig.parameters.length) (hst : st = as.reverse ++ .ref a :: rest) (hsz : ls.size = maxL) (hW : (rest.map fun v => v.category).sum = W)
    (hy : xi.cls ≠ "java/lang/invoke/MethodHandle" ∧ xi.cls ≠ "java/lang/invoke/VarHandle")
    (hf : R'.frames + 1 ≤ R.frames) (hl : W + (mY + 11) + R'.locals ≤ R.locals) (hc : ce + R'.cells ≤ R.cells) (hs : sl + R'.slots ≤ R.slots)
    (hr : ∀ v h' sf', QY v h' sf' → Go l Z a0 EL n0 R own bytes maxL ret nm Q h' (sf' ++ sf) (ce + R'.cells) (sl + R'.slots) pc' ls (v.toList ++ rest)) :
    Go l Z a0 EL n0 R own bytes maxL ret nm Q h sf ce sl pc ls st := by
  subst hp hst
  exact go_call (len := 5) (W := W) hC hsf wc wz hf hl hc hs (fun {p e s m args below meth c T locs Pre Post} X hx hby hml eT hZ ho hK hpre => by
    obtain ⟨cB, kB, q1, q2, q3⟩ := isOf hZ eT E
    exact Stand.interfaceBackS X hx ho (mvT hZ w1) (mvT hZ w2) (mvT hZ w3 w3k) (mvT hZ w4) (mvT hZ w5) (mvT hZ w6) (mvT hZ w7) (mvT hZ w8) hy hK q1 q2 q3 (g := mkF m pc ls (as.reverse ++ .ref a :: rest)) rfl (by rw [hml]; exact hsz) (Steps.refl _) hlen rfl (by show 2 * 0 + (rest.map fun v => v.category).sum ≤ W; omega) (Jvm.hb hby hd) hpre) hr
theorem go_initO {idx : Nat} {a : Addr} (hd : decode bytes pc = .ok (.invokespecial idx, 3)) (hp : pc + 3 = pc') (w1 : (Jvm.Cond.methodLink own idx Lib.objectInit).before a0 Z = true) (w2 : (Jvm.Cond.instanceMethod Lib.objectInit).before a0 Z = true) (w3 : (Jvm.Cond.code Lib.objectInit ⟨#[0xb1]⟩ 1 none).before a0 Z = true)
    (hsz : ls.size = maxL) (hf : 1 ≤ R.frames) (W : Nat) (hW : (st.map fun v => v.category).sum = W) (hl : W + 12 ≤ R.locals) (hr : Go l Z a0 EL n0 R own bytes maxL ret nm Q h sf ce sl pc' ls st) :
    Go l Z a0 EL n0 R own bytes maxL ret nm Q h sf ce sl pc ls (.ref a :: st) := by
  subst hp
  exact go_move hr fun {p e s m args below meth c T locs} X hx hby hml eT hZ ho hOld => initO X hx hZ ho w1 w2 w3 eT (g := mkF m pc ls (.ref a :: st)) rfl (by rw [hml]; exact hsz) rfl (Jvm.hb hby hd) hf (W := W) (by show 2 * 0 + (st.map fun v => v.category).sum ≤ W; omega) hl
theorem go_getfield {idx : Nat} {R0 O f d : String} {a : Addr} {v : Value} (hd : decode bytes pc = .ok (.getfield idx, 3)) (hp : pc + 3 = pc') (w : (Jvm.Cond.fieldLink own idx R0 f d).before a0 Z = true) (via : Via Z R0 O f d) (F : Fld Z h a O f d v)
    (hr : Go l Z a0 EL n0 R own bytes maxL ret nm Q h sf ce sl pc' ls (v :: st)) : Go l Z a0 EL n0 R own bytes maxL ret nm Q h sf ce sl pc ls (.ref a :: st) := by
  subst hp
  exact go_move hr fun {p e s m args below meth c T locs} X hx hby hml eT hZ ho hOld => getF X hx hZ ho (host := "") (Or.inl w) via eT F (g := mkF m pc ls (.ref a :: st)) rfl rfl (Jvm.hb hby hd)
theorem go_getfieldN {idx : Nat} {R0 O f d host : String} {a : Addr} {v : Value} (hd : decode bytes pc = .ok (.getfield idx, 3)) (hp : pc + 3 = pc') (w : (Jvm.Cond.fieldLinkNest own idx R0 f d host).before a0 Z = true) (via : Via Z R0 O f d) (F : Fld Z h a O f d v)
    (hr : Go l Z a0 EL n0 R own bytes maxL ret nm Q h sf ce sl pc' ls (v :: st)) : Go l Z a0 EL n0 R own bytes maxL ret nm Q h sf ce sl pc ls (.ref a :: st) := by
  subst hp
  exact go_move hr fun {p e s m args below meth c T locs} X hx hby hml eT hZ ho hOld => getF X hx hZ ho (Or.inr w) via eT F (g := mkF m pc ls (.ref a :: st)) rfl rfl (Jvm.hb hby hd)
theorem go_getstatic {idx : Nat} {R0 O f d : String} {v : Value} (hd : decode bytes pc = .ok (.getstatic idx, 3)) (hp : pc + 3 = pc') (w : (Jvm.Cond.fieldLink own idx R0 f d).before a0 Z = true) (via : Via Z R0 O f d) (F : Sta Z Z.heap O f d v)
    (hr : Go l Z a0 EL n0 R own bytes maxL ret nm Q h sf ce sl pc' ls (v :: st)) : Go l Z a0 EL n0 R own bytes maxL ret nm Q h sf ce sl pc ls st := by
  subst hp
  exact go_move hr fun {p e s m args below meth c T locs} X hx hby hml eT hZ ho hOld => getS X hx hZ ho (host := "") w via eT (F.ext hOld.2) (g := mkF m pc ls st) rfl (Jvm.hb hby hd)
theorem go_checkcast {idx : Nat} {K : String} {a : Addr} (hd : decode bytes pc = .ok (.checkcast idx, 3)) (hp : pc + 3 = pc') (w : (Jvm.Cond.classLink own idx K).before a0 Z = true) (F : Ins Z h a K true)
    (hr : Go l Z a0 EL n0 R own bytes maxL ret nm Q h sf ce sl pc' ls (.ref a :: st)) : Go l Z a0 EL n0 R own bytes maxL ret nm Q h sf ce sl pc ls (.ref a :: st) := by
  subst hp
  exact go_move hr fun {p e s m args below meth c T locs} X hx hby hml eT hZ ho hOld => castY X hx hZ ho w eT F (g := mkF m pc ls (.ref a :: st)) rfl rfl (Jvm.hb hby hd)
theorem go_instY {idx : Nat} {K : String} {a : Addr} (hd : decode bytes pc = .ok (.instanceof idx, 3)) (hp : pc + 3 = pc') (w : (Jvm.Cond.classLink own idx K).before a0 Z = true) (F : Ins Z h a K true)
    (hr : Go l Z a0 EL n0 R own bytes maxL ret nm Q h sf ce sl pc' ls (.int 1 :: st)) : Go l Z a0 EL n0 R own bytes maxL ret nm Q h sf ce sl pc ls (.ref a :: st) := by
  subst hp
  exact go_move hr fun {p e s m args below meth c T locs} X hx hby hml eT hZ ho hOld => instY X hx hZ ho w eT F (g := mkF m pc ls (.ref a :: st)) rfl rfl (Jvm.hb hby hd)
theorem go_instNo {idx : Nat} {K C : String} {a : Addr} (hd : decode bytes pc = .ok (.instanceof idx, 3)) (hp : pc + 3 = pc') (w : (Jvm.Cond.classLink own idx K).before a0 Z = true) (E : Exa Z h a C) (F : ∃ c t, Z.vm.findClass C = some c ∧ Z.vm.findClass K = some t ∧ Z.vm.assignable c t = false)
    (hr : Go l Z a0 EL n0 R own bytes maxL ret nm Q h sf ce sl pc' ls (.int 0 :: st)) : Go l Z a0 EL n0 R own bytes maxL ret nm Q h sf ce sl pc ls (.ref a :: st) := by
  subst hp
  exact go_move hr fun {p e s m args below meth c T locs} X hx hby hml eT hZ ho hOld => instNo X hx hZ ho w eT E F (g := mkF m pc ls (.ref a :: st)) rfl rfl (Jvm.hb hby hd)
theorem go_ldcI {idx : Nat} {v : Int32} (hd : decode bytes pc = .ok (.ldc idx, 2)) (hp : pc + 2 = pc') (w : (Jvm.Cond.constant own idx v).before a0 Z = true)
    (hr : Go l Z a0 EL n0 R own bytes maxL ret nm Q h sf ce sl pc' ls (.int v :: st)) : Go l Z a0 EL n0 R own bytes maxL ret nm Q h sf ce sl pc ls st := by
  subst hp
  exact go_move hr fun {p e s m args below meth c T locs} X hx hby hml eT hZ ho hOld => ⟨T, X, eT, fun t k => Stand.ldcI X hx ho (mvT hZ w) (g := mkF m pc ls st) rfl (Jvm.hb hby hd) k⟩
theorem go_ldc2J {idx : Nat} {v : Int64} (hd : decode bytes pc = .ok (.ldc2_w idx, 3)) (hp : pc + 3 = pc') (w : (Jvm.Cond.constantLong own idx v).before a0 Z = true)
    (hr : Go l Z a0 EL n0 R own bytes maxL ret nm Q h sf ce sl pc' ls (.long v :: st)) : Go l Z a0 EL n0 R own bytes maxL ret nm Q h sf ce sl pc ls st := by
  subst hp
  exact go_move hr fun {p e s m args below meth c T locs} X hx hby hml eT hZ ho hOld => ⟨T, X, eT, fun t k => Stand.ldc2J X hx ho (mvT hZ w) (g := mkF m pc ls st) rfl (Jvm.hb hby hd) k⟩
/-- ldc of a String constant, opaque -/
theorem go_ldcO {idx : Nat} {text : String} (n : Nat) (hd : decode bytes pc = .ok (.ldc idx, 2)) (hp : pc + 2 = pc') (w : (Jvm.Cond.stringLink own idx text).before a0 Z = true) (wS : ∀ a ∈ Bundle.stringAtoms, a.before a0 Z = true) (hn : 4 * text.toList.length ≤ n) (hbig : n ≤ 536870912) (hc : ce + 2 ≤ R.cells) (hs : sl + (n + 4) ≤ R.slots)
    (hr : ∀ h' a, Ext h h' → Go l Z a0 EL n0 R own bytes maxL ret nm Q h' sf (ce + 2) (sl + (n + 4)) pc' ls (.ref a :: st)) : Go l Z a0 EL n0 R own bytes maxL ret nm Q h sf ce sl pc ls st := by
  subst hp
  intro p e s m args below meth c T W'
  obtain ⟨⟨hx, hby, hml, hret, hnm, hlk, hEL, hOld⟩, vm0, locs, k0, X, eT, hS, hk, hZ, hown, N, C, O⟩ := W'
  obtain ⟨a, T', h', k1, X', e', E, hS', hk', hZ', hown', ch, -, st'⟩ := ldcOH X hx hZ hown w wS eT hS hk hEL C.1 (g := mkF m pc ls st) rfl (Jvm.hb hby hd) hn hbig hc hs
  obtain ⟨t, o, h1, h2⟩ := hr h' a E p e s m args below meth c T' ⟨⟨hx, hby, hml, hret, hnm, hlk, hEL, hOld.ext E⟩, T'.vm, locs, k1, X', e', hS', hk', hZ', hown', N, C.trans ch, O.mv ch⟩
  exact ⟨t, o, st' _ h1, h2⟩
/-- ldc of a String constant of EL, read -/
theorem go_ldcT {idx : Nat} {text : String} (n : Nat) (z : Int32) (vs : List Value) (hd : decode bytes pc = .ok (.ldc idx, 2)) (hp : pc + 2 = pc') (w : (Jvm.Cond.stringLink own idx text).before a0 Z = true) (wS : ∀ a ∈ Bundle.stringAtoms, a.before a0 Z = true) (hmem : (own, idx) ∈ EL)
    (ht : (∀ c ∈ text.toList, c.toNat < 256) ∧ text.toList.map (fun c => Value.int (Jvm.Lit.byteI c.toNat.toUInt16)) = vs) (hz : ¬ z < 0) (hl : z.toNatClampNeg = vs.length) (hn : 4 * text.toList.length ≤ n) (hbig : n ≤ 536870912) (hc : ce + 2 ≤ R.cells) (hs : sl + (n + 4) ≤ R.slots)
    (hr : ∀ h' a b k, Ext h h' → Exa Z h' a "java/lang/String" → Fld Z h' a "java/lang/String" "coder" "B" (.int 0) → Fld Z h' a "java/lang/String" "value" "[B" (.ref b) → Arv Z h' b k .byte z vs (.int 0) → (∀ x ∈ sf, x ≠ a ∧ x ≠ b) →
      Go l Z a0 EL n0 R own bytes maxL ret nm Q h' sf (ce + 2) (sl + (n + 4)) pc' ls (.ref a :: st)) : Go l Z a0 EL n0 R own bytes maxL ret nm Q h sf ce sl pc ls st := by
  subst hp
  intro p e s m args below meth c T W'
  obtain ⟨⟨hx, hby, hml, hret, hnm, hlk, hEL, hOld⟩, vm0, locs, k0, X, eT, hS, hk, hZ, hown, N, C, O⟩ := W'
  obtain ⟨a, T', h', k1, b, k, X', e', E, hS', hk', hZ', hown', f1, f2, f3, f4, -, -, ch, -, hne, st'⟩ := ldcCH X hx hZ hown w wS eT hS hk hEL hmem C.1 ht hz hl (g := mkF m pc ls st) rfl (Jvm.hb hby hd) hn hbig hc hs
  have O' := O.mv ch
  obtain ⟨t, o, h1, h2⟩ := hr h' a b k E f1 f2 f3 f4 (fun x q => hne x (O' x q).2.2) p e s m args below meth c T' ⟨⟨hx, hby, hml, hret, hnm, hlk, hEL, hOld.ext E⟩, T'.vm, locs, k1, X', e', hS', hk', hZ', hown', N, C.trans ch, O'⟩
  exact ⟨t, o, st' _ h1, h2⟩
theorem go_new {idx n : Nat} {C : String} (hd : decode bytes pc = .ok (.new idx, 3)) (hp : pc + 3 = pc') (w : (Jvm.Cond.classLink own idx C).before a0 Z = true) (wi : (Jvm.Cond.instantiable C n).before a0 Z = true) (wz : (Jvm.Cond.initialized C).before a0 Z = true) (hc : ce + 1 ≤ R.cells) (hs : sl + n ≤ R.slots)
    (hr : ∀ h' x, x = h.size → Ext h h' → (Exa Z h' x C ∧ ∀ {O f d : String} {ty : FieldType}, Laid Z a0 C O f d → parseFieldDescriptor d = some ty → Fld Z h' x O f d (defaultValue ty)) →
      Go l Z a0 EL n0 R own bytes maxL ret nm Q h' (x :: sf) (ce + 1) (sl + n) pc' ls (.ref x :: st)) : Go l Z a0 EL n0 R own bytes maxL ret nm Q h sf ce sl pc ls st := by
  subst hp
  refine go_make (P := fun h' x => Exa Z h' x C ∧ ∀ {O f d : String} {ty : FieldType}, Laid Z a0 C O f d → parseFieldDescriptor d = some ty → Fld Z h' x O f d (defaultValue ty)) (fun {p e s m args below meth c T locs} X hx hby hml eT hZ ho => ?_) hr
  obtain ⟨T', h', X', e', E, A, D, -, st'⟩ := newO X hx hZ ho w wi wz eT (g := mkF m pc ls st) rfl (Jvm.hb hby hd) hc hs
  exact ⟨T', h', X', e', E, A.lt, ⟨A, D⟩, st'⟩
theorem go_newarr {aty : ArrayType} {n : Int32} {ty : FieldType} {ad : String} (cap : Nat) (hd : decode bytes pc = .ok (.newarray aty, 2)) (hp : pc + 2 = pc') (hty : newarray.typeOf aty = ty) (w : (Jvm.Cond.arrayClass ty).before a0 Z = true) (hn : ¬ n < 0) (hcap : n.toNatClampNeg ≤ cap) (hb : cap * 8 ≤ 536870912) (had : "[" ++ ty.toString = ad) (hc : ce + 1 ≤ R.cells) (hs : sl + cap ≤ R.slots)
    (hr : ∀ h' x, x = h.size → Ext h h' → (Exa Z h' x ad ∧ ∃ k, Arv Z h' x k ty n [] (defaultValue ty)) → Go l Z a0 EL n0 R own bytes maxL ret nm Q h' (x :: sf) (ce + 1) (sl + cap) pc' ls (.ref x :: st)) :
    Go l Z a0 EL n0 R own bytes maxL ret nm Q h sf ce sl pc ls (.int n :: st) := by
  subst hp hty
  refine go_make (P := fun h' x => Exa Z h' x ad ∧ ∃ k, Arv Z h' x k (newarray.typeOf aty) n [] (defaultValue (newarray.typeOf aty))) (fun {p e s m args below meth c T locs} X hx hby hml eT hZ ho => ?_) hr
  obtain ⟨T', h', cA, X', e', E, A, F, st'⟩ := newPE X hx hZ w eT (g := mkF m pc ls (.int n :: st)) rfl (Jvm.hb hby hd) rfl hn hcap hb hc hs had
  exact ⟨T', h', X', e', E, A.lt, ⟨F, cA, Arv.new A hn⟩, st'⟩
theorem go_putfield {idx kk : Nat} {R0 O f d C : String} {a : Addr} {v old : Value} {ty : FieldType} (hd : decode bytes pc = .ok (.putfield idx, 3)) (hp : pc + 3 = pc') (w : (Jvm.Cond.fieldLink own idx R0 f d).before a0 Z = true) (via : Via Z R0 O f d) (F : Fld Z h a O f d old) (E : Exa Z h a C)
    (L : (Jvm.Cond.lays C O f d).before a0 Z = true ∨ ((Jvm.Cond.laysFinal C O f d).before a0 Z = true ∧ own = O ∧ nm = "<init>")) (wi : (Jvm.Cond.instantiable C kk).before a0 Z = true) (hty : parseFieldDescriptor d = some ty) (hn : narrow ty v = v) (hfit : fits ty v = true) (hm : a ∈ sf)
    (hr : ∀ h', Wr h h' a (RoadKit.slotOf Z O f d) v → Go l Z a0 EL n0 R own bytes maxL ret nm Q h' sf ce sl pc' ls st) : Go l Z a0 EL n0 R own bytes maxL ret nm Q h sf ce sl pc ls (v :: .ref a :: st) := by
  subst hp
  exact go_write hm (fun {p e s m args below meth c T locs} X hx hby hnm eT hZ ho => putF X hx hZ ho (host := "") (Or.inl w) via eT F E (L.imp id fun q => ⟨q.1, q.2.1, by rw [hnm]; exact q.2.2⟩) wi hty hn hfit (g := mkF m pc ls (v :: .ref a :: st)) rfl rfl (Jvm.hb hby hd)) hr
/-- a char, byte, int or boolean into an array at hand -/
theorem go_castore {a : Addr} {k : ClassId} {z j v : Int32} {vs : List Value} {dv : Value} (i : Nat) (v' : Int32) (hd : decode bytes pc = .ok (.castore, 1)) (hp : pc + 1 = pc') (hnv : nar .char v = v') (F : Arv Z h a k .char z vs dv) (hj : ¬ j < 0 ∧ j < z) (hi : j.toNatClampNeg = i) (hl : i < vs.length) (hm : a ∈ sf)
    (hr : ∀ h', Wr h h' a j.toNatClampNeg (.int v') → Arv Z h' a k .char z (vs.set i (.int v')) dv → Go l Z a0 EL n0 R own bytes maxL ret nm Q h' sf ce sl pc' ls st) : Go l Z a0 EL n0 R own bytes maxL ret nm Q h sf ce sl pc ls (.int v :: .int j :: .ref a :: st) := by
  subst hp hnv
  obtain ⟨cl, A, q1, S, q3, H, G⟩ := F
  exact go_write hm (fun {p e s m args below meth c T locs} X hx hby hnm eT hZ ho => stC X hx hZ eT A (inb_of S hj) (g := mkF m pc ls (.int v :: .int j :: .ref a :: st)) rfl rfl (Jvm.hb hby hd)) (fun h' W => hr h' W (Arv.set A q1 S q3 H G (fits_nar_char v) W i hi hl))
theorem go_bastore {a : Addr} {k : ClassId} {z j v : Int32} {vs : List Value} {dv : Value} (i : Nat) (hd : decode bytes pc = .ok (.bastore, 1)) (hp : pc + 1 = pc') (F : Arv Z h a k .byte z vs dv) (hj : ¬ j < 0 ∧ j < z) (hi : j.toNatClampNeg = i) (hl : i < vs.length) (hm : a ∈ sf)
    (hr : ∀ h', Wr h h' a j.toNatClampNeg (.int v.toInt8.toInt32) → Arv Z h' a k .byte z (vs.set i (.int v.toInt8.toInt32)) dv → Go l Z a0 EL n0 R own bytes maxL ret nm Q h' sf ce sl pc' ls st) : Go l Z a0 EL n0 R own bytes maxL ret nm Q h sf ce sl pc ls (.int v :: .int j :: .ref a :: st) := by
  subst hp
  obtain ⟨cl, A, q1, S, q3, H, G⟩ := F
  exact go_write hm (fun {p e s m args below meth c T locs} X hx hby hnm eT hZ ho => stB X hx hZ eT A (inb_of S hj) (g := mkF m pc ls (.int v :: .int j :: .ref a :: st)) rfl rfl (Jvm.hb hby hd)) (fun h' W => hr h' W (Arv.set A q1 S q3 H G (fits_nar_byte v) W i hi hl))
theorem go_iastore {a : Addr} {k : ClassId} {z j v : Int32} {vs : List Value} {dv : Value} (i : Nat) (hd : decode bytes pc = .ok (.iastore, 1)) (hp : pc + 1 = pc') (F : Arv Z h a k .int z vs dv) (hj : ¬ j < 0 ∧ j < z) (hi : j.toNatClampNeg = i) (hl : i < vs.length) (hm : a ∈ sf)
    (hr : ∀ h', Wr h h' a j.toNatClampNeg (.int v) → Arv Z h' a k .int z (vs.set i (.int v)) dv → Go l Z a0 EL n0 R own bytes maxL ret nm Q h' sf ce sl pc' ls st) : Go l Z a0 EL n0 R own bytes maxL ret nm Q h sf ce sl pc ls (.int v :: .int j :: .ref a :: st) := by
  subst hp
  obtain ⟨cl, A, q1, S, q3, H, G⟩ := F
  exact go_write hm (fun {p e s m args below meth c T locs} X hx hby hnm eT hZ ho => stI X hx hZ eT A (inb_of S hj) (g := mkF m pc ls (.int v :: .int j :: .ref a :: st)) rfl rfl (Jvm.hb hby hd)) (fun h' W => hr h' W (Arv.set A q1 S q3 H G rfl W i hi hl))
theorem go_alen {a : Addr} {k : ClassId} {ty : FieldType} {z : Int32} {vs : List Value} {dv : Value} (hd : decode bytes pc = .ok (.arraylength, 1)) (hp : pc + 1 = pc') (F : Arv Z h a k ty z vs dv)
    (hr : Go l Z a0 EL n0 R own bytes maxL ret nm Q h sf ce sl pc' ls (.int z :: st)) : Go l Z a0 EL n0 R own bytes maxL ret nm Q h sf ce sl pc ls (.ref a :: st) := by
  subst hp
  obtain ⟨cl, A, q1, S, q3, H, G⟩ := F
  refine go_move hr fun {p e s m args below meth c T locs} X hx hby hml eT hZ ho hOld => ⟨T, X, eT, fun t kk => ?_⟩
  refine X.arraylength hx (by rw [eT]; exact A.1) (State.isArrayOf_alike hZ.alike A.2.1) (g := mkF m pc ls (.ref a :: st)) rfl rfl (Jvm.hb hby hd) t ?_
  rw [len_of S q3]
  exact kk
theorem go_caload {a : Addr} {k : ClassId} {z j : Int32} {vs : List Value} {dv v : Value} (i : Nat) (hd : decode bytes pc = .ok (.caload, 1)) (hp : pc + 1 = pc') (F : Arv Z h a k .char z vs dv) (hj : ¬ j < 0 ∧ j < z) (hi : j.toNatClampNeg = i) (hv : vs.getD i dv = v)
    (hr : Go l Z a0 EL n0 R own bytes maxL ret nm Q h sf ce sl pc' ls (v :: st)) : Go l Z a0 EL n0 R own bytes maxL ret nm Q h sf ce sl pc ls (.int j :: .ref a :: st) := by
  subst hp
  obtain ⟨cl, A, q1, S, q3, H, G⟩ := F
  exact go_move hr fun {p e s m args below meth c T locs} X hx hby hml eT hZ ho hOld => ⟨T, X, eT, fun t kk =>
    X.caload hx (by rw [eT]; exact A.1) (State.isArrayOf_alike hZ.alike A.2.1) A.2.2 (inb_of S hj) (H.at (inb_of S hj) (by rw [hi]; exact hv)) (g := mkF m pc ls (.int j :: .ref a :: st)) rfl rfl (Jvm.hb hby hd) t kk⟩
theorem go_iaload {a : Addr} {k : ClassId} {z j : Int32} {vs : List Value} {dv v : Value} (i : Nat) (hd : decode bytes pc = .ok (.iaload, 1)) (hp : pc + 1 = pc') (F : Arv Z h a k .int z vs dv) (hj : ¬ j < 0 ∧ j < z) (hi : j.toNatClampNeg = i) (hv : vs.getD i dv = v)
    (hr : Go l Z a0 EL n0 R own bytes maxL ret nm Q h sf ce sl pc' ls (v :: st)) : Go l Z a0 EL n0 R own bytes maxL ret nm Q h sf ce sl pc ls (.int j :: .ref a :: st) := by
  subst hp
  obtain ⟨cl, A, q1, S, q3, H, G⟩ := F
  exact go_move hr fun {p e s m args below meth c T locs} X hx hby hml eT hZ ho hOld => ⟨T, X, eT, fun t kk =>
    X.iaload hx (by rw [eT]; exact A.1) (State.isArrayOf_alike hZ.alike A.2.1) A.2.2 (inb_of S hj) (H.at (inb_of S hj) (by rw [hi]; exact hv)) (g := mkF m pc ls (.int j :: .ref a :: st)) rfl rfl (Jvm.hb hby hd) t kk⟩
theorem go_baload {a : Addr} {k : ClassId} {z j : Int32} {vs : List Value} {dv v : Value} (i : Nat) (hd : decode bytes pc = .ok (.baload, 1)) (hp : pc + 1 = pc') (F : Arv Z h a k .byte z vs dv) (hj : ¬ j < 0 ∧ j < z) (hi : j.toNatClampNeg = i) (hv : vs.getD i dv = v)
    (hr : Go l Z a0 EL n0 R own bytes maxL ret nm Q h sf ce sl pc' ls (v :: st)) : Go l Z a0 EL n0 R own bytes maxL ret nm Q h sf ce sl pc ls (.int j :: .ref a :: st) := by
  subst hp
  obtain ⟨cl, A, q1, S, q3, H, G⟩ := F
  exact go_move hr fun {p e s m args below meth c T locs} X hx hby hml eT hZ ho hOld => ⟨T, X, eT, fun t kk =>
    X.baloadBytes hx (by rw [eT]; exact A.1) (State.isArrayOf_alike hZ.alike A.2.1) A.2.2 (inb_of S hj) (H.at (inb_of S hj) (by rw [hi]; exact hv)) (g := mkF m pc ls (.int j :: .ref a :: st)) rfl rfl (Jvm.hb hby hd) t kk⟩
/-- returns -/
theorem go_ret (hd : decode bytes pc = .ok (.return_, 1)) (sf' : List Addr) (hret : ret = none) (hc : ce ≤ R.cells) (hs : sl ≤ R.slots) (hsub : ∀ x ∈ sf', x ∈ sf) (hq : Q none h sf') : Go l Z a0 EL n0 R own bytes maxL ret nm Q h sf ce sl pc ls [] :=
  go_out (fun _ => rfl) hc hs hsub (fun X hx hby hr hl => X.returnOut hx (hr.trans hret) (Jvm.hb hby hd) hl) hq
theorem go_retN {z : Int32} {t : FieldType} (hd : decode bytes pc = .ok (.ireturn, 1)) (sf' : List Addr) (hret : ret = some t) (ht : t = .boolean ∨ t = .byte ∨ t = .char ∨ t = .short) (hc : ce ≤ R.cells) (hs : sl ≤ R.slots) (hsub : ∀ x ∈ sf', x ∈ sf) (hq : Q (some (.int (nar t z))) h sf') : Go l Z a0 EL n0 R own bytes maxL ret nm Q h sf ce sl pc ls (.int z :: st) :=
  go_out (fun q => by rw [hret] at q; cases q) hc hs hsub (fun X hx hby hr hl => retN X hx (t := t) (hr.trans hret) ht (Jvm.hb hby hd) hl) hq
theorem go_retI {z : Int32} (hd : decode bytes pc = .ok (.ireturn, 1)) (sf' : List Addr) (hret : ret = some .int) (hc : ce ≤ R.cells) (hs : sl ≤ R.slots) (hsub : ∀ x ∈ sf', x ∈ sf) (hq : Q (some (.int z)) h sf') : Go l Z a0 EL n0 R own bytes maxL ret nm Q h sf ce sl pc ls (.int z :: st) :=
  go_out (fun q => by rw [hret] at q; cases q) hc hs hsub (fun X hx hby hr hl => retOut X hx (hr.trans hret) rfl (Or.inl ⟨rfl, Or.inl rfl, _, rfl⟩) (Jvm.hb hby hd) hl) hq
theorem go_retA {v : Value} {t : FieldType} (hd : decode bytes pc = .ok (.areturn, 1)) (sf' : List Addr) (hret : ret = some t) (ht : t.isReference = true) (hv : v.isRef = true) (hn : narrow t v = v) (hc : ce ≤ R.cells) (hs : sl ≤ R.slots) (hsub : ∀ x ∈ sf', x ∈ sf) (hq : Q (some v) h sf') : Go l Z a0 EL n0 R own bytes maxL ret nm Q h sf ce sl pc ls (v :: st) :=
  go_out (fun q => by rw [hret] at q; cases q) hc hs hsub (fun X hx hby hr hl => retOut X hx (hr.trans hret) hn (Or.inr (Or.inr (Or.inr (Or.inr ⟨rfl, ht, hv⟩)))) (Jvm.hb hby hd) hl) hq
theorem ext_of_keep {h0 h1 : Heap} (K : Keep h0 h1 []) : Ext h0 h1 := ⟨K.1, fun a c q => K.2.1 a c q nin0⟩
theorem keep_of_ext {h0 h1 : Heap} (E : Ext h0 h1) (ws : List Addr) : Keep h0 h1 ws := (Keep.refl h0 ws).ext E
theorem go_instNull {idx : Nat} (hd : decode bytes pc = .ok (.instanceof idx, 3)) (hp : pc + 3 = pc') (hr : Go l Z a0 EL n0 R own bytes maxL ret nm Q h sf ce sl pc' ls (.int 0 :: st)) : Go l Z a0 EL n0 R own bytes maxL ret nm Q h sf ce sl pc ls (.null :: st) := by
  subst hp
  exact go_move hr fun {p e s m args below meth c T locs} X hx hby hml eT hZ ho hOld => ⟨T, X, eT, X.instanceofNull hx (g := mkF m pc ls (.null :: st)) rfl rfl (Jvm.hb hby hd)⟩
theorem go_castNull {idx : Nat} (hd : decode bytes pc = .ok (.checkcast idx, 3)) (hp : pc + 3 = pc') (hr : Go l Z a0 EL n0 R own bytes maxL ret nm Q h sf ce sl pc' ls (.null :: st)) : Go l Z a0 EL n0 R own bytes maxL ret nm Q h sf ce sl pc ls (.null :: st) := by
  subst hp
  exact go_move hr fun {p e s m args below meth c T locs} X hx hby hml eT hZ ho hOld => ⟨T, X, eT, X.checkcastNull hx (g := mkF m pc ls (.null :: st)) rfl rfl (Jvm.hb hby hd)⟩
/-- System.arraycopy of numbers into an owned array -/
theorem go_acopy {idx : Nat} {a b : Addr} {k k' : ClassId} {ty : FieldType} {z z' sp dp nn : Int32} {vs vd us : List Value} {dv dd : Value} (hd : decode bytes pc = .ok (.invokestatic idx, 3)) (hp : pc + 3 = pc') (w1 : (Jvm.Cond.methodLink own idx Jvm.Stand.acN).before a0 Z = true) (w2 : (Jvm.Cond.native Jvm.Stand.acN).before a0 Z = true) (w3 : (Jvm.Cond.static Jvm.Stand.acN).before a0 Z = true) (w4 : (Jvm.Cond.initialized "java/lang/System").before a0 Z = true)
    (A : Arv Z h a k ty z vs dv) (B : Arv Z h b k' ty z' vd dd) (hty : refKind ty = false) (h1 : ¬ sp < 0) (h2 : ¬ dp < 0) (h3 : ¬ nn < 0) (h4 : sp.toNatClampNeg + nn.toNatClampNeg ≤ z.toNatClampNeg) (h5 : dp.toNatClampNeg + nn.toNatClampNeg ≤ z'.toNatClampNeg)
    (hus : us = (List.range nn.toNatClampNeg).map fun i => vs.getD (sp.toNatClampNeg + i) dv) (hl : dp.toNatClampNeg + nn.toNatClampNeg ≤ vd.length) (hm : b ∈ sf) (hsz : ls.size = maxL) (hf : 1 ≤ R.frames) (W : Nat) (hW : (st.map fun v => v.category).sum = W) (hlo : W + (nativeFrameWords "java/lang/System" "arraycopy" 5 + 11) ≤ R.locals)
    (hr : ∀ h', Keep h h' [b] → Arv Z h' b k' ty z' (vd.take dp.toNatClampNeg ++ us ++ vd.drop (dp.toNatClampNeg + nn.toNatClampNeg)) dd → Go l Z a0 EL n0 R own bytes maxL ret nm Q h' sf ce sl pc' ls st) :
    Go l Z a0 EL n0 R own bytes maxL ret nm Q h sf ce sl pc ls (.int nn :: .int dp :: .ref b :: .int sp :: .ref a :: st) := by
  subst hp
  intro p e s m args below meth c T W'
  obtain ⟨⟨hx, hby, hml, hret, hnm, hlk, hEL, hOld⟩, vm0, locs, k0, X, eT, hS, hk, hZ, hown, N, C, O⟩ := W'
  obtain ⟨q1, q2, q3⟩ := O b hm
  obtain ⟨T', h', L, X', e', N', K, B', st'⟩ := cpA (s := s.setVm vm0) X hx hZ hown w1 w2 w3 w4 eT A B (Or.inl ⟨rfl, hty⟩) h1 h2 h3 h4 h5 hus hl N q2 (g := mkF m pc ls (.int nn :: .int dp :: .ref b :: .int sp :: .ref a :: st)) rfl (by rw [hml]; exact hsz) rfl (Jvm.hb hby hd) hf (W := W) (by show 2 * 0 + (st.map fun v => v.category).sum ≤ W; omega) hlo
  have A' := CHr.keep K (allS q3 all0) C.1
  obtain ⟨t, o, h1', h2'⟩ := hr h' K B' p e s m args below meth c T' ⟨⟨hx, hby, hml, hret, hnm, hlk, hEL, hOld.keep K (allS q2 all0)⟩, vm0, L, k0, X', e', hS, Nat.le_trans hk K.1, hZ, hown, N', C.trans A', O.mv A'⟩
  exact ⟨t, o, st' _ h1', h2'⟩
end Walk
def ELc : List (String × Nat) := []
def Base (Z : State) (a0 : Array Value) : Prop := (∀ d ∈ tables_1, d.before a0 Z = true) ∧ EW Z a0 ELc ∧ (∃ cz, Sta Z Z.heap "java/lang/String" "COMPACT_STRINGS" "Z" (.int cz) ∧ ¬ cz = 0) ∧ (Sta Z Z.heap "java/lang/StringUTF16" "$assertionsDisabled" "Z" (.int 1) ∧ Sta Z Z.heap "java/lang/StringUTF16" "HI_BYTE_SHIFT" "I" (.int 0) ∧ Sta Z Z.heap "java/lang/StringUTF16" "LO_BYTE_SHIFT" "I" (.int 8)) ∧ True
theorem wd {Z : State} {a0 : Array Value} {d : Jvm.Cond} (hB : Base Z a0) (k : Nat) (hk : tables_1[k]? = some d) : d.before a0 Z = true := hB.1 d (List.mem_of_getElem? hk)
theorem stA {Z : State} {a0 : Array Value} (hB : Base Z a0) : ∀ a ∈ Bundle.stringAtoms, a.before a0 Z = true := fun d hd => by
  simp only [Bundle.stringAtoms, List.mem_cons, List.not_mem_nil, or_false] at hd
  rcases hd with rfl | rfl | rfl | rfl | rfl | rfl | rfl
  · exact (wd hB 3 rfl)
  · exact (wd hB 2 rfl)
  · exact (wd hB 20 rfl)
  · exact (wd hB 30 rfl)
  · exact (wd hB 28 rfl)
  · exact (wd hB 81 rfl)
  · exact (wd hB 82 rfl)
theorem ofN_int {i : Nat} (h : i < 2147483648) : (Int32.ofNat i).toInt = i := Int32.toInt_ofNat_of_lt h
theorem ofN_lt {i n : Nat} (hi : i < n) (hn : n < 2147483648) : Int32.ofNat i < Int32.ofNat n := by
  rw [Int32.lt_iff_toInt_lt, ofN_int (by omega), ofN_int hn]; omega
theorem ofN_nlt {i n : Nat} (hi : n ≤ i) (hn : i < 2147483648) : ¬ Int32.ofNat i < Int32.ofNat n := by
  rw [Int32.lt_iff_toInt_lt, ofN_int hn, ofN_int (i := n) (by omega)]; omega
theorem ofN_nneg {i : Nat} (h : i < 2147483648) : ¬ Int32.ofNat i < 0 := by
  rw [Int32.lt_iff_toInt_lt, ofN_int h]; show ¬ (i : Int) < 0; omega
theorem ofN_cl {i : Nat} (h : i < 2147483648) : (Int32.ofNat i).toNatClampNeg = i := by
  have := ofN_int h; show (Int32.ofNat i).toInt.toNat = i; omega
theorem ofN_succ (i : Nat) : Int32.ofNat i + 1 = Int32.ofNat (i + 1) := by rw [Int32.ofNat_add]; rfl
theorem ofN_pos {i : Nat} (h0 : 0 < i) (h : i < 2147483648) : ¬ Int32.ofNat i = 0 := fun q => by
  have := ofN_int h; rw [q] at this; have h2 : (0 : Int32).toInt = 0 := rfl; omega
def lo8s (cs : List Int32) : List Value := cs.map fun c => Value.int c.toInt8.toInt32
theorem lo8s_len (cs : List Int32) : (lo8s cs).length = cs.length := by simp [lo8s]
theorem lo8s_set {cs : List Int32} {i j : Nat} {c : Int32} (hc : cs[i]? = some c) (hi : i + (j + 1) = cs.length) : (lo8s (cs.take i) ++ List.replicate (j + 1) (Value.int 0)).set i (Value.int c.toInt8.toInt32) = lo8s (cs.take (i + 1)) ++ List.replicate j (Value.int 0) := by
  have hl : (lo8s (cs.take i)).length = i := by rw [lo8s_len, List.length_take]; omega
  rw [List.set_append_right _ _ (by omega), hl, Nat.sub_self, List.replicate_succ, List.set_cons_zero, List.take_add_one, hc]
  simp [lo8s]
theorem map_at {cs : List Int32} {i : Nat} {c : Int32} (hc : cs[i]? = some c) : (cs.map Value.int).getD i (.int 0) = .int c := by simp [List.getD_eq_getElem?_getD, hc]
theorem at_of {cs : List Int32} {i : Nat} (h : i < cs.length) : ∃ c, cs[i]? = some c ∧ c ∈ cs := ⟨cs[i], List.getElem?_eq_getElem h, List.getElem_mem h⟩
theorem toBV_i8 (x : Int32) : x.toInt8.toInt32.toBitVec = (x.toBitVec.setWidth 8).signExtend 32 := by
  simp only [Int8.toBitVec_toInt32, Int32.toBitVec_toInt8]
  first | rw [BitVec.signExtend_eq_setWidth_of_le x.toBitVec (by omega)] | rw [BitVec.signExtend_eq_setWidth_of_lt x.toBitVec (by omega)] 
theorem sx8 (y : BitVec 8) : (y.signExtend 32).toNat % 256 = y.toNat := by
  rw [BitVec.toNat_signExtend]
  split <;> simp <;> omega
theorem lo8_and (x : Int32) : (x.toInt8.toInt32 &&& 255).toBitVec.toNat = x.toBitVec.toNat % 256 := by
  rw [Int32.toBitVec_and, BitVec.toNat_and]
  have e : (255 : Int32).toBitVec.toNat = 2 ^ 8 - 1 := by decide
  rw [e, Nat.and_two_pow_sub_one_eq_mod, toBV_i8]
  have := sx8 (x.toBitVec.setWidth 8)
  rw [BitVec.toNat_setWidth] at this
  exact this
theorem shl1 {i : Nat} (h : 2 * i < 2147483648) : Int32.ofNat i <<< ((1 : Int32) &&& 31) = Int32.ofNat (2 * i) := by
  have e : ((1 : Int32) &&& 31) = 1 := by decide
  rw [e]
  apply Int32.toBitVec_inj.mp
  apply BitVec.eq_of_toNat_eq
  have a1 : (Int32.ofNat i).toBitVec.toNat = i := by show (BitVec.ofNat 32 i).toNat = i; rw [BitVec.toNat_ofNat]; omega
  have a2 : (Int32.ofNat (2 * i)).toBitVec.toNat = 2 * i := by show (BitVec.ofNat 32 (2 * i)).toNat = 2 * i; rw [BitVec.toNat_ofNat]; omega
  rw [a2, Int32.toBitVec_shiftLeft]
  have e1 : ((1 : Int32).toBitVec.smod 32) = 1#32 := by decide
  rw [e1]
  show ((Int32.ofNat i).toBitVec <<< (1#32).toNat).toNat = 2 * i
  rw [BitVec.toNat_shiftLeft, a1]
  show (i <<< 1) % 2 ^ 32 = 2 * i
  rw [Nat.shiftLeft_eq]; omega
theorem shr0 (c : Int32) : c >>> ((0 : Int32) &&& 31) = c := by
  have e : ((0 : Int32) &&& 31) = 0 := by decide
  rw [e]
  apply Int32.toBitVec_inj.mp
  rw [Int32.toBitVec_shiftRight]
  have e1 : ((0 : Int32).toBitVec.smod 32) = 0#32 := by decide
  rw [e1]
  show c.toBitVec.sshiftRight (0#32).toNat = _
  simp
theorem shl0 (c : Int32) : c <<< ((0 : Int32) &&& 31) = c := by
  have e : ((0 : Int32) &&& 31) = 0 := by decide
  rw [e]
  apply Int32.toBitVec_inj.mp
  rw [Int32.toBitVec_shiftLeft]
  have e1 : ((0 : Int32).toBitVec.smod 32) = 0#32 := by decide
  rw [e1]
  show c.toBitVec <<< (0#32).toNat = _
  simp
theorem shl8_nat {x : Int32} (h : x.toBitVec.toNat < 256) : (x <<< ((8 : Int32) &&& 31)).toBitVec.toNat = x.toBitVec.toNat * 256 := by
  have e : ((8 : Int32) &&& 31) = 8 := by decide
  rw [e, Int32.toBitVec_shiftLeft]
  have e1 : ((8 : Int32).toBitVec.smod 32) = 8#32 := by decide
  rw [e1]
  show (x.toBitVec <<< (8#32).toNat).toNat = _
  rw [BitVec.toNat_shiftLeft]
  show (x.toBitVec.toNat <<< 8) % 2 ^ 32 = _
  rw [Nat.shiftLeft_eq]; omega
theorem shr1 {n : Nat} (h : 2 * n < 2147483648) : Int32.ofNat (2 * n) >>> ((1 : Int32) &&& 31) = Int32.ofNat n := by
  have e : ((1 : Int32) &&& 31) = 1 := by decide
  rw [e]
  apply Int32.toBitVec_inj.mp
  rw [Int32.toBitVec_shiftRight]
  have e1 : ((1 : Int32).toBitVec.smod 32) = 1#32 := by decide
  have a1 : (Int32.ofNat (2 * n)).toBitVec.toNat = 2 * n := by show (BitVec.ofNat 32 (2 * n)).toNat = 2 * n; rw [BitVec.toNat_ofNat]; omega
  have a2 : (Int32.ofNat n).toBitVec.toNat = n := by show (BitVec.ofNat 32 n).toNat = n; rw [BitVec.toNat_ofNat]; omega
  have hm : (Int32.ofNat (2 * n)).toBitVec.msb = false := by rw [BitVec.msb_eq_decide, a1]; simp; omega
  apply BitVec.eq_of_toNat_eq
  rw [e1]
  show ((Int32.ofNat (2 * n)).toBitVec.sshiftRight (1#32).toNat).toNat = _
  rw [BitVec.sshiftRight_eq_of_msb_false hm, BitVec.toNat_ushiftRight, a1, a2]
  show (2 * n) >>> 1 = n
  rw [Nat.shiftRight_eq_div_pow]; omega
theorem nat_of_int {c : Int32} (h : 0 ≤ c.toInt) : c.toInt = (c.toBitVec.toNat : Int) := by
  have h1 : 0 ≤ c.toBitVec.toInt := h
  show c.toBitVec.toInt = _
  rw [BitVec.toInt_eq_toNat_cond] at h1 ⊢
  split at h1
  · rw [if_pos (by assumption)]
  · have := c.toBitVec.isLt; omega
theorem and_rng (x : Int32) {m : Int32} (hm : 0 ≤ m.toInt) : 0 ≤ (x &&& m).toInt ∧ (x &&& m).toInt ≤ m.toInt := by
  have h1 : (x &&& m).toBitVec.toNat ≤ m.toBitVec.toNat := by rw [Int32.toBitVec_and, BitVec.toNat_and]; exact Nat.and_le_right
  have h4 := nat_of_int hm
  have hb : m.toInt < 2147483648 := m.toInt_lt
  have h3 : (x &&& m).toInt = ((x &&& m).toBitVec.toNat : Int) := BitVec.toInt_eq_toNat_of_lt (by omega)
  omega
theorem rem_rng {x m : Int32} (hx : 0 ≤ x.toInt) (hm : 0 < m.toInt) : 0 ≤ (x % m).toInt ∧ (x % m).toInt < m.toInt := by
  rw [Int32.toInt_mod]
  exact ⟨Int.tmod_nonneg _ hx, Int.tmod_lt_of_pos _ hm⟩
theorem ushr_rng (x : Int32) : 0 ≤ (XT.ushr x 16).toInt := by
  have h1 : (XT.ushr x 16).toBitVec.toNat < 65536 := by
    show (x.toUInt32 >>> ((16 : Int32) &&& 31).toUInt32).toNat < 65536
    have : (((16 : Int32) &&& 31).toUInt32) = 16 := by decide
    rw [this, UInt32.toNat_shiftRight]
    have := x.toUInt32.toNat_lt; show x.toUInt32.toNat >>> (16 % 32) < _; rw [Nat.shiftRight_eq_div_pow]
    show x.toUInt32.toNat / 65536 < 65536
    omega
  have h3 : (XT.ushr x 16).toInt = ((XT.ushr x 16).toBitVec.toNat : Int) := BitVec.toInt_eq_toNat_of_lt (by omega)
  omega
theorem ofN_sub {a b : Nat} (h : b ≤ a) (ha : a < 2147483648) : Int32.ofNat a - Int32.ofNat b = Int32.ofNat (a - b) := by
  apply Int32.toInt_inj.mp
  rw [Int32.toInt_sub, ofN_int ha, ofN_int (i := b) (by omega), ofN_int (i := a - b) (by omega)]
  rw [Int.bmod_eq_of_le (by omega) (by omega)]; omega
theorem ofN_add (a b : Nat) : Int32.ofNat a + Int32.ofNat b = Int32.ofNat (a + b) := by rw [Int32.ofNat_add]
def ob (p : Prop) [Decidable p] : Int32 := if p then 1 else 0
theorem ob_t {p : Prop} [Decidable p] (h : p) : ob p = 1 := if_pos h
theorem ob_f {p : Prop} [Decidable p] (h : ¬ p) : ob p = 0 := if_neg h
theorem pd_0 : parseMethodDescriptor "(I)I" = some ⟨[.int], (some .int)⟩ := by decide +kernel
theorem pd_1 : parseMethodDescriptor "([BII)V" = some ⟨[(.array .byte), .int, .int], none⟩ := by decide +kernel
theorem pd_2 : parseMethodDescriptor "(I)[B" = some ⟨[.int], (some (.array .byte))⟩ := by decide +kernel
theorem pd_3 : parseMethodDescriptor "([CI[BII)I" = some ⟨[(.array .char), .int, (.array .byte), .int, .int], (some .int)⟩ := by decide +kernel
theorem pd_4 : parseMethodDescriptor "([CII)[B" = some ⟨[(.array .char), .int, .int], (some (.array .byte))⟩ := by decide +kernel
theorem pd_5 : parseMethodDescriptor "([BI)C" = some ⟨[(.array .byte), .int], (some .char)⟩ := by decide +kernel
theorem pd_6 : parseMethodDescriptor "([BI)B" = some ⟨[(.array .byte), .int], (some .byte)⟩ := by decide +kernel
theorem pd_7 : parseMethodDescriptor "([CIILjava/lang/Void;)V" = some ⟨[(.array .char), .int, .int, (.object "java/lang/Void")], none⟩ := by decide +kernel
theorem pd_8 : parseMethodDescriptor "(C)Z" = some ⟨[.char], (some .boolean)⟩ := by decide +kernel
theorem pd_9 : parseMethodDescriptor "(C)[B" = some ⟨[.char], (some (.array .byte))⟩ := by decide +kernel
theorem pd_10 : parseMethodDescriptor "([BB)V" = some ⟨[(.array .byte), .byte], none⟩ := by decide +kernel
theorem pd_11 : parseMethodDescriptor "(Ljava/lang/Object;Ljava/lang/String;)Ljava/lang/Object;" = some ⟨[(.object "java/lang/Object"), (.object "java/lang/String")], (some (.object "java/lang/Object"))⟩ := by decide +kernel
theorem pd_12 : parseMethodDescriptor "()Z" = some ⟨[], (some .boolean)⟩ := by decide +kernel
theorem pd_13 : parseMethodDescriptor "(C)Ljava/lang/String;" = some ⟨[.char], (some (.object "java/lang/String"))⟩ := by decide +kernel
theorem pd_14 : parseMethodDescriptor "(Ljava/lang/String;Ljava/lang/String;)Ljava/lang/String;" = some ⟨[(.object "java/lang/String"), (.object "java/lang/String")], (some (.object "java/lang/String"))⟩ := by decide +kernel
theorem pd_15 : parseMethodDescriptor "([C)V" = some ⟨[(.array .char)], none⟩ := by decide +kernel
theorem d_b5_0 : decode jdk_52_method_21_code 0 = .ok (.iconst 0, 1) := by decide +kernel
theorem d_b5_1 : decode jdk_52_method_21_code 1 = .ok (.istore 5, 2) := by decide +kernel
theorem d_b5_3 : decode jdk_52_method_21_code 3 = .ok (.iload 5, 2) := by decide +kernel
theorem d_b5_5 : decode jdk_52_method_21_code 5 = .ok (.iload 4, 2) := by decide +kernel
theorem d_b5_7 : decode jdk_52_method_21_code 7 = .ok (.if_icmp .ge 37, 3) := by decide +kernel
theorem d_b5_10 : decode jdk_52_method_21_code 10 = .ok (.aload_n 0, 1) := by decide +kernel
theorem d_b5_11 : decode jdk_52_method_21_code 11 = .ok (.iload_n 1, 1) := by decide +kernel
theorem d_b5_12 : decode jdk_52_method_21_code 12 = .ok (.caload, 1) := by decide +kernel
theorem d_b5_13 : decode jdk_52_method_21_code 13 = .ok (.istore 6, 2) := by decide +kernel
theorem d_b5_15 : decode jdk_52_method_21_code 15 = .ok (.iload 6, 2) := by decide +kernel
theorem d_b5_17 : decode jdk_52_method_21_code 17 = .ok (.sipush 255, 3) := by decide +kernel
theorem d_b5_20 : decode jdk_52_method_21_code 20 = .ok (.if_icmp .le 6, 3) := by decide +kernel
theorem d_b5_23 : decode jdk_52_method_21_code 23 = .ok (.iload 5, 2) := by decide +kernel
theorem d_b5_25 : decode jdk_52_method_21_code 25 = .ok (.ireturn, 1) := by decide +kernel
theorem d_b5_26 : decode jdk_52_method_21_code 26 = .ok (.aload_n 2, 1) := by decide +kernel
theorem d_b5_27 : decode jdk_52_method_21_code 27 = .ok (.iload_n 3, 1) := by decide +kernel
theorem d_b5_28 : decode jdk_52_method_21_code 28 = .ok (.iload 6, 2) := by decide +kernel
theorem d_b5_30 : decode jdk_52_method_21_code 30 = .ok (.i2b, 1) := by decide +kernel
theorem d_b5_31 : decode jdk_52_method_21_code 31 = .ok (.bastore, 1) := by decide +kernel
theorem d_b5_32 : decode jdk_52_method_21_code 32 = .ok (.iinc 1 1, 3) := by decide +kernel
theorem d_b5_35 : decode jdk_52_method_21_code 35 = .ok (.iinc 3 1, 3) := by decide +kernel
theorem d_b5_38 : decode jdk_52_method_21_code 38 = .ok (.iinc 5 1, 3) := by decide +kernel
theorem d_b5_41 : decode jdk_52_method_21_code 41 = .ok (.goto (-38), 3) := by decide +kernel
theorem d_b5_44 : decode jdk_52_method_21_code 44 = .ok (.iload 4, 2) := by decide +kernel
theorem d_b5_46 : decode jdk_52_method_21_code 46 = .ok (.ireturn, 1) := by decide +kernel
theorem d_b15_0 : decode jdk_52_method_4_code 0 = .ok (.getstatic 44, 3) := by decide +kernel
theorem d_b15_3 : decode jdk_52_method_4_code 3 = .ok (.ifCond .ne 25, 3) := by decide +kernel
theorem d_b15_28 : decode jdk_52_method_4_code 28 = .ok (.iload_n 1, 1) := by decide +kernel
theorem d_b15_29 : decode jdk_52_method_4_code 29 = .ok (.iconst 1, 1) := by decide +kernel
theorem d_b15_30 : decode jdk_52_method_4_code 30 = .ok (.ishl, 1) := by decide +kernel
theorem d_b15_31 : decode jdk_52_method_4_code 31 = .ok (.istore_n 1, 1) := by decide +kernel
theorem d_b15_32 : decode jdk_52_method_4_code 32 = .ok (.aload_n 0, 1) := by decide +kernel
theorem d_b15_33 : decode jdk_52_method_4_code 33 = .ok (.iload_n 1, 1) := by decide +kernel
theorem d_b15_34 : decode jdk_52_method_4_code 34 = .ok (.iinc 1 1, 3) := by decide +kernel
theorem d_b15_37 : decode jdk_52_method_4_code 37 = .ok (.iload_n 2, 1) := by decide +kernel
theorem d_b15_38 : decode jdk_52_method_4_code 38 = .ok (.getstatic 59, 3) := by decide +kernel
theorem d_b15_41 : decode jdk_52_method_4_code 41 = .ok (.ishr, 1) := by decide +kernel
theorem d_b15_42 : decode jdk_52_method_4_code 42 = .ok (.i2b, 1) := by decide +kernel
theorem d_b15_43 : decode jdk_52_method_4_code 43 = .ok (.bastore, 1) := by decide +kernel
theorem d_b15_44 : decode jdk_52_method_4_code 44 = .ok (.aload_n 0, 1) := by decide +kernel
theorem d_b15_45 : decode jdk_52_method_4_code 45 = .ok (.iload_n 1, 1) := by decide +kernel
theorem d_b15_46 : decode jdk_52_method_4_code 46 = .ok (.iload_n 2, 1) := by decide +kernel
theorem d_b15_47 : decode jdk_52_method_4_code 47 = .ok (.getstatic 63, 3) := by decide +kernel
theorem d_b15_50 : decode jdk_52_method_4_code 50 = .ok (.ishr, 1) := by decide +kernel
theorem d_b15_51 : decode jdk_52_method_4_code 51 = .ok (.i2b, 1) := by decide +kernel
theorem d_b15_52 : decode jdk_52_method_4_code 52 = .ok (.bastore, 1) := by decide +kernel
theorem d_b15_53 : decode jdk_52_method_4_code 53 = .ok (.return_, 1) := by decide +kernel
theorem d_b19_0 : decode jdk_52_method_5_code 0 = .ok (.getstatic 44, 3) := by decide +kernel
theorem d_b19_3 : decode jdk_52_method_5_code 3 = .ok (.ifCond .ne 25, 3) := by decide +kernel
theorem d_b19_28 : decode jdk_52_method_5_code 28 = .ok (.iload_n 1, 1) := by decide +kernel
theorem d_b19_29 : decode jdk_52_method_5_code 29 = .ok (.iconst 1, 1) := by decide +kernel
theorem d_b19_30 : decode jdk_52_method_5_code 30 = .ok (.ishl, 1) := by decide +kernel
theorem d_b19_31 : decode jdk_52_method_5_code 31 = .ok (.istore_n 1, 1) := by decide +kernel
theorem d_b19_32 : decode jdk_52_method_5_code 32 = .ok (.aload_n 0, 1) := by decide +kernel
theorem d_b19_33 : decode jdk_52_method_5_code 33 = .ok (.iload_n 1, 1) := by decide +kernel
theorem d_b19_34 : decode jdk_52_method_5_code 34 = .ok (.iinc 1 1, 3) := by decide +kernel
theorem d_b19_37 : decode jdk_52_method_5_code 37 = .ok (.baload, 1) := by decide +kernel
theorem d_b19_38 : decode jdk_52_method_5_code 38 = .ok (.sipush 255, 3) := by decide +kernel
theorem d_b19_41 : decode jdk_52_method_5_code 41 = .ok (.iand, 1) := by decide +kernel
theorem d_b19_42 : decode jdk_52_method_5_code 42 = .ok (.getstatic 59, 3) := by decide +kernel
theorem d_b19_45 : decode jdk_52_method_5_code 45 = .ok (.ishl, 1) := by decide +kernel
theorem d_b19_46 : decode jdk_52_method_5_code 46 = .ok (.aload_n 0, 1) := by decide +kernel
theorem d_b19_47 : decode jdk_52_method_5_code 47 = .ok (.iload_n 1, 1) := by decide +kernel
theorem d_b19_48 : decode jdk_52_method_5_code 48 = .ok (.baload, 1) := by decide +kernel
theorem d_b19_49 : decode jdk_52_method_5_code 49 = .ok (.sipush 255, 3) := by decide +kernel
theorem d_b19_52 : decode jdk_52_method_5_code 52 = .ok (.iand, 1) := by decide +kernel
theorem d_b19_53 : decode jdk_52_method_5_code 53 = .ok (.getstatic 63, 3) := by decide +kernel
theorem d_b19_56 : decode jdk_52_method_5_code 56 = .ok (.ishl, 1) := by decide +kernel
theorem d_b19_57 : decode jdk_52_method_5_code 57 = .ok (.ior, 1) := by decide +kernel
theorem d_b19_58 : decode jdk_52_method_5_code 58 = .ok (.i2c, 1) := by decide +kernel
theorem d_b19_59 : decode jdk_52_method_5_code 59 = .ok (.ireturn, 1) := by decide +kernel
theorem d_b18_0 : decode jdk_52_method_3_code 0 = .ok (.iload_n 0, 1) := by decide +kernel
theorem d_b18_1 : decode jdk_52_method_3_code 1 = .ok (.ifCond .ge 11, 3) := by decide +kernel
theorem d_b18_12 : decode jdk_52_method_3_code 12 = .ok (.iload_n 0, 1) := by decide +kernel
theorem d_b18_13 : decode jdk_52_method_3_code 13 = .ok (.ldc 20, 2) := by decide +kernel
theorem d_b18_15 : decode jdk_52_method_3_code 15 = .ok (.if_icmp .lt 40, 3) := by decide +kernel
theorem d_b18_55 : decode jdk_52_method_3_code 55 = .ok (.iload_n 0, 1) := by decide +kernel
theorem d_b18_56 : decode jdk_52_method_3_code 56 = .ok (.iconst 1, 1) := by decide +kernel
theorem d_b18_57 : decode jdk_52_method_3_code 57 = .ok (.ishl, 1) := by decide +kernel
theorem d_b18_58 : decode jdk_52_method_3_code 58 = .ok (.ireturn, 1) := by decide +kernel
theorem d_b17_0 : decode jdk_52_method_2_code 0 = .ok (.iload_n 0, 1) := by decide +kernel
theorem d_b17_1 : decode jdk_52_method_2_code 1 = .ok (.invokestatic 11, 3) := by decide +kernel
theorem d_b17_4 : decode jdk_52_method_2_code 4 = .ok (.newarray .byte, 2) := by decide +kernel
theorem d_b17_6 : decode jdk_52_method_2_code 6 = .ok (.areturn, 1) := by decide +kernel
theorem d_b16_0 : decode jdk_52_method_14_code 0 = .ok (.iload_n 2, 1) := by decide +kernel
theorem d_b16_1 : decode jdk_52_method_14_code 1 = .ok (.invokestatic 107, 3) := by decide +kernel
theorem d_b16_4 : decode jdk_52_method_14_code 4 = .ok (.astore_n 3, 1) := by decide +kernel
theorem d_b16_5 : decode jdk_52_method_14_code 5 = .ok (.iconst 0, 1) := by decide +kernel
theorem d_b16_6 : decode jdk_52_method_14_code 6 = .ok (.istore 4, 2) := by decide +kernel
theorem d_b16_8 : decode jdk_52_method_14_code 8 = .ok (.iload 4, 2) := by decide +kernel
theorem d_b16_10 : decode jdk_52_method_14_code 10 = .ok (.iload_n 2, 1) := by decide +kernel
theorem d_b16_11 : decode jdk_52_method_14_code 11 = .ok (.if_icmp .ge 21, 3) := by decide +kernel
theorem d_b16_14 : decode jdk_52_method_14_code 14 = .ok (.aload_n 3, 1) := by decide +kernel
theorem d_b16_15 : decode jdk_52_method_14_code 15 = .ok (.iload 4, 2) := by decide +kernel
theorem d_b16_17 : decode jdk_52_method_14_code 17 = .ok (.aload_n 0, 1) := by decide +kernel
theorem d_b16_18 : decode jdk_52_method_14_code 18 = .ok (.iload_n 1, 1) := by decide +kernel
theorem d_b16_19 : decode jdk_52_method_14_code 19 = .ok (.caload, 1) := by decide +kernel
theorem d_b16_20 : decode jdk_52_method_14_code 20 = .ok (.invokestatic 111, 3) := by decide +kernel
theorem d_b16_23 : decode jdk_52_method_14_code 23 = .ok (.iinc 1 1, 3) := by decide +kernel
theorem d_b16_26 : decode jdk_52_method_14_code 26 = .ok (.iinc 4 1, 3) := by decide +kernel
theorem d_b16_29 : decode jdk_52_method_14_code 29 = .ok (.goto (-21), 3) := by decide +kernel
theorem d_b16_32 : decode jdk_52_method_14_code 32 = .ok (.aload_n 3, 1) := by decide +kernel
theorem d_b16_33 : decode jdk_52_method_14_code 33 = .ok (.areturn, 1) := by decide +kernel
theorem d_b6_0 : decode jdk_52_method_15_code 0 = .ok (.iload_n 1, 1) := by decide +kernel
theorem d_b6_1 : decode jdk_52_method_15_code 1 = .ok (.aload_n 0, 1) := by decide +kernel
theorem d_b6_2 : decode jdk_52_method_15_code 2 = .ok (.arraylength, 1) := by decide +kernel
theorem d_b6_3 : decode jdk_52_method_15_code 3 = .ok (.isub, 1) := by decide +kernel
theorem d_b6_4 : decode jdk_52_method_15_code 4 = .ok (.bipush 31, 2) := by decide +kernel
theorem d_b6_6 : decode jdk_52_method_15_code 6 = .ok (.iushr, 1) := by decide +kernel
theorem d_b6_7 : decode jdk_52_method_15_code 7 = .ok (.i2b, 1) := by decide +kernel
theorem d_b6_8 : decode jdk_52_method_15_code 8 = .ok (.ireturn, 1) := by decide +kernel
theorem d_b4_0 : decode jdk_52_method_16_code 0 = .ok (.iload_n 2, 1) := by decide +kernel
theorem d_b4_1 : decode jdk_52_method_16_code 1 = .ok (.newarray .byte, 2) := by decide +kernel
theorem d_b4_3 : decode jdk_52_method_16_code 3 = .ok (.astore_n 3, 1) := by decide +kernel
theorem d_b4_4 : decode jdk_52_method_16_code 4 = .ok (.aload_n 0, 1) := by decide +kernel
theorem d_b4_5 : decode jdk_52_method_16_code 5 = .ok (.iload_n 1, 1) := by decide +kernel
theorem d_b4_6 : decode jdk_52_method_16_code 6 = .ok (.aload_n 3, 1) := by decide +kernel
theorem d_b4_7 : decode jdk_52_method_16_code 7 = .ok (.iconst 0, 1) := by decide +kernel
theorem d_b4_8 : decode jdk_52_method_16_code 8 = .ok (.iload_n 2, 1) := by decide +kernel
theorem d_b4_9 : decode jdk_52_method_16_code 9 = .ok (.invokestatic 115, 3) := by decide +kernel
theorem d_b4_12 : decode jdk_52_method_16_code 12 = .ok (.istore 4, 2) := by decide +kernel
theorem d_b4_14 : decode jdk_52_method_16_code 14 = .ok (.iload 4, 2) := by decide +kernel
theorem d_b4_16 : decode jdk_52_method_16_code 16 = .ok (.iload_n 2, 1) := by decide +kernel
theorem d_b4_17 : decode jdk_52_method_16_code 17 = .ok (.if_icmp .eq 40, 3) := by decide +kernel
theorem d_b4_20 : decode jdk_52_method_16_code 20 = .ok (.aload_n 0, 1) := by decide +kernel
theorem d_b4_21 : decode jdk_52_method_16_code 21 = .ok (.iload_n 1, 1) := by decide +kernel
theorem d_b4_22 : decode jdk_52_method_16_code 22 = .ok (.iload_n 2, 1) := by decide +kernel
theorem d_b4_23 : decode jdk_52_method_16_code 23 = .ok (.invokestatic 119, 3) := by decide +kernel
theorem d_b4_26 : decode jdk_52_method_16_code 26 = .ok (.astore 5, 2) := by decide +kernel
theorem d_b4_28 : decode jdk_52_method_16_code 28 = .ok (.aload 5, 2) := by decide +kernel
theorem d_b4_30 : decode jdk_52_method_16_code 30 = .ok (.iload 4, 2) := by decide +kernel
theorem d_b4_32 : decode jdk_52_method_16_code 32 = .ok (.invokestatic 71, 3) := by decide +kernel
theorem d_b4_35 : decode jdk_52_method_16_code 35 = .ok (.sipush 255, 3) := by decide +kernel
theorem d_b4_38 : decode jdk_52_method_16_code 38 = .ok (.if_icmp .gt 16, 3) := by decide +kernel
theorem d_b4_54 : decode jdk_52_method_16_code 54 = .ok (.aload 5, 2) := by decide +kernel
theorem d_b4_56 : decode jdk_52_method_16_code 56 = .ok (.areturn, 1) := by decide +kernel
theorem d_b4_57 : decode jdk_52_method_16_code 57 = .ok (.aload_n 3, 1) := by decide +kernel
theorem d_b4_58 : decode jdk_52_method_16_code 58 = .ok (.areturn, 1) := by decide +kernel
theorem d_b2_0 : decode jdk_42_method_149_code 0 = .ok (.aload_n 0, 1) := by decide +kernel
theorem d_b2_1 : decode jdk_42_method_149_code 1 = .ok (.invokespecial 1, 3) := by decide +kernel
theorem d_b2_4 : decode jdk_42_method_149_code 4 = .ok (.iload_n 3, 1) := by decide +kernel
theorem d_b2_5 : decode jdk_42_method_149_code 5 = .ok (.ifCond .ne 22, 3) := by decide +kernel
theorem d_b2_27 : decode jdk_42_method_149_code 27 = .ok (.getstatic 38, 3) := by decide +kernel
theorem d_b2_30 : decode jdk_42_method_149_code 30 = .ok (.ifCond .eq 28, 3) := by decide +kernel
theorem d_b2_33 : decode jdk_42_method_149_code 33 = .ok (.aload_n 1, 1) := by decide +kernel
theorem d_b2_34 : decode jdk_42_method_149_code 34 = .ok (.iload_n 2, 1) := by decide +kernel
theorem d_b2_35 : decode jdk_42_method_149_code 35 = .ok (.iload_n 3, 1) := by decide +kernel
theorem d_b2_36 : decode jdk_42_method_149_code 36 = .ok (.invokestatic 177, 3) := by decide +kernel
theorem d_b2_39 : decode jdk_42_method_149_code 39 = .ok (.astore 5, 2) := by decide +kernel
theorem d_b2_41 : decode jdk_42_method_149_code 41 = .ok (.aload_n 0, 1) := by decide +kernel
theorem d_b2_42 : decode jdk_42_method_149_code 42 = .ok (.aload 5, 2) := by decide +kernel
theorem d_b2_44 : decode jdk_42_method_149_code 44 = .ok (.iload_n 3, 1) := by decide +kernel
theorem d_b2_45 : decode jdk_42_method_149_code 45 = .ok (.invokestatic 47, 3) := by decide +kernel
theorem d_b2_48 : decode jdk_42_method_149_code 48 = .ok (.putfield 15, 3) := by decide +kernel
theorem d_b2_51 : decode jdk_42_method_149_code 51 = .ok (.aload_n 0, 1) := by decide +kernel
theorem d_b2_52 : decode jdk_42_method_149_code 52 = .ok (.aload 5, 2) := by decide +kernel
theorem d_b2_54 : decode jdk_42_method_149_code 54 = .ok (.putfield 9, 3) := by decide +kernel
theorem d_b2_57 : decode jdk_42_method_149_code 57 = .ok (.return_, 1) := by decide +kernel
theorem d_b1_0 : decode jdk_42_method_3_code 0 = .ok (.aload_n 0, 1) := by decide +kernel
theorem d_b1_1 : decode jdk_42_method_3_code 1 = .ok (.aload_n 1, 1) := by decide +kernel
theorem d_b1_2 : decode jdk_42_method_3_code 2 = .ok (.iconst 0, 1) := by decide +kernel
theorem d_b1_3 : decode jdk_42_method_3_code 3 = .ok (.aload_n 1, 1) := by decide +kernel
theorem d_b1_4 : decode jdk_42_method_3_code 4 = .ok (.arraylength, 1) := by decide +kernel
theorem d_b1_5 : decode jdk_42_method_3_code 5 = .ok (.aconst_null, 1) := by decide +kernel
theorem d_b1_6 : decode jdk_42_method_3_code 6 = .ok (.invokespecial 27, 3) := by decide +kernel
theorem d_b1_9 : decode jdk_42_method_3_code 9 = .ok (.return_, 1) := by decide +kernel
theorem d_b13_0 : decode jdk_42_method_151_code 0 = .ok (.aload_n 0, 1) := by decide +kernel
theorem d_b13_1 : decode jdk_42_method_151_code 1 = .ok (.invokespecial 1, 3) := by decide +kernel
theorem d_b13_4 : decode jdk_42_method_151_code 4 = .ok (.aload_n 0, 1) := by decide +kernel
theorem d_b13_5 : decode jdk_42_method_151_code 5 = .ok (.aload_n 1, 1) := by decide +kernel
theorem d_b13_6 : decode jdk_42_method_151_code 6 = .ok (.putfield 9, 3) := by decide +kernel
theorem d_b13_9 : decode jdk_42_method_151_code 9 = .ok (.aload_n 0, 1) := by decide +kernel
theorem d_b13_10 : decode jdk_42_method_151_code 10 = .ok (.iload_n 2, 1) := by decide +kernel
theorem d_b13_11 : decode jdk_42_method_151_code 11 = .ok (.putfield 15, 3) := by decide +kernel
theorem d_b13_14 : decode jdk_42_method_151_code 14 = .ok (.return_, 1) := by decide +kernel
theorem d_b11_0 : decode jdk_43_method_3_code 0 = .ok (.iload_n 0, 1) := by decide +kernel
theorem d_b11_1 : decode jdk_43_method_3_code 1 = .ok (.sipush 255, 3) := by decide +kernel
theorem d_b11_4 : decode jdk_43_method_3_code 4 = .ok (.if_icmp .gt 7, 3) := by decide +kernel
theorem d_b11_7 : decode jdk_43_method_3_code 7 = .ok (.iconst 1, 1) := by decide +kernel
theorem d_b11_8 : decode jdk_43_method_3_code 8 = .ok (.goto 4, 3) := by decide +kernel
theorem d_b11_11 : decode jdk_43_method_3_code 11 = .ok (.iconst 0, 1) := by decide +kernel
theorem d_b11_12 : decode jdk_43_method_3_code 12 = .ok (.ireturn, 1) := by decide +kernel
theorem d_b12_0 : decode jdk_43_method_46_code 0 = .ok (.iconst 1, 1) := by decide +kernel
theorem d_b12_1 : decode jdk_43_method_46_code 1 = .ok (.newarray .byte, 2) := by decide +kernel
theorem d_b12_3 : decode jdk_43_method_46_code 3 = .ok (.dup, 1) := by decide +kernel
theorem d_b12_4 : decode jdk_43_method_46_code 4 = .ok (.iconst 0, 1) := by decide +kernel
theorem d_b12_5 : decode jdk_43_method_46_code 5 = .ok (.iload_n 0, 1) := by decide +kernel
theorem d_b12_6 : decode jdk_43_method_46_code 6 = .ok (.i2b, 1) := by decide +kernel
theorem d_b12_7 : decode jdk_43_method_46_code 7 = .ok (.bastore, 1) := by decide +kernel
theorem d_b12_8 : decode jdk_43_method_46_code 8 = .ok (.areturn, 1) := by decide +kernel
theorem d_b14_0 : decode jdk_52_method_24_code 0 = .ok (.iconst 2, 1) := by decide +kernel
theorem d_b14_1 : decode jdk_52_method_24_code 1 = .ok (.newarray .byte, 2) := by decide +kernel
theorem d_b14_3 : decode jdk_52_method_24_code 3 = .ok (.astore_n 1, 1) := by decide +kernel
theorem d_b14_4 : decode jdk_52_method_24_code 4 = .ok (.aload_n 1, 1) := by decide +kernel
theorem d_b14_5 : decode jdk_52_method_24_code 5 = .ok (.iconst 0, 1) := by decide +kernel
theorem d_b14_6 : decode jdk_52_method_24_code 6 = .ok (.iload_n 0, 1) := by decide +kernel
theorem d_b14_7 : decode jdk_52_method_24_code 7 = .ok (.invokestatic 111, 3) := by decide +kernel
theorem d_b14_10 : decode jdk_52_method_24_code 10 = .ok (.aload_n 1, 1) := by decide +kernel
theorem d_b14_11 : decode jdk_52_method_24_code 11 = .ok (.areturn, 1) := by decide +kernel
theorem d_b10_0 : decode jdk_42_method_139_code 0 = .ok (.getstatic 38, 3) := by decide +kernel
theorem d_b10_3 : decode jdk_42_method_139_code 3 = .ok (.ifCond .eq 23, 3) := by decide +kernel
theorem d_b10_6 : decode jdk_42_method_139_code 6 = .ok (.iload_n 0, 1) := by decide +kernel
theorem d_b10_7 : decode jdk_42_method_139_code 7 = .ok (.invokestatic 1015, 3) := by decide +kernel
theorem d_b10_10 : decode jdk_42_method_139_code 10 = .ok (.ifCond .eq 16, 3) := by decide +kernel
theorem d_b10_13 : decode jdk_42_method_139_code 13 = .ok (.new 10, 3) := by decide +kernel
theorem d_b10_16 : decode jdk_42_method_139_code 16 = .ok (.dup, 1) := by decide +kernel
theorem d_b10_17 : decode jdk_42_method_139_code 17 = .ok (.iload_n 0, 1) := by decide +kernel
theorem d_b10_18 : decode jdk_42_method_139_code 18 = .ok (.invokestatic 1018, 3) := by decide +kernel
theorem d_b10_21 : decode jdk_42_method_139_code 21 = .ok (.iconst 0, 1) := by decide +kernel
theorem d_b10_22 : decode jdk_42_method_139_code 22 = .ok (.invokespecial 209, 3) := by decide +kernel
theorem d_b10_25 : decode jdk_42_method_139_code 25 = .ok (.areturn, 1) := by decide +kernel
theorem d_b10_26 : decode jdk_42_method_139_code 26 = .ok (.new 10, 3) := by decide +kernel
theorem d_b10_29 : decode jdk_42_method_139_code 29 = .ok (.dup, 1) := by decide +kernel
theorem d_b10_30 : decode jdk_42_method_139_code 30 = .ok (.iload_n 0, 1) := by decide +kernel
theorem d_b10_31 : decode jdk_42_method_139_code 31 = .ok (.invokestatic 1021, 3) := by decide +kernel
theorem d_b10_34 : decode jdk_42_method_139_code 34 = .ok (.iconst 1, 1) := by decide +kernel
theorem d_b10_35 : decode jdk_42_method_139_code 35 = .ok (.invokespecial 209, 3) := by decide +kernel
theorem d_b10_38 : decode jdk_42_method_139_code 38 = .ok (.areturn, 1) := by decide +kernel
theorem d_b9_0 : decode jdk_42_method_55_code 0 = .ok (.aload_n 0, 1) := by decide +kernel
theorem d_b9_1 : decode jdk_42_method_55_code 1 = .ok (.getfield 9, 3) := by decide +kernel
theorem d_b9_4 : decode jdk_42_method_55_code 4 = .ok (.arraylength, 1) := by decide +kernel
theorem d_b9_5 : decode jdk_42_method_55_code 5 = .ok (.ifCond .ne 7, 3) := by decide +kernel
theorem d_b9_12 : decode jdk_42_method_55_code 12 = .ok (.iconst 0, 1) := by decide +kernel
theorem d_b9_13 : decode jdk_42_method_55_code 13 = .ok (.ireturn, 1) := by decide +kernel
theorem d_b8_0 : decode jdk_31_method_11_code 0 = .ok (.aload_n 0, 1) := by decide +kernel
theorem d_b8_1 : decode jdk_31_method_11_code 1 = .ok (.ifnonnull 12, 3) := by decide +kernel
theorem d_b8_13 : decode jdk_31_method_11_code 13 = .ok (.aload_n 0, 1) := by decide +kernel
theorem d_b8_14 : decode jdk_31_method_11_code 14 = .ok (.areturn, 1) := by decide +kernel
theorem d_b7_0 : decode prog_24_method_2_code 0 = .ok (.aload_n 0, 1) := by decide +kernel
theorem d_b7_1 : decode prog_24_method_2_code 1 = .ok (.aload_n 1, 1) := by decide +kernel
theorem d_b7_2 : decode prog_24_method_2_code 2 = .ok (.invokestatic 7, 3) := by decide +kernel
theorem d_b7_5 : decode prog_24_method_2_code 5 = .ok (.pop, 1) := by decide +kernel
theorem d_b7_6 : decode prog_24_method_2_code 6 = .ok (.aload_n 0, 1) := by decide +kernel
theorem d_b7_7 : decode prog_24_method_2_code 7 = .ok (.invokevirtual 13, 3) := by decide +kernel
theorem d_b7_10 : decode prog_24_method_2_code 10 = .ok (.ifCond .eq 17, 3) := by decide +kernel
theorem d_b7_27 : decode prog_24_method_2_code 27 = .ok (.aload_n 0, 1) := by decide +kernel
theorem d_b7_28 : decode prog_24_method_2_code 28 = .ok (.areturn, 1) := by decide +kernel
def isU (c : Int32) : Prop := 0 ≤ c.toInt ∧ c.toInt ≤ 65535
def lat (cs : List Int32) : Prop := ∀ c ∈ cs, ¬ (255 : Int32) < c
instance (cs : List Int32) : Decidable (lat cs) := List.decidableBAll (fun c => ¬ (255 : Int32) < c) cs
def loB (c : Int32) : Int32 := (c >>> ((0 : Int32) &&& 31)).toInt8.toInt32.toInt8.toInt32
def hiB (c : Int32) : Int32 := (c >>> ((8 : Int32) &&& 31)).toInt8.toInt32.toInt8.toInt32
def u16s : List Int32 → List Value
  | [] => []
  | c :: r => .int (loB c) :: .int (hiB c) :: u16s r
theorem u16s_len : ∀ cs : List Int32, (u16s cs).length = 2 * cs.length
  | [] => rfl
  | c :: r => by simp only [u16s, List.length_cons, u16s_len r]; omega
theorem u16s_app : ∀ a b : List Int32, u16s (a ++ b) = u16s a ++ u16s b
  | [], _ => rfl
  | c :: r, b => by simp only [List.cons_append, u16s, u16s_app r b]
theorem u16s_lo : ∀ {cs : List Int32} {i : Nat} {c : Int32}, cs[i]? = some c → (u16s cs).getD (2 * i) (.int 0) = .int (loB c)
  | [], _, _, h => by simp at h
  | x :: r, 0, c, h => by simp at h; subst h; rfl
  | x :: r, i + 1, c, h => by
    have h' : r[i]? = some c := by simpa using h
    have := u16s_lo h'
    rw [show 2 * (i + 1) = 2 * i + 1 + 1 from by omega]; simpa [u16s] using this
theorem u16s_hi : ∀ {cs : List Int32} {i : Nat} {c : Int32}, cs[i]? = some c → (u16s cs).getD (2 * i + 1) (.int 0) = .int (hiB c)
  | [], _, _, h => by simp at h
  | x :: r, 0, c, h => by simp at h; subst h; rfl
  | x :: r, i + 1, c, h => by
    have h' : r[i]? = some c := by simpa using h
    have := u16s_hi h'
    rw [show 2 * (i + 1) + 1 = 2 * i + 1 + 1 + 1 from by omega]; simpa [u16s] using this
theorem u16s_set {cs : List Int32} {i j : Nat} {c : Int32} (hc : cs[i]? = some c) (hi : i + (j + 1) = cs.length) : ((u16s (cs.take i) ++ List.replicate (2 * (j + 1)) (Value.int 0)).set (2 * i) (.int (loB c))).set (2 * i + 1) (.int (hiB c)) = u16s (cs.take (i + 1)) ++ List.replicate (2 * j) (Value.int 0) := by
  have hl : (u16s (cs.take i)).length = 2 * i := by rw [u16s_len, List.length_take]; omega
  rw [List.set_append_right _ _ (by omega), hl, Nat.sub_self, List.set_append_right _ _ (by omega), hl, show 2 * i + 1 - 2 * i = 1 from by omega, show 2 * (j + 1) = 2 * j + 1 + 1 from by omega, List.replicate_succ, List.replicate_succ, List.set_cons_zero, List.set_cons_succ, List.set_cons_zero, List.take_add_one, hc, u16s_app]
  simp [u16s]
theorem isU.nat {c : Int32} (h : isU c) : c.toBitVec.toNat < 65536 := by have := nat_of_int h.1; have := h.2; omega
theorem i8_and (x : Int32) : (x.toInt8.toInt32.toInt8.toInt32 &&& 255).toBitVec.toNat = x.toBitVec.toNat % 256 := by
  have e8 : x.toInt8.toInt32.toInt8.toInt32 = x.toInt8.toInt32 := by simp
  rw [e8, lo8_and]
theorem shr8_nat {c : Int32} (h : isU c) : (c >>> ((8 : Int32) &&& 31)).toBitVec.toNat = c.toBitVec.toNat / 256 := by
  have e : ((8 : Int32) &&& 31) = 8 := by decide
  rw [e, Int32.toBitVec_shiftRight]
  have e1 : ((8 : Int32).toBitVec.smod 32) = 8#32 := by decide
  have hm : c.toBitVec.msb = false := by have := h.nat; rw [BitVec.msb_eq_decide]; simp; omega
  rw [e1]
  show (c.toBitVec.sshiftRight (8#32).toNat).toNat = _
  rw [BitVec.sshiftRight_eq_of_msb_false hm, BitVec.toNat_ushiftRight]
  show c.toBitVec.toNat >>> 8 = _
  rw [Nat.shiftRight_eq_div_pow]
theorem get_put {c : Int32} (h : isU c) : (((loB c &&& 255) <<< ((0 : Int32) &&& 31)) ||| ((hiB c &&& 255) <<< ((8 : Int32) &&& 31))).toUInt32.toUInt16.toUInt32.toInt32 = c := by
  have hn := h.nat
  have e0 : (loB c &&& 255).toBitVec.toNat = c.toBitVec.toNat % 256 := by unfold loB; rw [i8_and, shr0]
  have e1 : (hiB c &&& 255).toBitVec.toNat = c.toBitVec.toNat / 256 := by unfold hiB; rw [i8_and, shr8_nat h]; omega
  have e2 := shl8_nat (x := hiB c &&& 255) (by omega)
  rw [shl0]
  apply Int32.toBitVec_inj.mp
  apply BitVec.eq_of_toNat_eq
  have e3 : ((loB c &&& 255) ||| ((hiB c &&& 255) <<< ((8 : Int32) &&& 31))).toBitVec.toNat = c.toBitVec.toNat := by
    rw [Int32.toBitVec_or, BitVec.toNat_or, e0, e2, e1, Nat.or_comm]
    have := Nat.shiftLeft_add_eq_or_of_lt (b := c.toBitVec.toNat % 256) (i := 8) (by omega) (c.toBitVec.toNat / 256)
    rw [Nat.shiftLeft_eq] at this
    rw [show c.toBitVec.toNat / 256 * 256 = c.toBitVec.toNat / 256 * 2 ^ 8 from rfl, ← this]; omega
  show ((((loB c &&& 255) ||| ((hiB c &&& 255) <<< ((8 : Int32) &&& 31))).toUInt32.toUInt16.toUInt32.toInt32).toBitVec).toNat = _
  show ((((loB c &&& 255) ||| ((hiB c &&& 255) <<< ((8 : Int32) &&& 31))).toUInt32.toUInt16.toUInt32)).toNat = _
  rw [UInt16.toNat_toUInt32, UInt32.toNat_toUInt16]
  show ((loB c &&& 255) ||| ((hiB c &&& 255) <<< ((8 : Int32) &&& 31))).toBitVec.toNat % 2 ^ 16 = _
  rw [e3]; omega
theorem isU.nar {c : Int32} (h : isU c) : nar .char c = c := by
  have h2 := h.nat
  apply Int32.toBitVec_inj.mp
  apply BitVec.eq_of_toNat_eq
  show c.toUInt32.toUInt16.toUInt32.toNat = _
  rw [UInt16.toNat_toUInt32, UInt32.toNat_toUInt16]
  show c.toBitVec.toNat % 2 ^ 16 = _
  omega
def bytS (cs : List Int32) : List Value := if lat cs then lo8s cs else u16s cs
def codS (cs : List Int32) : Int32 := if lat cs then 0 else 1
theorem bytS_lat {cs : List Int32} (h : lat cs) : bytS cs = lo8s cs := if_pos h
theorem bytS_u {cs : List Int32} (h : ¬ lat cs) : bytS cs = u16s cs := if_neg h
theorem codS_lat {cs : List Int32} (h : lat cs) : codS cs = 0 := if_pos h
theorem codS_u {cs : List Int32} (h : ¬ lat cs) : codS cs = 1 := if_neg h
theorem lat_snoc {cs : List Int32} {i : Nat} {c : Int32} (h : lat (cs.take i)) (hc : cs[i]? = some c) (q : ¬ (255 : Int32) < c) : lat (cs.take (i + 1)) := by
  rw [List.take_add_one, hc]; intro x hx
  rcases List.mem_append.mp hx with hx | hx
  · exact h x hx
  · simp at hx; subst hx; exact q

set_option maxRecDepth 65536 in
set_option maxHeartbeats 4000000 in
theorem cmp5g_loop {l : Launch} {Z : State} {a0 : Array Value} {n0 : Nat} (hB : Base Z a0) {b d : Addr} {kb kd : ClassId} (cs : List Int32) (hn : cs.length ≤ 4000) (hne : b ≠ d) (h0 : Heap) :
    ∀ (j i : Nat) (h : Heap) (o6 : Slot), One o6 → i + j = cs.length → lat (cs.take i) → Keep h0 h [d] → Arv Z h b kb .char (Int32.ofNat cs.length) (cs.map Value.int) (.int 0) → Arv Z h d kd .byte (Int32.ofNat cs.length) (lo8s (cs.take i) ++ List.replicate j (Value.int 0)) (.int 0) →
      Go l Z a0 ELc n0 ({ frames := 0, cells := 0, slots := 0, locals := 0 } : Room) "java/lang/StringUTF16" jdk_52_method_21_code 7 (Option.some FieldType.int) "compress" (fun v h' sf' => sf' = [] ∧ Keep h0 h' [d] ∧ ((lat cs ∧ v = some (.int (Int32.ofNat cs.length)) ∧ Arv Z h' d kd .byte (Int32.ofNat cs.length) (lo8s cs) (.int 0)) ∨ (∃ p c, p < cs.length ∧ cs[p]? = some c ∧ (255 : Int32) < c ∧ v = some (.int (Int32.ofNat p))))) h [d] 0 0 3 #[.val (.ref b), .val (.int (Int32.ofNat i)), .val (.ref d), .val (.int (Int32.ofNat i)), .val (.int (Int32.ofNat cs.length)), .val (.int (Int32.ofNat i)), o6] [] := by
  intro j
  induction j with
  | zero =>
    intro i h o6 ho hi hlt K A B
    refine go_iload d_b5_3 rfl rfl ?_
    refine go_iload d_b5_5 rfl rfl ?_
    refine go_icmp_ge_t (pt := 44) d_b5_7 (by decide) (by decide) (ofN_nlt (by omega) (by omega)) ?_
    refine go_iload d_b5_44 rfl rfl ?_
    refine go_retI d_b5_46 [] rfl (by decide) (by decide) (fun _ q => nomatch q) ?_
    have e : i = cs.length := by omega
    subst e
    rw [List.take_length] at hlt
    exact ⟨rfl, K, Or.inl ⟨hlt, rfl, by simpa using B⟩⟩
  | succ j ih =>
    intro i h o6 ho hi hlt K A B
    obtain ⟨c, hci, hcm⟩ := at_of (cs := cs) (i := i) (by omega)
    refine go_iload d_b5_3 rfl rfl ?_
    refine go_iload d_b5_5 rfl rfl ?_
    refine go_icmp_ge_f d_b5_7 rfl (ofN_lt (by omega) (by omega)) ?_
    refine go_aloadN d_b5_10 rfl rfl rfl ?_
    refine go_iloadN d_b5_11 rfl rfl ?_
    refine go_caload (v := (.int c)) i d_b5_12 rfl A ⟨ofN_nneg (by omega), ofN_lt (by omega) (by omega)⟩ (ofN_cl (by omega)) (map_at hci) ?_
    refine go_istore d_b5_13 rfl #[.val (.ref b), .val (.int (Int32.ofNat i)), .val (.ref d), .val (.int (Int32.ofNat i)), .val (.int (Int32.ofNat cs.length)), .val (.int (Int32.ofNat i)), .val (.int c)] (XS.store1 rfl ho rfl) ?_
    refine go_iload d_b5_15 rfl rfl ?_
    refine go_sipush 255 d_b5_17 rfl (by decide) ?_
    by_cases hcc : (255 < c : Prop)
    · refine go_icmp_le_f d_b5_20 rfl hcc ?_
      refine go_iload d_b5_23 rfl rfl ?_
      refine go_retI d_b5_25 [] rfl (by decide) (by decide) (fun _ q => nomatch q) ?_
      exact ⟨rfl, K, Or.inr ⟨i, c, by omega, hci, hcc, rfl⟩⟩
    · refine go_icmp_le_t (pt := 26) d_b5_20 (by decide) (by decide) hcc ?_
      refine go_aloadN d_b5_26 rfl rfl rfl ?_
      refine go_iloadN d_b5_27 rfl rfl ?_
      refine go_iload d_b5_28 rfl rfl ?_
      refine go_i2b d_b5_30 rfl ?_
      refine go_bastore i d_b5_31 rfl B ⟨ofN_nneg (by omega), ofN_lt (by omega) (by omega)⟩ (ofN_cl (by omega)) (by simp [lo8s_len]; omega) (List.Mem.head _) ?_
      intro h1 W2 B3
      have B4 : Arv Z h1 d kd .byte (Int32.ofNat cs.length) ((lo8s (cs.take i) ++ List.replicate (j + 1) (Value.int 0)).set i (Value.int c.toInt8.toInt32.toInt8.toInt32)) (.int 0) := B3
      refine go_iinc 1 d_b5_32 rfl #[.val (.ref b), .val (.int ((Int32.ofNat i) + 1)), .val (.ref d), .val (.int (Int32.ofNat i)), .val (.int (Int32.ofNat cs.length)), .val (.int (Int32.ofNat i)), .val (.int c)] (by decide) rfl rfl ?_
      refine go_iinc 1 d_b5_35 rfl #[.val (.ref b), .val (.int ((Int32.ofNat i) + 1)), .val (.ref d), .val (.int ((Int32.ofNat i) + 1)), .val (.int (Int32.ofNat cs.length)), .val (.int (Int32.ofNat i)), .val (.int c)] (by decide) rfl rfl ?_
      refine go_iinc 1 d_b5_38 rfl #[.val (.ref b), .val (.int ((Int32.ofNat i) + 1)), .val (.ref d), .val (.int ((Int32.ofNat i) + 1)), .val (.int (Int32.ofNat cs.length)), .val (.int ((Int32.ofNat i) + 1)), .val (.int c)] (by decide) rfl rfl ?_
      refine go_goto (pt := 3) d_b5_41 (by decide) (by decide) ?_
      rw [ofN_succ]
      have F5 := (Arv.other A W2 hne)
      have e8 : c.toInt8.toInt32.toInt8.toInt32 = c.toInt8.toInt32 := by simp
      rw [e8, lo8s_set hci hi] at B4
      exact ih (i + 1) _ _ (One.val rfl) (by omega) (lat_snoc hlt hci hcc) (K.wr W2 (Or.inl (List.Mem.head _))) F5 B4
set_option maxRecDepth 65536 in
set_option maxHeartbeats 4000000 in
theorem c_cmp5g {l : Launch} {Z : State} {a0 : Array Value} {n0 : Nat} (hB : Base Z a0) {b d : Addr} {kb kd : ClassId} (cs : List Int32) (hn : cs.length ≤ 4000) (hne : b ≠ d) {h : Heap} (A : Arv Z h b kb .char (Int32.ofNat cs.length) (cs.map Value.int) (.int 0)) (B : Arv Z h d kd .byte (Int32.ofNat cs.length) (List.replicate cs.length (Value.int 0)) (.int 0)) :
    Con l Z ELc n0 (⟨"java/lang/StringUTF16", "compress", "([CI[BII)I"⟩ : MethodName) jdk_52_method_21_code 7 (Option.some FieldType.int) [] ({ frames := 0, cells := 0, slots := 0, locals := 0 } : Room) #[.ref b, .int 0, .ref d, .int 0, .int (Int32.ofNat cs.length)] h [d] (fun v h' sf' => sf' = [] ∧ Keep h h' [d] ∧ ((lat cs ∧ v = some (.int (Int32.ofNat cs.length)) ∧ Arv Z h' d kd .byte (Int32.ofNat cs.length) (lo8s cs) (.int 0)) ∨ (∃ p c, p < cs.length ∧ cs[p]? = some c ∧ (255 : Int32) < c ∧ v = some (.int (Int32.ofNat p))))) := by
  refine con_of (a0 := a0) (ls := #[.val (.ref b), .val (.int 0), .val (.ref d), .val (.int 0), .val (.int (Int32.ofNat cs.length)), .unset, .unset]) (plainFor_of_name (by decide +kernel)) hB.2.1 (fun m => by first | rfl | simp [entryFrame, mkF, argsToLocals, Value.category]) ?_
  show Go l Z a0 ELc n0 ({ frames := 0, cells := 0, slots := 0, locals := 0 } : Room) "java/lang/StringUTF16" jdk_52_method_21_code 7 (Option.some FieldType.int) "compress" _ h [d] 0 0 0 #[.val (.ref b), .val (.int 0), .val (.ref d), .val (.int 0), .val (.int (Int32.ofNat cs.length)), .unset, .unset] []
  refine go_iconst 0 d_b5_0 rfl (by decide) ?_
  refine go_istore d_b5_1 rfl #[.val (.ref b), .val (.int 0), .val (.ref d), .val (.int 0), .val (.int (Int32.ofNat cs.length)), .val (.int 0), .unset] rfl ?_
  exact cmp5g_loop hB cs hn hne h cs.length 0 h _ One.u (by omega) (fun _ q => nomatch q) (Keep.refl _ _) A (by simpa [lo8s] using B)
set_option maxRecDepth 65536 in
set_option maxHeartbeats 4000000 in
theorem c_put {l : Launch} {Z : State} {a0 : Array Value} {n0 : Nat} (hB : Base Z a0) {d : Addr} {kd : ClassId} {z c : Int32} {vs : List Value} (i : Nat) (hz : z = Int32.ofNat vs.length) (hl : vs.length ≤ 100000) (hi : 2 * i + 1 < vs.length) {h : Heap} (B : Arv Z h d kd .byte z vs (.int 0)) :
    Con l Z ELc n0 (⟨"java/lang/StringUTF16", "putChar", "([BII)V"⟩ : MethodName) jdk_52_method_4_code 3 (Option.none : Option FieldType) [] ({ frames := 0, cells := 0, slots := 0, locals := 0 } : Room) #[.ref d, .int (Int32.ofNat i), .int c] h [d] (fun v h' sf' => v = none ∧ sf' = [] ∧ Keep h h' [d] ∧ Arv Z h' d kd .byte z ((vs.set (2 * i) (.int (loB c))).set (2 * i + 1) (.int (hiB c))) (.int 0)) := by
  refine con_of (a0 := a0) (ls := #[.val (.ref d), .val (.int (Int32.ofNat i)), .val (.int c)]) (plainFor_of_name (by decide +kernel)) hB.2.1 (fun m => by first | rfl | simp [entryFrame, mkF, argsToLocals, Value.category]) ?_
  show Go l Z a0 ELc n0 ({ frames := 0, cells := 0, slots := 0, locals := 0 } : Room) "java/lang/StringUTF16" jdk_52_method_4_code 3 (Option.none : Option FieldType) "putChar" _ h [d] 0 0 0 #[.val (.ref d), .val (.int (Int32.ofNat i)), .val (.int c)] []
  obtain ⟨U1, U2, U3⟩ := hB.2.2.2.1
  subst hz
  refine go_getstatic d_b15_0 rfl (wd hB 64 rfl) Via.refl U1 ?_
  refine go_if_ne_t (pt := 28) d_b15_3 (by decide) (by decide) (by decide) ?_
  refine go_iloadN d_b15_28 rfl rfl ?_
  refine go_iconst 1 d_b15_29 rfl (by decide) ?_
  refine go_ishl d_b15_30 rfl ?_
  rw [shl1 (by omega)]
  refine go_istoreN d_b15_31 rfl #[.val (.ref d), .val (.int (Int32.ofNat (2 * i))), .val (.int c)] rfl ?_
  refine go_aloadN d_b15_32 rfl rfl rfl ?_
  refine go_iloadN d_b15_33 rfl rfl ?_
  refine go_iinc 1 d_b15_34 rfl #[.val (.ref d), .val (.int ((Int32.ofNat (2 * i)) + 1)), .val (.int c)] (by decide) rfl rfl ?_
  rw [ofN_succ]
  refine go_iloadN d_b15_37 rfl rfl ?_
  refine go_getstatic d_b15_38 rfl (wd hB 65 rfl) Via.refl U2 ?_
  refine go_ishr d_b15_41 rfl ?_
  refine go_i2b d_b15_42 rfl ?_
  refine go_bastore (2 * i) d_b15_43 rfl B ⟨ofN_nneg (by omega), ofN_lt (by omega) (by omega)⟩ (ofN_cl (by omega)) (by omega) (List.Mem.head _) ?_
  intro h101 W102 B103
  have B104 : Arv Z h101 d kd .byte (Int32.ofNat vs.length) (vs.set (2 * i) (.int (loB c))) (.int 0) := B103
  refine go_aloadN d_b15_44 rfl rfl rfl ?_
  refine go_iloadN d_b15_45 rfl rfl ?_
  refine go_iloadN d_b15_46 rfl rfl ?_
  refine go_getstatic d_b15_47 rfl (wd hB 66 rfl) Via.refl U3 ?_
  refine go_ishr d_b15_50 rfl ?_
  refine go_i2b d_b15_51 rfl ?_
  refine go_bastore (2 * i + 1) d_b15_52 rfl B104 ⟨ofN_nneg (by omega), ofN_lt (by omega) (by omega)⟩ (ofN_cl (by omega)) (by rw [List.length_set]; omega) (List.Mem.head _) ?_
  intro h105 W106 B107
  have B108 : Arv Z h105 d kd .byte (Int32.ofNat vs.length) ((vs.set (2 * i) (.int (loB c))).set (2 * i + 1) (.int (hiB c))) (.int 0) := B107
  refine go_ret d_b15_53 [] rfl (by decide) (by decide) (fun _ q => nomatch q) ?_
  exact ⟨rfl, rfl, (((Keep.refl h [d]).wr W102 (Or.inl (List.Mem.head _))).wr W106 (Or.inl (List.Mem.head _))), B108⟩
set_option maxRecDepth 65536 in
set_option maxHeartbeats 4000000 in
theorem c_get {l : Launch} {Z : State} {a0 : Array Value} {n0 : Nat} (hB : Base Z a0) {d : Addr} {kd : ClassId} {z c : Int32} {vs : List Value} (i : Nat) (hc : isU c) (hz : z = Int32.ofNat vs.length) (hl : vs.length ≤ 100000) (hi : 2 * i + 1 < vs.length) (h1 : vs.getD (2 * i) (.int 0) = .int (loB c)) (h2 : vs.getD (2 * i + 1) (.int 0) = .int (hiB c)) {h : Heap} (B : Arv Z h d kd .byte z vs (.int 0)) :
    Con l Z ELc n0 (⟨"java/lang/StringUTF16", "getChar", "([BI)C"⟩ : MethodName) jdk_52_method_5_code 2 (Option.some FieldType.char) [] ({ frames := 0, cells := 0, slots := 0, locals := 0 } : Room) #[.ref d, .int (Int32.ofNat i)] h [] (fun v h' sf' => v = some (.int c) ∧ sf' = [] ∧ h = h') := by
  refine con_of (a0 := a0) (ls := #[.val (.ref d), .val (.int (Int32.ofNat i))]) (plainFor_of_name (by decide +kernel)) hB.2.1 (fun m => by first | rfl | simp [entryFrame, mkF, argsToLocals, Value.category]) ?_
  show Go l Z a0 ELc n0 ({ frames := 0, cells := 0, slots := 0, locals := 0 } : Room) "java/lang/StringUTF16" jdk_52_method_5_code 2 (Option.some FieldType.char) "getChar" _ h [] 0 0 0 #[.val (.ref d), .val (.int (Int32.ofNat i))] []
  obtain ⟨U1, U2, U3⟩ := hB.2.2.2.1
  subst hz
  refine go_getstatic d_b19_0 rfl (wd hB 64 rfl) Via.refl U1 ?_
  refine go_if_ne_t (pt := 28) d_b19_3 (by decide) (by decide) (by decide) ?_
  refine go_iloadN d_b19_28 rfl rfl ?_
  refine go_iconst 1 d_b19_29 rfl (by decide) ?_
  refine go_ishl d_b19_30 rfl ?_
  rw [shl1 (by omega)]
  refine go_istoreN d_b19_31 rfl #[.val (.ref d), .val (.int (Int32.ofNat (2 * i)))] rfl ?_
  refine go_aloadN d_b19_32 rfl rfl rfl ?_
  refine go_iloadN d_b19_33 rfl rfl ?_
  refine go_iinc 1 d_b19_34 rfl #[.val (.ref d), .val (.int ((Int32.ofNat (2 * i)) + 1))] (by decide) rfl rfl ?_
  rw [ofN_succ]
  refine go_baload (v := (.int (loB c))) (2 * i) d_b19_37 rfl B ⟨ofN_nneg (by omega), ofN_lt (by omega) (by omega)⟩ (ofN_cl (by omega)) h1 ?_
  refine go_sipush 255 d_b19_38 rfl (by decide) ?_
  refine go_iand d_b19_41 rfl ?_
  refine go_getstatic d_b19_42 rfl (wd hB 65 rfl) Via.refl U2 ?_
  refine go_ishl d_b19_45 rfl ?_
  refine go_aloadN d_b19_46 rfl rfl rfl ?_
  refine go_iloadN d_b19_47 rfl rfl ?_
  refine go_baload (v := (.int (hiB c))) (2 * i + 1) d_b19_48 rfl B ⟨ofN_nneg (by omega), ofN_lt (by omega) (by omega)⟩ (ofN_cl (by omega)) h2 ?_
  refine go_sipush 255 d_b19_49 rfl (by decide) ?_
  refine go_iand d_b19_52 rfl ?_
  refine go_getstatic d_b19_53 rfl (wd hB 66 rfl) Via.refl U3 ?_
  refine go_ishl d_b19_56 rfl ?_
  refine go_ior d_b19_57 rfl ?_
  refine go_i2c d_b19_58 rfl ?_
  refine go_retN (t := .char) d_b19_59 [] rfl (by simp) (by decide) (by decide) (fun _ q => nomatch q) ?_
  rw [get_put hc]
  exact ⟨by rw [hc.nar], rfl, rfl⟩
set_option maxRecDepth 65536 in
set_option maxHeartbeats 4000000 in
theorem c_nbl {l : Launch} {Z : State} {a0 : Array Value} {n0 : Nat} (hB : Base Z a0) (n : Nat) (hn : n ≤ 4000) {h : Heap} :
    Con l Z ELc n0 (⟨"java/lang/StringUTF16", "newBytesLength", "(I)I"⟩ : MethodName) jdk_52_method_3_code 1 (Option.some FieldType.int) [] ({ frames := 0, cells := 0, slots := 0, locals := 0 } : Room) #[.int (Int32.ofNat n)] h [] (fun v h' sf' => v = some (.int (Int32.ofNat (2 * n))) ∧ sf' = [] ∧ h = h') := by
  refine con_of (a0 := a0) (ls := #[.val (.int (Int32.ofNat n))]) (plainFor_of_name (by decide +kernel)) hB.2.1 (fun m => by first | rfl | simp [entryFrame, mkF, argsToLocals, Value.category]) ?_
  show Go l Z a0 ELc n0 ({ frames := 0, cells := 0, slots := 0, locals := 0 } : Room) "java/lang/StringUTF16" jdk_52_method_3_code 1 (Option.some FieldType.int) "newBytesLength" _ h [] 0 0 0 #[.val (.int (Int32.ofNat n))] []
  refine go_iloadN d_b18_0 rfl rfl ?_
  refine go_if_ge_t (pt := 12) d_b18_1 (by decide) (by decide) (ofN_nneg (by omega)) ?_
  refine go_iloadN d_b18_12 rfl rfl ?_
  refine go_ldcI d_b18_13 rfl (wd hB 76 rfl) ?_
  refine go_icmp_lt_t (pt := 55) d_b18_15 (by decide) (by decide) (ofN_lt (n := 1073741823) (by omega) (by decide)) ?_
  refine go_iloadN d_b18_55 rfl rfl ?_
  refine go_iconst 1 d_b18_56 rfl (by decide) ?_
  refine go_ishl d_b18_57 rfl ?_
  refine go_retI d_b18_58 [] rfl (by decide) (by decide) (fun _ q => nomatch q) ?_
  rw [shl1 (by omega)]
  exact ⟨rfl, rfl, rfl⟩
set_option maxRecDepth 65536 in
set_option maxHeartbeats 4000000 in
theorem c_nbf {l : Launch} {Z : State} {a0 : Array Value} {n0 : Nat} (hB : Base Z a0) (n : Nat) (hn : n ≤ 8) {h : Heap} :
    Con l Z ELc n0 (⟨"java/lang/StringUTF16", "newBytesFor", "(I)[B"⟩ : MethodName) jdk_52_method_2_code 1 (Option.some (FieldType.array FieldType.byte)) [] ({ frames := 1, cells := 1, slots := 16, locals := 12 } : Room) #[.int (Int32.ofNat n)] h [] (fun v h' sf' => ∃ d kd, v = some (.ref d) ∧ sf' = [d] ∧ Ext h h' ∧ h.size ≤ d ∧ Arv Z h' d kd .byte (Int32.ofNat (2 * n)) (List.replicate (2 * n) (Value.int 0)) (.int 0)) := by
  refine con_of (a0 := a0) (ls := #[.val (.int (Int32.ofNat n))]) (plainFor_of_name (by decide +kernel)) hB.2.1 (fun m => by first | rfl | simp [entryFrame, mkF, argsToLocals, Value.category]) ?_
  show Go l Z a0 ELc n0 ({ frames := 1, cells := 1, slots := 16, locals := 12 } : Room) "java/lang/StringUTF16" jdk_52_method_2_code 1 (Option.some (FieldType.array FieldType.byte)) "newBytesFor" _ h [] 0 0 0 #[.val (.int (Int32.ofNat n))] []
  refine go_iloadN d_b17_0 rfl rfl ?_
  refine go_static [(.int (Int32.ofNat n))] [] 0 d_b17_1 rfl (wd hB 73 rfl) (wd hB 74 rfl) (wd hB 18 rfl) (wd hB 75 rfl) (c_nbl hB n (by omega)) (fun _ q => nomatch q) (lenOf pd_0 rfl) rfl rfl rfl (by decide) (by decide) (by decide) (by decide) (by decide) (fun v101 h102 s103 q104 => ?_)
  obtain ⟨rfl, rfl, rfl⟩ := q104
  show Go _ _ _ _ _ _ _ _ _ _ _ _ h [] 0 0 4 #[.val (.int (Int32.ofNat n))] [(.int (Int32.ofNat (2 * n)))]
  refine go_newarr (ty := .byte) (ad := "[B") 16 d_b17_4 rfl rfl (wd hB 20 rfl) (ofN_nneg (by omega)) (by rw [ofN_cl (by omega)]; omega) (by decide) (by decide) (by decide) (by decide) ?_
  intro h110 x105 hx106 E107 ⟨A108, k109, B111⟩
  have B112 : Arv Z h110 x105 k109 .byte (Int32.ofNat (2 * n)) (List.replicate (2 * n) (Value.int 0)) (.int 0) := B111.pad (pad_rep [] (.int 0) (2 * n))
  refine go_retA d_b17_6 [x105] rfl rfl rfl rfl (by decide) (by decide) (allS (List.Mem.head _) (fun _ q => nomatch q)) ?_
  exact ⟨_, _, rfl, rfl, (ext_of_keep ((Keep.refl h []).ext E107)), (Nat.le_of_eq hx106.symm), B112⟩
set_option maxRecDepth 65536 in
set_option maxHeartbeats 4000000 in
theorem tob_loop {l : Launch} {Z : State} {a0 : Array Value} {n0 : Nat} (hB : Base Z a0) {b d : Addr} {kb kd : ClassId} (cs : List Int32) (hn : cs.length ≤ 8) (hne : b ≠ d) (h0 : Heap) :
    ∀ (j i : Nat) (h : Heap), i + j = cs.length → Keep h0 h [d] → Arv Z h b kb .char (Int32.ofNat cs.length) (cs.map Value.int) (.int 0) → Arv Z h d kd .byte (Int32.ofNat (2 * cs.length)) (u16s (cs.take i) ++ List.replicate (2 * j) (Value.int 0)) (.int 0) →
      Go l Z a0 ELc n0 ({ frames := 2, cells := 1, slots := 16, locals := 24 } : Room) "java/lang/StringUTF16" jdk_52_method_14_code 5 (Option.some (FieldType.array FieldType.byte)) "toBytes" (fun v h' sf' => v = some (.ref d) ∧ sf' = [] ∧ Keep h0 h' [d] ∧ Arv Z h' d kd .byte (Int32.ofNat (2 * cs.length)) (u16s cs) (.int 0)) h [d] 1 16 8 #[.val (.ref b), .val (.int (Int32.ofNat i)), .val (.int (Int32.ofNat cs.length)), .val (.ref d), .val (.int (Int32.ofNat i))] [] := by
  intro j
  induction j with
  | zero =>
    intro i h hi K A B
    refine go_iload d_b16_8 rfl rfl ?_
    refine go_iloadN d_b16_10 rfl rfl ?_
    refine go_icmp_ge_t (pt := 32) d_b16_11 (by decide) (by decide) (ofN_nlt (by omega) (by omega)) ?_
    refine go_aloadN d_b16_32 rfl rfl rfl ?_
    refine go_retA d_b16_33 [] rfl rfl rfl rfl (by decide) (by decide) (fun _ q => nomatch q) ?_
    have e : i = cs.length := by omega
    subst e
    exact ⟨rfl, rfl, K, by simpa using B⟩
  | succ j ih =>
    intro i h hi K A B
    obtain ⟨c, hci, hcm⟩ := at_of (cs := cs) (i := i) (by omega)
    refine go_iload d_b16_8 rfl rfl ?_
    refine go_iloadN d_b16_10 rfl rfl ?_
    refine go_icmp_ge_f d_b16_11 rfl (ofN_lt (by omega) (by omega)) ?_
    refine go_aloadN d_b16_14 rfl rfl rfl ?_
    refine go_iload d_b16_15 rfl rfl ?_
    refine go_aloadN d_b16_17 rfl rfl rfl ?_
    refine go_iloadN d_b16_18 rfl rfl ?_
    refine go_caload (v := (.int c)) i d_b16_19 rfl A ⟨ofN_nneg (by omega), ofN_lt (by omega) (by omega)⟩ (ofN_cl (by omega)) (map_at hci) ?_
    refine go_static [(.ref d), (.int (Int32.ofNat i)), (.int c)] [] 0 d_b16_20 rfl (wd hB 61 rfl) (wd hB 62 rfl) (wd hB 18 rfl) (wd hB 63 rfl) (c_put hB (vs := u16s (cs.take i) ++ List.replicate (2 * (j + 1)) (Value.int 0)) i (by congr 1; rw [List.length_append, u16s_len, List.length_take, List.length_replicate]; omega) (by rw [List.length_append, u16s_len, List.length_take, List.length_replicate]; omega) (by rw [List.length_append, u16s_len, List.length_take, List.length_replicate]; omega) B) (allS (List.Mem.head _) (fun _ q => nomatch q)) (lenOf pd_1 rfl) rfl rfl rfl (by decide) (by decide) (by decide) (by decide) (by decide) (fun v101 h102 s103 q104 => ?_)
    obtain ⟨rfl, rfl, K105, B106⟩ := q104
    rw [u16s_set hci hi] at B106
    show Go _ _ _ _ _ _ _ _ _ _ _ _ h102 [d] 1 16 23 #[.val (.ref b), .val (.int (Int32.ofNat i)), .val (.int (Int32.ofNat cs.length)), .val (.ref d), .val (.int (Int32.ofNat i))] []
    refine go_iinc 1 d_b16_23 rfl #[.val (.ref b), .val (.int ((Int32.ofNat i) + 1)), .val (.int (Int32.ofNat cs.length)), .val (.ref d), .val (.int (Int32.ofNat i))] (by decide) rfl rfl ?_
    refine go_iinc 1 d_b16_26 rfl #[.val (.ref b), .val (.int ((Int32.ofNat i) + 1)), .val (.int (Int32.ofNat cs.length)), .val (.ref d), .val (.int ((Int32.ofNat i) + 1))] (by decide) rfl rfl ?_
    refine go_goto (pt := 8) d_b16_29 (by decide) (by decide) ?_
    rw [ofN_succ]
    have F107 := (A.keep K105 (ninS hne nin0))
    exact ih (i + 1) _ (by omega) (K.trans K105 (allS (Or.inl (List.Mem.head _)) all0)) F107 B106
set_option maxRecDepth 65536 in
set_option maxHeartbeats 4000000 in
theorem c_tob {l : Launch} {Z : State} {a0 : Array Value} {n0 : Nat} (hB : Base Z a0) {b : Addr} {kb : ClassId} (cs : List Int32) (hn : cs.length ≤ 8) {h : Heap} (A : Arv Z h b kb .char (Int32.ofNat cs.length) (cs.map Value.int) (.int 0)) :
    Con l Z ELc n0 (⟨"java/lang/StringUTF16", "toBytes", "([CII)[B"⟩ : MethodName) jdk_52_method_14_code 5 (Option.some (FieldType.array FieldType.byte)) [] ({ frames := 2, cells := 1, slots := 16, locals := 24 } : Room) #[.ref b, .int 0, .int (Int32.ofNat cs.length)] h [] (fun v h' sf' => ∃ d kd, v = some (.ref d) ∧ sf' = [] ∧ Ext h h' ∧ h.size ≤ d ∧ Arv Z h' d kd .byte (Int32.ofNat (2 * cs.length)) (u16s cs) (.int 0)) := by
  refine con_of (a0 := a0) (ls := #[.val (.ref b), .val (.int 0), .val (.int (Int32.ofNat cs.length)), .unset, .unset]) (plainFor_of_name (by decide +kernel)) hB.2.1 (fun m => by first | rfl | simp [entryFrame, mkF, argsToLocals, Value.category]) ?_
  show Go l Z a0 ELc n0 ({ frames := 2, cells := 1, slots := 16, locals := 24 } : Room) "java/lang/StringUTF16" jdk_52_method_14_code 5 (Option.some (FieldType.array FieldType.byte)) "toBytes" _ h [] 0 0 0 #[.val (.ref b), .val (.int 0), .val (.int (Int32.ofNat cs.length)), .unset, .unset] []
  refine go_iloadN d_b16_0 rfl rfl ?_
  refine go_static [(.int (Int32.ofNat cs.length))] [] 0 d_b16_1 rfl (wd hB 70 rfl) (wd hB 71 rfl) (wd hB 18 rfl) (wd hB 72 rfl) (c_nbf hB cs.length hn) (fun _ q => nomatch q) (lenOf pd_2 rfl) rfl rfl rfl (by decide) (by decide) (by decide) (by decide) (by decide) (fun v101 h102 s103 q104 => ?_)
  obtain ⟨d105, k106, rfl, rfl, E107, g108, B109⟩ := q104
  show Go _ _ _ _ _ _ _ _ _ _ _ _ h102 [d105] 1 16 4 #[.val (.ref b), .val (.int 0), .val (.int (Int32.ofNat cs.length)), .unset, .unset] [(.ref d105)]
  refine go_astoreN d_b16_4 rfl #[.val (.ref b), .val (.int 0), .val (.int (Int32.ofNat cs.length)), .val (.ref d105), .unset] rfl rfl ?_
  refine go_iconst 0 d_b16_5 rfl (by decide) ?_
  refine go_istore d_b16_6 rfl #[.val (.ref b), .val (.int 0), .val (.int (Int32.ofNat cs.length)), .val (.ref d105), .val (.int 0)] rfl ?_
  have F110 := (A.ext E107)
  refine Go.mono (tob_loop hB cs hn (Nat.ne_of_lt (Nat.lt_of_lt_of_le A.lt g108)) h102 cs.length 0 _ (by omega) (Keep.refl _ _) F110 (by simpa [u16s] using B109)) ?_
  rintro v h' sf' ⟨rfl, rfl, K', B'⟩
  exact ⟨_, _, rfl, rfl, ext_of_keep ((Keep.refl h []).ext E107 |>.trans K' (allS (Or.inr g108) all0)), g108, B'⟩
set_option maxRecDepth 65536 in
set_option maxHeartbeats 4000000 in
theorem c_cod {l : Launch} {Z : State} {a0 : Array Value} {n0 : Nat} (hB : Base Z a0) {d : Addr} {kd : ClassId} {z : Int32} {vs : List Value} {h : Heap} (B : Arv Z h d kd .byte z vs (.int 0)) :
    Con l Z ELc n0 (⟨"java/lang/StringUTF16", "coderFromArrayLen", "([BI)B"⟩ : MethodName) jdk_52_method_15_code 2 (Option.some FieldType.byte) [] ({ frames := 0, cells := 0, slots := 0, locals := 0 } : Room) #[.ref d, .int z] h [] (fun v h' sf' => v = some (.int 0) ∧ sf' = [] ∧ h = h') := by
  refine con_of (a0 := a0) (ls := #[.val (.ref d), .val (.int z)]) (plainFor_of_name (by decide +kernel)) hB.2.1 (fun m => by first | rfl | simp [entryFrame, mkF, argsToLocals, Value.category]) ?_
  show Go l Z a0 ELc n0 ({ frames := 0, cells := 0, slots := 0, locals := 0 } : Room) "java/lang/StringUTF16" jdk_52_method_15_code 2 (Option.some FieldType.byte) "coderFromArrayLen" _ h [] 0 0 0 #[.val (.ref d), .val (.int z)] []
  refine go_iloadN d_b6_0 rfl rfl ?_
  refine go_aloadN d_b6_1 rfl rfl rfl ?_
  refine go_alen d_b6_2 rfl B ?_
  refine go_isub d_b6_3 rfl ?_
  refine go_bipush 31 d_b6_4 rfl (by decide) ?_
  refine go_iushr d_b6_6 rfl ?_
  refine go_i2b d_b6_7 rfl ?_
  refine go_retN (t := .byte) d_b6_8 [] rfl (by simp) (by decide) (by decide) (fun _ q => nomatch q) ?_
  refine ⟨?_, rfl, rfl⟩
  rw [Int32.sub_self]
  decide
theorem cod_u {n : Nat} (h0 : 0 < n) (hn : n ≤ 4000) : (XT.ushr (Int32.ofNat n - Int32.ofNat (2 * n)) 31).toInt8.toInt32 = 1 := by
  have e : Int32.ofNat n - Int32.ofNat (2 * n) = Int32.ofInt (-(n : Int)) := by
    apply Int32.toInt_inj.mp
    rw [Int32.toInt_sub, ofN_int (by omega), ofN_int (by omega), Int32.toInt_ofInt]
    congr 1; omega
  have hx : (XT.ushr (Int32.ofNat n - Int32.ofNat (2 * n)) 31) = 1 := by
    rw [e]
    apply Int32.toBitVec_inj.mp
    apply BitVec.eq_of_toNat_eq
    show ((Int32.ofInt (-(n : Int))).toUInt32 >>> ((31 : Int32) &&& 31).toUInt32).toNat = 1
    have e31 : (((31 : Int32) &&& 31).toUInt32) = 31 := by decide
    rw [e31, UInt32.toNat_shiftRight]
    have en : (Int32.ofInt (-(n : Int))).toUInt32.toNat = 4294967296 - n := by
      show (BitVec.ofInt 32 (-(n : Int))).toNat = _
      rw [BitVec.toNat_ofInt]; omega
    rw [en]
    show (4294967296 - n) >>> (31 % 32) = 1
    rw [Nat.shiftRight_eq_div_pow]
    show (4294967296 - n) / 2147483648 = 1
    omega
  rw [hx]; decide
set_option maxRecDepth 65536 in
set_option maxHeartbeats 4000000 in
theorem c_codu {l : Launch} {Z : State} {a0 : Array Value} {n0 : Nat} (hB : Base Z a0) {d : Addr} {kd : ClassId} {vs : List Value} (n : Nat) (h0 : 0 < n) (hn : n ≤ 4000) {h : Heap} (B : Arv Z h d kd .byte (Int32.ofNat (2 * n)) vs (.int 0)) :
    Con l Z ELc n0 (⟨"java/lang/StringUTF16", "coderFromArrayLen", "([BI)B"⟩ : MethodName) jdk_52_method_15_code 2 (Option.some FieldType.byte) [] ({ frames := 0, cells := 0, slots := 0, locals := 0 } : Room) #[.ref d, .int (Int32.ofNat n)] h [] (fun v h' sf' => v = some (.int 1) ∧ sf' = [] ∧ h = h') := by
  refine con_of (a0 := a0) (ls := #[.val (.ref d), .val (.int (Int32.ofNat n))]) (plainFor_of_name (by decide +kernel)) hB.2.1 (fun m => by first | rfl | simp [entryFrame, mkF, argsToLocals, Value.category]) ?_
  show Go l Z a0 ELc n0 ({ frames := 0, cells := 0, slots := 0, locals := 0 } : Room) "java/lang/StringUTF16" jdk_52_method_15_code 2 (Option.some FieldType.byte) "coderFromArrayLen" _ h [] 0 0 0 #[.val (.ref d), .val (.int (Int32.ofNat n))] []
  refine go_iloadN d_b6_0 rfl rfl ?_
  refine go_aloadN d_b6_1 rfl rfl rfl ?_
  refine go_alen d_b6_2 rfl B ?_
  refine go_isub d_b6_3 rfl ?_
  refine go_bipush 31 d_b6_4 rfl (by decide) ?_
  refine go_iushr d_b6_6 rfl ?_
  refine go_i2b d_b6_7 rfl ?_
  refine go_retN (t := .byte) d_b6_8 [] rfl (by simp) (by decide) (by decide) (fun _ q => nomatch q) ?_
  rw [cod_u h0 hn]
  exact ⟨by decide, rfl, rfl⟩
set_option maxRecDepth 65536 in
set_option maxHeartbeats 4000000 in
theorem c_cmp3g {l : Launch} {Z : State} {a0 : Array Value} {n0 : Nat} (hB : Base Z a0) {b : Addr} {kb : ClassId} (cs : List Int32) (hn : cs.length ≤ 8) (hc : ∀ c ∈ cs, isU c) {h : Heap} (A : Arv Z h b kb .char (Int32.ofNat cs.length) (cs.map Value.int) (.int 0)) :
    Con l Z ELc n0 (⟨"java/lang/StringUTF16", "compress", "([CII)[B"⟩ : MethodName) jdk_52_method_16_code 6 (Option.some (FieldType.array FieldType.byte)) [] ({ frames := 3, cells := 2, slots := 24, locals := 40 } : Room) #[.ref b, .int 0, .int (Int32.ofNat cs.length)] h [] (fun v h' sf' => ∃ d kd, v = some (.ref d) ∧ sf' = [] ∧ Ext h h' ∧ h.size ≤ d ∧ Arv Z h' d kd .byte (Int32.ofNat (bytS cs).length) (bytS cs) (.int 0)) := by
  refine con_of (a0 := a0) (ls := #[.val (.ref b), .val (.int 0), .val (.int (Int32.ofNat cs.length)), .unset, .unset, .unset]) (plainFor_of_name (by decide +kernel)) hB.2.1 (fun m => by first | rfl | simp [entryFrame, mkF, argsToLocals, Value.category]) ?_
  show Go l Z a0 ELc n0 ({ frames := 3, cells := 2, slots := 24, locals := 40 } : Room) "java/lang/StringUTF16" jdk_52_method_16_code 6 (Option.some (FieldType.array FieldType.byte)) "compress" _ h [] 0 0 0 #[.val (.ref b), .val (.int 0), .val (.int (Int32.ofNat cs.length)), .unset, .unset, .unset] []
  refine go_iloadN d_b4_0 rfl rfl ?_
  refine go_newarr (ty := .byte) (ad := "[B") 8 d_b4_1 rfl rfl (wd hB 20 rfl) (ofN_nneg (by omega)) (by rw [ofN_cl (by omega)]; exact hn) (by decide) (by decide) (by decide) (by decide) ?_
  intro h106 x101 hx102 E103 ⟨A104, k105, B107⟩
  have B108 : Arv Z h106 x101 k105 .byte (Int32.ofNat cs.length) (List.replicate cs.length (Value.int 0)) (.int 0) := B107.pad (pad_rep [] (.int 0) cs.length)
  refine go_astoreN d_b4_3 rfl #[.val (.ref b), .val (.int 0), .val (.int (Int32.ofNat cs.length)), .val (.ref x101), .unset, .unset] rfl rfl ?_
  refine go_aloadN d_b4_4 rfl rfl rfl ?_
  refine go_iloadN d_b4_5 rfl rfl ?_
  refine go_aloadN d_b4_6 rfl rfl rfl ?_
  refine go_iconst 0 d_b4_7 rfl (by decide) ?_
  refine go_iloadN d_b4_8 rfl rfl ?_
  have F109 := (A.ext E103)
  refine go_static [(.ref b), (.int 0), (.ref x101), (.int 0), (.int (Int32.ofNat cs.length))] [] 0 d_b4_9 rfl (wd hB 21 rfl) (wd hB 22 rfl) (wd hB 18 rfl) (wd hB 23 rfl) (c_cmp5g hB cs (by omega) (Nat.ne_of_lt (Nat.lt_of_lt_of_le A.lt (Nat.le_of_eq hx102.symm))) F109 B108) (allS (List.Mem.head _) (fun _ q => nomatch q)) (lenOf pd_3 rfl) rfl rfl rfl (by decide) (by decide) (by decide) (by decide) (by decide) (fun v110 h111 s112 q113 => ?_)
  obtain ⟨rfl, K114, q113a⟩ := q113
  rcases q113a with ⟨hlat, rfl, B5⟩ | ⟨p5, c5, hp5, hc5, hcc5, rfl⟩
  · skip
    show Go _ _ _ _ _ _ _ _ _ _ _ _ h111 [x101] 1 8 12 #[.val (.ref b), .val (.int 0), .val (.int (Int32.ofNat cs.length)), .val (.ref x101), .unset, .unset] [(.int (Int32.ofNat cs.length))]
    refine go_istore d_b4_12 rfl #[.val (.ref b), .val (.int 0), .val (.int (Int32.ofNat cs.length)), .val (.ref x101), .val (.int (Int32.ofNat cs.length)), .unset] rfl ?_
    refine go_iload d_b4_14 rfl rfl ?_
    refine go_iloadN d_b4_16 rfl rfl ?_
    refine go_icmp_eq_t (pt := 57) d_b4_17 (by decide) (by decide) rfl ?_
    refine go_aloadN d_b4_57 rfl rfl rfl ?_
    refine go_retA d_b4_58 [] rfl rfl rfl rfl (by decide) (by decide) (fun _ q => nomatch q) ?_
    refine ⟨_, k105, rfl, rfl, (ext_of_keep (((Keep.refl h []).ext E103).trans K114 (allS (Or.inr (Nat.le_of_eq hx102.symm)) all0))), (Nat.le_of_eq hx102.symm), ?_⟩
    rw [bytS_lat hlat, lo8s_len]
    exact B5
  · skip
    show Go _ _ _ _ _ _ _ _ _ _ _ _ h111 [x101] 1 8 12 #[.val (.ref b), .val (.int 0), .val (.int (Int32.ofNat cs.length)), .val (.ref x101), .unset, .unset] [(.int (Int32.ofNat p5))]
    refine go_istore d_b4_12 rfl #[.val (.ref b), .val (.int 0), .val (.int (Int32.ofNat cs.length)), .val (.ref x101), .val (.int (Int32.ofNat p5)), .unset] rfl ?_
    refine go_iload d_b4_14 rfl rfl ?_
    refine go_iloadN d_b4_16 rfl rfl ?_
    refine go_icmp_eq_f d_b4_17 rfl (fun q => by have := ofN_int (i := p5) (by omega); rw [q, ofN_int (by omega)] at this; omega) ?_
    refine go_aloadN d_b4_20 rfl rfl rfl ?_
    refine go_iloadN d_b4_21 rfl rfl ?_
    refine go_iloadN d_b4_22 rfl rfl ?_
    have F115 := (F109.keep K114 (ninS (Nat.ne_of_lt (Nat.lt_of_lt_of_le A.lt (Nat.le_of_eq hx102.symm))) nin0))
    refine go_static [(.ref b), (.int 0), (.int (Int32.ofNat cs.length))] [] 0 d_b4_23 rfl (wd hB 67 rfl) (wd hB 68 rfl) (wd hB 18 rfl) (wd hB 69 rfl) (c_tob hB cs hn F115) (fun _ q => nomatch q) (lenOf pd_4 rfl) rfl rfl rfl (by decide) (by decide) (by decide) (by decide) (by decide) (fun v116 h117 s118 q119 => ?_)
    obtain ⟨d120, k121, rfl, rfl, E122, g123, B124⟩ := q119
    show Go _ _ _ _ _ _ _ _ _ _ _ _ h117 [x101] 2 24 26 #[.val (.ref b), .val (.int 0), .val (.int (Int32.ofNat cs.length)), .val (.ref x101), .val (.int (Int32.ofNat p5)), .unset] [(.ref d120)]
    refine go_astore d_b4_26 rfl #[.val (.ref b), .val (.int 0), .val (.int (Int32.ofNat cs.length)), .val (.ref x101), .val (.int (Int32.ofNat p5)), .val (.ref d120)] rfl rfl ?_
    refine go_aload d_b4_28 rfl rfl rfl ?_
    refine go_iload d_b4_30 rfl rfl ?_
    refine go_static [(.ref d120), (.int (Int32.ofNat p5))] [] 0 d_b4_32 rfl (wd hB 77 rfl) (wd hB 78 rfl) (wd hB 18 rfl) (wd hB 79 rfl) (c_get hB p5 (hc c5 (List.mem_of_getElem? hc5)) (by rw [u16s_len]) (by rw [u16s_len]; omega) (by rw [u16s_len]; omega) (u16s_lo hc5) (u16s_hi hc5) B124) (fun _ q => nomatch q) (lenOf pd_5 rfl) rfl rfl rfl (by decide) (by decide) (by decide) (by decide) (by decide) (fun v125 h126 s127 q128 => ?_)
    obtain ⟨rfl, rfl, rfl⟩ := q128
    show Go _ _ _ _ _ _ _ _ _ _ _ _ h117 [x101] 2 24 35 #[.val (.ref b), .val (.int 0), .val (.int (Int32.ofNat cs.length)), .val (.ref x101), .val (.int (Int32.ofNat p5)), .val (.ref d120)] [(.int c5)]
    refine go_sipush 255 d_b4_35 rfl (by decide) ?_
    refine go_icmp_gt_t (pt := 54) d_b4_38 (by decide) (by decide) hcc5 ?_
    refine go_aload d_b4_54 rfl rfl rfl ?_
    refine go_retA d_b4_56 [] rfl rfl rfl rfl (by decide) (by decide) (fun _ q => nomatch q) ?_
    refine ⟨_, k121, rfl, rfl, (ext_of_keep ((((Keep.refl h []).ext E103).trans K114 (allS (Or.inr (Nat.le_of_eq hx102.symm)) all0)).ext E122)), (Nat.le_trans (Nat.le_trans E103.1 K114.1) g123), ?_⟩
    rw [bytS_u (fun q => q c5 (List.mem_of_getElem? hc5) hcc5), u16s_len]
    exact B124
theorem codS_01 (cs : List Int32) : codS cs = 0 ∨ codS cs = 1 := by unfold codS; split <;> simp
set_option maxRecDepth 65536 in
set_option maxHeartbeats 4000000 in
theorem c_sinit4g {l : Launch} {Z : State} {a0 : Array Value} {n0 : Nat} (hB : Base Z a0) {x b : Addr} {kb : ClassId} (cs : List Int32) (hp : 0 < cs.length) (hn : cs.length ≤ 8) (hc : ∀ c ∈ cs, isU c) {h : Heap} (A : Arv Z h b kb .char (Int32.ofNat cs.length) (cs.map Value.int) (.int 0)) (E : Exa Z h x "java/lang/String") (F1 : Fld Z h x "java/lang/String" "value" "[B" .null) (F2 : Fld Z h x "java/lang/String" "coder" "B" (.int 0)) :
    Con l Z ELc n0 (⟨"java/lang/String", "<init>", "([CIILjava/lang/Void;)V"⟩ : MethodName) jdk_42_method_149_code 6 (Option.none : Option FieldType) [] ({ frames := 4, cells := 2, slots := 24, locals := 57 } : Room) #[.ref x, .ref b, .int 0, .int (Int32.ofNat cs.length), .null] h [x] (fun v h' sf' => v = none ∧ sf' = [] ∧ Keep h h' [x] ∧ ∃ d kd, h.size ≤ d ∧ Exa Z h' x "java/lang/String" ∧ Fld Z h' x "java/lang/String" "coder" "B" (.int (codS cs)) ∧ Fld Z h' x "java/lang/String" "value" "[B" (.ref d) ∧ Arv Z h' d kd .byte (Int32.ofNat (bytS cs).length) (bytS cs) (.int 0)) := by
  refine con_of (a0 := a0) (ls := #[.val (.ref x), .val (.ref b), .val (.int 0), .val (.int (Int32.ofNat cs.length)), .val .null, .unset]) (plainFor_of_name (by decide +kernel)) hB.2.1 (fun m => by first | rfl | simp [entryFrame, mkF, argsToLocals, Value.category]) ?_
  show Go l Z a0 ELc n0 ({ frames := 4, cells := 2, slots := 24, locals := 57 } : Room) "java/lang/String" jdk_42_method_149_code 6 (Option.none : Option FieldType) "<init>" _ h [x] 0 0 0 #[.val (.ref x), .val (.ref b), .val (.int 0), .val (.int (Int32.ofNat cs.length)), .val .null, .unset] []
  obtain ⟨cz, hS, hcz⟩ := hB.2.2.1
  refine go_aloadN d_b2_0 rfl rfl rfl ?_
  refine go_initO d_b2_1 rfl (wd hB 12 rfl) (wd hB 13 rfl) (wd hB 14 rfl) rfl (by decide) 0 rfl (by decide) ?_
  refine go_iloadN d_b2_4 rfl rfl ?_
  refine go_if_ne_t (pt := 27) d_b2_5 (by decide) (by decide) (ofN_pos hp (by omega)) ?_
  refine go_getstatic d_b2_27 rfl (wd hB 15 rfl) Via.refl hS ?_
  refine go_if_eq_f d_b2_30 rfl hcz ?_
  refine go_aloadN d_b2_33 rfl rfl rfl ?_
  refine go_iloadN d_b2_34 rfl rfl ?_
  refine go_iloadN d_b2_35 rfl rfl ?_
  refine go_static [(.ref b), (.int 0), (.int (Int32.ofNat cs.length))] [] 0 d_b2_36 rfl (wd hB 16 rfl) (wd hB 17 rfl) (wd hB 18 rfl) (wd hB 19 rfl) (c_cmp3g hB cs hn hc A) (fun _ q => nomatch q) (lenOf pd_4 rfl) rfl rfl rfl (by decide) (by decide) (by decide) (by decide) (by decide) (fun v101 h102 s103 q104 => ?_)
  obtain ⟨d105, k106, rfl, rfl, E107, g108, B109⟩ := q104
  show Go _ _ _ _ _ _ _ _ _ _ _ _ h102 [x] 2 24 39 #[.val (.ref x), .val (.ref b), .val (.int 0), .val (.int (Int32.ofNat cs.length)), .val .null, .unset] [(.ref d105)]
  refine go_astore d_b2_39 rfl #[.val (.ref x), .val (.ref b), .val (.int 0), .val (.int (Int32.ofNat cs.length)), .val .null, .val (.ref d105)] rfl rfl ?_
  refine go_aloadN d_b2_41 rfl rfl rfl ?_
  refine go_aload d_b2_42 rfl rfl rfl ?_
  refine go_iloadN d_b2_44 rfl rfl ?_
  have hcod : Con l Z ELc n0 (⟨"java/lang/StringUTF16", "coderFromArrayLen", "([BI)B"⟩ : MethodName) jdk_52_method_15_code 2 (Option.some FieldType.byte) [] ({ frames := 0, cells := 0, slots := 0, locals := 0 } : Room) #[.ref d105, .int (Int32.ofNat cs.length)] h102 [] (fun v h' sf' => v = some (.int (codS cs)) ∧ sf' = [] ∧ h102 = h') := by
    by_cases hlat : lat cs
    · rw [codS_lat hlat]; rw [bytS_lat hlat, lo8s_len] at B109; exact c_cod hB B109
    · rw [codS_u hlat]; rw [bytS_u hlat, u16s_len] at B109; exact c_codu hB cs.length hp (by omega) B109
  refine go_static [(.ref d105), (.int (Int32.ofNat cs.length))] [(.ref x)] 1 d_b2_45 rfl (wd hB 24 rfl) (wd hB 25 rfl) (wd hB 18 rfl) (wd hB 26 rfl) hcod (fun _ q => nomatch q) (lenOf pd_6 rfl) rfl rfl rfl (by decide) (by decide) (by decide) (by decide) (by decide) (fun v110 h111 s112 q113 => ?_)
  obtain ⟨rfl, rfl, rfl⟩ := q113
  show Go _ _ _ _ _ _ _ _ _ _ _ _ h102 [x] 2 24 48 #[.val (.ref x), .val (.ref b), .val (.int 0), .val (.int (Int32.ofNat cs.length)), .val .null, .val (.ref d105)] [(.int (codS cs)), (.ref x)]
  have F114 := (Fld.ext E107 F2)
  have F115 := (Exa.ext E107 E)
  refine go_putfield (ty := .byte) d_b2_48 rfl (wd hB 27 rfl) Via.refl F114 F115 (Or.inr ⟨(wd hB 28 rfl), rfl, rfl⟩) (wd hB 2 rfl) (by decide) (by rcases codS_01 cs with e | e <;> rw [e] <;> decide) (by rcases codS_01 cs with e | e <;> rw [e] <;> decide) (List.Mem.head _) ?_
  intro h116 W117
  have F118 := Fld.same W117 F114
  refine go_aloadN d_b2_51 rfl rfl rfl ?_
  refine go_aload d_b2_52 rfl rfl rfl ?_
  have F119 := (Fld.other W117 (Fld.ext E107 F1) (Or.inr (slot_ne (t := (.array .byte)) (t' := .byte) (Or.inr (wd hB 30 rfl) : Laid Z a0 "java/lang/String" "java/lang/String" "value" "[B") (Or.inr (wd hB 28 rfl) : Laid Z a0 "java/lang/String" "java/lang/String" "coder" "B") (by decide) (by decide) (by decide))))
  have F120 := (Exa.wr W117 F115)
  refine go_putfield (ty := (.array .byte)) d_b2_54 rfl (wd hB 29 rfl) Via.refl F119 F120 (Or.inr ⟨(wd hB 30 rfl), rfl, rfl⟩) (wd hB 2 rfl) (by decide) rfl rfl (List.Mem.head _) ?_
  intro h121 W122
  have F123 := Fld.same W122 F119
  have F124 := (Exa.wr W122 F120)
  have F125 := (Fld.other W122 F118 (Or.inr (slot_ne (t := .byte) (t' := (.array .byte)) (Or.inr (wd hB 28 rfl) : Laid Z a0 "java/lang/String" "java/lang/String" "coder" "B") (Or.inr (wd hB 30 rfl) : Laid Z a0 "java/lang/String" "java/lang/String" "value" "[B") (by decide) (by decide) (by decide))))
  have F126 := (Arv.other (Arv.other B109 W117 (Ne.symm (Nat.ne_of_lt (Nat.lt_of_lt_of_le E.lt g108)))) W122 (Ne.symm (Nat.ne_of_lt (Nat.lt_of_lt_of_le E.lt g108))))
  refine go_ret d_b2_57 [] rfl (by decide) (by decide) (fun _ q => nomatch q) ?_
  exact ⟨rfl, rfl, ((((Keep.refl h [x]).ext E107).wr W117 (Or.inl (List.Mem.head _))).wr W122 (Or.inl (List.Mem.head _))), _, _, g108, F124, F125, F123, F126⟩
set_option maxRecDepth 65536 in
set_option maxHeartbeats 4000000 in
theorem c_sinitg {l : Launch} {Z : State} {a0 : Array Value} {n0 : Nat} (hB : Base Z a0) {x b : Addr} {kb : ClassId} (cs : List Int32) (hp : 0 < cs.length) (hn : cs.length ≤ 8) (hc : ∀ c ∈ cs, isU c) {h : Heap} (A : Arv Z h b kb .char (Int32.ofNat cs.length) (cs.map Value.int) (.int 0)) (E : Exa Z h x "java/lang/String") (F1 : Fld Z h x "java/lang/String" "value" "[B" .null) (F2 : Fld Z h x "java/lang/String" "coder" "B" (.int 0)) :
    Con l Z ELc n0 (⟨"java/lang/String", "<init>", "([C)V"⟩ : MethodName) jdk_42_method_3_code 2 (Option.none : Option FieldType) [] ({ frames := 5, cells := 2, slots := 24, locals := 74 } : Room) #[.ref x, .ref b] h [x] (fun v h' sf' => v = none ∧ sf' = [] ∧ Keep h h' [x] ∧ ∃ d kd, h.size ≤ d ∧ Exa Z h' x "java/lang/String" ∧ Fld Z h' x "java/lang/String" "coder" "B" (.int (codS cs)) ∧ Fld Z h' x "java/lang/String" "value" "[B" (.ref d) ∧ Arv Z h' d kd .byte (Int32.ofNat (bytS cs).length) (bytS cs) (.int 0)) := by
  refine con_of (a0 := a0) (ls := #[.val (.ref x), .val (.ref b)]) (plainFor_of_name (by decide +kernel)) hB.2.1 (fun m => by first | rfl | simp [entryFrame, mkF, argsToLocals, Value.category]) ?_
  show Go l Z a0 ELc n0 ({ frames := 5, cells := 2, slots := 24, locals := 74 } : Room) "java/lang/String" jdk_42_method_3_code 2 (Option.none : Option FieldType) "<init>" _ h [x] 0 0 0 #[.val (.ref x), .val (.ref b)] []
  refine go_aloadN d_b1_0 rfl rfl rfl ?_
  refine go_aloadN d_b1_1 rfl rfl rfl ?_
  refine go_iconst 0 d_b1_2 rfl (by decide) ?_
  refine go_aloadN d_b1_3 rfl rfl rfl ?_
  refine go_alen d_b1_4 rfl A ?_
  refine go_aconstNull d_b1_5 rfl ?_
  refine go_special x [(.ref b), (.int 0), (.int (Int32.ofNat cs.length)), .null] [] 0 d_b1_6 rfl rfl (wd hB 8 rfl) (wd hB 9 rfl) (wd hB 3 rfl) (wd hB 11 rfl) (c_sinit4g hB cs hp hn hc A E F1 F2) (allS (List.Mem.head _) (fun _ q => nomatch q)) (lenOf pd_7 rfl) rfl rfl rfl (by decide) (by decide) (by decide) (by decide) (by decide) (fun v1 h2 s3 q4 => ?_)
  obtain ⟨rfl, rfl, q1, q2⟩ := q4
  show Go _ _ _ _ _ _ _ _ _ _ _ _ h2 [x] 2 24 9 #[.val (.ref x), .val (.ref b)] []
  refine go_ret d_b1_9 [] rfl (by decide) (by decide) (fun _ q => nomatch q) ?_
  exact ⟨rfl, rfl, q1, q2⟩
set_option maxRecDepth 65536 in
set_option maxHeartbeats 4000000 in
theorem c_bb {l : Launch} {Z : State} {a0 : Array Value} {n0 : Nat} (hB : Base Z a0) {x d : Addr} (k : Int32) (hk : k = 0 ∨ k = 1) {h : Heap} (E : Exa Z h x "java/lang/String") (F1 : Fld Z h x "java/lang/String" "value" "[B" .null) (F2 : Fld Z h x "java/lang/String" "coder" "B" (.int 0)) :
    Con l Z ELc n0 (⟨"java/lang/String", "<init>", "([BB)V"⟩ : MethodName) jdk_42_method_151_code 3 (Option.none : Option FieldType) [] ({ frames := 1, cells := 0, slots := 0, locals := 12 } : Room) #[.ref x, .ref d, .int k] h [x] (fun v h' sf' => v = none ∧ sf' = [] ∧ Keep h h' [x] ∧ Exa Z h' x "java/lang/String" ∧ Fld Z h' x "java/lang/String" "coder" "B" (.int k) ∧ Fld Z h' x "java/lang/String" "value" "[B" (.ref d)) := by
  refine con_of (a0 := a0) (ls := #[.val (.ref x), .val (.ref d), .val (.int k)]) (plainFor_of_name (by decide +kernel)) hB.2.1 (fun m => by first | rfl | simp [entryFrame, mkF, argsToLocals, Value.category]) ?_
  show Go l Z a0 ELc n0 ({ frames := 1, cells := 0, slots := 0, locals := 12 } : Room) "java/lang/String" jdk_42_method_151_code 3 (Option.none : Option FieldType) "<init>" _ h [x] 0 0 0 #[.val (.ref x), .val (.ref d), .val (.int k)] []
  refine go_aloadN d_b13_0 rfl rfl rfl ?_
  refine go_initO d_b13_1 rfl (wd hB 12 rfl) (wd hB 13 rfl) (wd hB 14 rfl) rfl (by decide) 0 rfl (by decide) ?_
  refine go_aloadN d_b13_4 rfl rfl rfl ?_
  refine go_aloadN d_b13_5 rfl rfl rfl ?_
  refine go_putfield (ty := (.array .byte)) d_b13_6 rfl (wd hB 29 rfl) Via.refl F1 E (Or.inr ⟨(wd hB 30 rfl), rfl, rfl⟩) (wd hB 2 rfl) (by decide) rfl rfl (List.Mem.head _) ?_
  intro h101 W102
  have F103 := Fld.same W102 F1
  refine go_aloadN d_b13_9 rfl rfl rfl ?_
  refine go_iloadN d_b13_10 rfl rfl ?_
  have F104 := (Fld.other W102 F2 (Or.inr (slot_ne (t := .byte) (t' := (.array .byte)) (Or.inr (wd hB 28 rfl) : Laid Z a0 "java/lang/String" "java/lang/String" "coder" "B") (Or.inr (wd hB 30 rfl) : Laid Z a0 "java/lang/String" "java/lang/String" "value" "[B") (by decide) (by decide) (by decide))))
  have F105 := (Exa.wr W102 E)
  refine go_putfield (ty := .byte) d_b13_11 rfl (wd hB 27 rfl) Via.refl F104 F105 (Or.inr ⟨(wd hB 28 rfl), rfl, rfl⟩) (wd hB 2 rfl) (by decide) (by rcases hk with e | e <;> rw [e] <;> decide) (by rcases hk with e | e <;> rw [e] <;> decide) (List.Mem.head _) ?_
  intro h106 W107
  have F108 := Fld.same W107 F104
  have F109 := (Exa.wr W107 F105)
  have F110 := (Fld.other W107 F103 (Or.inr (slot_ne (t := (.array .byte)) (t' := .byte) (Or.inr (wd hB 30 rfl) : Laid Z a0 "java/lang/String" "java/lang/String" "value" "[B") (Or.inr (wd hB 28 rfl) : Laid Z a0 "java/lang/String" "java/lang/String" "coder" "B") (by decide) (by decide) (by decide))))
  refine go_ret d_b13_14 [] rfl (by decide) (by decide) (fun _ q => nomatch q) ?_
  exact ⟨rfl, rfl, (((Keep.refl h [x]).wr W102 (Or.inl (List.Mem.head _))).wr W107 (Or.inl (List.Mem.head _))), F109, F108, F110⟩
set_option maxRecDepth 65536 in
set_option maxHeartbeats 4000000 in
theorem c_ce {l : Launch} {Z : State} {a0 : Array Value} {n0 : Nat} (hB : Base Z a0) (c : Int32) {h : Heap} :
    Con l Z ELc n0 (⟨"java/lang/StringLatin1", "canEncode", "(C)Z"⟩ : MethodName) jdk_43_method_3_code 1 (Option.some FieldType.boolean) [] ({ frames := 0, cells := 0, slots := 0, locals := 0 } : Room) #[.int c] h [] (fun v h' sf' => v = some (.int (ob (¬ (255 : Int32) < c))) ∧ sf' = [] ∧ h = h') := by
  refine con_of (a0 := a0) (ls := #[.val (.int c)]) (plainFor_of_name (by decide +kernel)) hB.2.1 (fun m => by first | rfl | simp [entryFrame, mkF, argsToLocals, Value.category]) ?_
  show Go l Z a0 ELc n0 ({ frames := 0, cells := 0, slots := 0, locals := 0 } : Room) "java/lang/StringLatin1" jdk_43_method_3_code 1 (Option.some FieldType.boolean) "canEncode" _ h [] 0 0 0 #[.val (.int c)] []
  refine go_iloadN d_b11_0 rfl rfl ?_
  refine go_sipush 255 d_b11_1 rfl (by decide) ?_
  by_cases q : (255 < c : Prop)
  · refine go_icmp_gt_t (pt := 11) d_b11_4 (by decide) (by decide) q ?_
    refine go_iconst 0 d_b11_11 rfl (by decide) ?_
    refine go_retN (t := .boolean) d_b11_12 [] rfl (by simp) (by decide) (by decide) (fun _ q => nomatch q) ?_
    exact ⟨by rw [ob_f (fun r => r q)]; decide, rfl, rfl⟩
  · refine go_icmp_gt_f d_b11_4 rfl q ?_
    refine go_iconst 1 d_b11_7 rfl (by decide) ?_
    refine go_goto (pt := 12) d_b11_8 (by decide) (by decide) ?_
    refine go_retN (t := .boolean) d_b11_12 [] rfl (by simp) (by decide) (by decide) (fun _ q => nomatch q) ?_
    exact ⟨by rw [ob_t q]; decide, rfl, rfl⟩
set_option maxRecDepth 65536 in
set_option maxHeartbeats 4000000 in
theorem c_tl {l : Launch} {Z : State} {a0 : Array Value} {n0 : Nat} (hB : Base Z a0) (c : Int32) {h : Heap} :
    Con l Z ELc n0 (⟨"java/lang/StringLatin1", "toBytes", "(C)[B"⟩ : MethodName) jdk_43_method_46_code 1 (Option.some (FieldType.array FieldType.byte)) [] ({ frames := 0, cells := 1, slots := 1, locals := 0 } : Room) #[.int c] h [] (fun v h' sf' => ∃ d kd, v = some (.ref d) ∧ sf' = [] ∧ Ext h h' ∧ h.size ≤ d ∧ Arv Z h' d kd .byte 1 [.int c.toInt8.toInt32.toInt8.toInt32] (.int 0)) := by
  refine con_of (a0 := a0) (ls := #[.val (.int c)]) (plainFor_of_name (by decide +kernel)) hB.2.1 (fun m => by first | rfl | simp [entryFrame, mkF, argsToLocals, Value.category]) ?_
  show Go l Z a0 ELc n0 ({ frames := 0, cells := 1, slots := 1, locals := 0 } : Room) "java/lang/StringLatin1" jdk_43_method_46_code 1 (Option.some (FieldType.array FieldType.byte)) "toBytes" _ h [] 0 0 0 #[.val (.int c)] []
  refine go_iconst 1 d_b12_0 rfl (by decide) ?_
  refine go_newarr (ty := .byte) (ad := "[B") 1 d_b12_1 rfl rfl (wd hB 20 rfl) (by decide) (by decide) (by decide) (by decide) (by decide) (by decide) ?_
  intro h106 x101 hx102 E103 ⟨A104, k105, B107⟩
  have B108 : Arv Z h106 x101 k105 .byte 1 [(.int 0)] (.int 0) := B107.pad (pad_rep [] (.int 0) 1)
  refine go_dup d_b12_3 rfl rfl ?_
  refine go_iconst 0 d_b12_4 rfl (by decide) ?_
  refine go_iloadN d_b12_5 rfl rfl ?_
  refine go_i2b d_b12_6 rfl ?_
  refine go_bastore 0 d_b12_7 rfl B108 ⟨by decide, by decide⟩ (by decide) (by show 0 < 1; decide) (List.Mem.head _) ?_
  intro h109 W110 B111
  have B112 : Arv Z h109 x101 k105 .byte 1 [(.int c.toInt8.toInt32.toInt8.toInt32)] (.int 0) := B111
  refine go_retA d_b12_8 [] rfl rfl rfl rfl (by decide) (by decide) (fun _ q => nomatch q) ?_
  exact ⟨_, _, rfl, rfl, (ext_of_keep (((Keep.refl h []).ext E103).wr W110 (Or.inr (Nat.le_of_eq hx102.symm)))), (Nat.le_of_eq hx102.symm), B112⟩
set_option maxRecDepth 65536 in
set_option maxHeartbeats 4000000 in
theorem c_tu {l : Launch} {Z : State} {a0 : Array Value} {n0 : Nat} (hB : Base Z a0) (c : Int32) {h : Heap} :
    Con l Z ELc n0 (⟨"java/lang/StringUTF16", "toBytes", "(C)[B"⟩ : MethodName) jdk_52_method_24_code 2 (Option.some (FieldType.array FieldType.byte)) [] ({ frames := 1, cells := 1, slots := 2, locals := 16 } : Room) #[.int c] h [] (fun v h' sf' => ∃ d kd vs, v = some (.ref d) ∧ sf' = [] ∧ Ext h h' ∧ h.size ≤ d ∧ Arv Z h' d kd .byte 2 vs (.int 0)) := by
  refine con_of (a0 := a0) (ls := #[.val (.int c), .unset]) (plainFor_of_name (by decide +kernel)) hB.2.1 (fun m => by first | rfl | simp [entryFrame, mkF, argsToLocals, Value.category]) ?_
  show Go l Z a0 ELc n0 ({ frames := 1, cells := 1, slots := 2, locals := 16 } : Room) "java/lang/StringUTF16" jdk_52_method_24_code 2 (Option.some (FieldType.array FieldType.byte)) "toBytes" _ h [] 0 0 0 #[.val (.int c), .unset] []
  refine go_iconst 2 d_b14_0 rfl (by decide) ?_
  refine go_newarr (ty := .byte) (ad := "[B") 2 d_b14_1 rfl rfl (wd hB 20 rfl) (by decide) (by decide) (by decide) (by decide) (by decide) (by decide) ?_
  intro h106 x101 hx102 E103 ⟨A104, k105, B107⟩
  have B108 : Arv Z h106 x101 k105 .byte 2 [(.int 0), (.int 0)] (.int 0) := B107.pad (pad_rep [] (.int 0) 2)
  refine go_astoreN d_b14_3 rfl #[.val (.int c), .val (.ref x101)] rfl rfl ?_
  refine go_aloadN d_b14_4 rfl rfl rfl ?_
  refine go_iconst 0 d_b14_5 rfl (by decide) ?_
  refine go_iloadN d_b14_6 rfl rfl ?_
  refine go_static [(.ref x101), (.int 0), (.int c)] [] 0 d_b14_7 rfl (wd hB 61 rfl) (wd hB 62 rfl) (wd hB 18 rfl) (wd hB 63 rfl) (c_put hB 0 (by decide) (by simp) (by simp) B108) (allS (List.Mem.head _) (fun _ q => nomatch q)) (lenOf pd_1 rfl) rfl rfl rfl (by decide) (by decide) (by decide) (by decide) (by decide) (fun v109 h110 s111 q112 => ?_)
  obtain ⟨rfl, rfl, K113, B114⟩ := q112
  show Go _ _ _ _ _ _ _ _ _ _ _ _ h110 [x101] 1 2 10 #[.val (.int c), .val (.ref x101)] []
  refine go_aloadN d_b14_10 rfl rfl rfl ?_
  refine go_retA d_b14_11 [] rfl rfl rfl rfl (by decide) (by decide) (fun _ q => nomatch q) ?_
  exact ⟨_, _, _, rfl, rfl, (ext_of_keep (((Keep.refl h []).ext E103).trans K113 (allS (Or.inr (Nat.le_of_eq hx102.symm)) all0))), (Nat.le_of_eq hx102.symm), B114⟩
set_option maxRecDepth 65536 in
set_option maxHeartbeats 4000000 in
theorem c_vo {l : Launch} {Z : State} {a0 : Array Value} {n0 : Nat} (hB : Base Z a0) (c : Int32) {h : Heap} :
    Con l Z ELc n0 (⟨"java/lang/String", "valueOf", "(C)Ljava/lang/String;"⟩ : MethodName) jdk_42_method_139_code 1 (Option.some (FieldType.object "java/lang/String")) [] ({ frames := 2, cells := 2, slots := 6, locals := 33 } : Room) #[.int c] h [] (fun v h' sf' => ∃ s d kd z vs, v = some (.ref s) ∧ sf' = [] ∧ Ext h h' ∧ h.size ≤ s ∧ Exa Z h' s "java/lang/String" ∧ Fld Z h' s "java/lang/String" "value" "[B" (.ref d) ∧ Arv Z h' d kd .byte z vs (.int 0) ∧ ¬ z = 0) := by
  refine con_of (a0 := a0) (ls := #[.val (.int c)]) (plainFor_of_name (by decide +kernel)) hB.2.1 (fun m => by first | rfl | simp [entryFrame, mkF, argsToLocals, Value.category]) ?_
  show Go l Z a0 ELc n0 ({ frames := 2, cells := 2, slots := 6, locals := 33 } : Room) "java/lang/String" jdk_42_method_139_code 1 (Option.some (FieldType.object "java/lang/String")) "valueOf" _ h [] 0 0 0 #[.val (.int c)] []
  obtain ⟨cz, hS, hcz⟩ := hB.2.2.1
  refine go_getstatic d_b10_0 rfl (wd hB 15 rfl) Via.refl hS ?_
  refine go_if_eq_f d_b10_3 rfl hcz ?_
  refine go_iloadN d_b10_6 rfl rfl ?_
  refine go_static [(.int c)] [] 0 d_b10_7 rfl (wd hB 47 rfl) (wd hB 48 rfl) (wd hB 49 rfl) (wd hB 50 rfl) (c_ce hB c) (fun _ q => nomatch q) (lenOf pd_8 rfl) rfl rfl rfl (by decide) (by decide) (by decide) (by decide) (by decide) (fun v101 h102 s103 q104 => ?_)
  obtain ⟨rfl, rfl, rfl⟩ := q104
  show Go _ _ _ _ _ _ _ _ _ _ _ _ h [] 0 0 10 #[.val (.int c)] [(.int (ob (¬ (255 : Int32) < c)))]
  by_cases hq : ((ob (¬ (255 : Int32) < c)) = 0 : Prop)
  · refine go_if_eq_t (pt := 26) d_b10_10 (by decide) (by decide) hq ?_
    refine go_new d_b10_26 rfl (wd hB 51 rfl) (wd hB 2 rfl) (wd hB 3 rfl) (by decide) (by decide) ?_
    intro h110 x105 hx106 E107 ⟨A108, D109⟩
    have F111 : Fld Z h110 x105 "java/lang/String" "coder" "B" (.int 0) := D109 (Or.inr (wd hB 28 rfl)) (ty := .byte) (by decide)
    have F112 : Fld Z h110 x105 "java/lang/String" "value" "[B" .null := D109 (Or.inr (wd hB 30 rfl)) (ty := (.array .byte)) (by decide)
    refine go_dup d_b10_29 rfl rfl ?_
    refine go_iloadN d_b10_30 rfl rfl ?_
    refine go_static [(.int c)] [(.ref x105), (.ref x105)] 2 d_b10_31 rfl (wd hB 58 rfl) (wd hB 59 rfl) (wd hB 18 rfl) (wd hB 60 rfl) (c_tu hB c) (fun _ q => nomatch q) (lenOf pd_9 rfl) rfl rfl rfl (by decide) (by decide) (by decide) (by decide) (by decide) (fun v113 h114 s115 q116 => ?_)
    obtain ⟨d117, k118, _vs, rfl, rfl, E119, g120, B121⟩ := q116
    show Go _ _ _ _ _ _ _ _ _ _ _ _ h114 [x105] 2 6 34 #[.val (.int c)] [(.ref d117), (.ref x105), (.ref x105)]
    refine go_iconst 1 d_b10_34 rfl (by decide) ?_
    have F122 := (Exa.ext E119 A108)
    have F123 := (Fld.ext E119 F112)
    have F124 := (Fld.ext E119 F111)
    refine go_special x105 [(.ref d117), (.int 1)] [(.ref x105)] 1 d_b10_35 rfl rfl (wd hB 55 rfl) (wd hB 56 rfl) (wd hB 3 rfl) (wd hB 57 rfl) (c_bb hB 1 (by decide) F122 F123 F124) (allS (List.Mem.head _) (fun _ q => nomatch q)) (lenOf pd_10 rfl) rfl rfl rfl (by decide) (by decide) (by decide) (by decide) (by decide) (fun v125 h126 s127 q128 => ?_)
    obtain ⟨rfl, rfl, K129, E130, F131, F132⟩ := q128
    show Go _ _ _ _ _ _ _ _ _ _ _ _ h126 [x105] 2 6 38 #[.val (.int c)] [(.ref x105)]
    have F133 := (B121.keep K129 (ninS (Ne.symm (Nat.ne_of_lt (Nat.lt_of_lt_of_le A108.lt g120))) nin0))
    refine go_retA d_b10_38 [] rfl rfl rfl rfl (by decide) (by decide) (fun _ q => nomatch q) ?_
    exact ⟨_, _, _, _, _, rfl, rfl, (ext_of_keep ((((Keep.refl h []).ext E107).ext E119).trans K129 (allS (Or.inr (Nat.le_of_eq hx106.symm)) all0))), (Nat.le_of_eq hx106.symm), E130, F132, F133, by decide⟩
  · refine go_if_eq_f d_b10_10 rfl hq ?_
    refine go_new d_b10_13 rfl (wd hB 51 rfl) (wd hB 2 rfl) (wd hB 3 rfl) (by decide) (by decide) ?_
    intro h139 x134 hx135 E136 ⟨A137, D138⟩
    have F140 : Fld Z h139 x134 "java/lang/String" "coder" "B" (.int 0) := D138 (Or.inr (wd hB 28 rfl)) (ty := .byte) (by decide)
    have F141 : Fld Z h139 x134 "java/lang/String" "value" "[B" .null := D138 (Or.inr (wd hB 30 rfl)) (ty := (.array .byte)) (by decide)
    refine go_dup d_b10_16 rfl rfl ?_
    refine go_iloadN d_b10_17 rfl rfl ?_
    refine go_static [(.int c)] [(.ref x134), (.ref x134)] 2 d_b10_18 rfl (wd hB 52 rfl) (wd hB 53 rfl) (wd hB 49 rfl) (wd hB 54 rfl) (c_tl hB c) (fun _ q => nomatch q) (lenOf pd_9 rfl) rfl rfl rfl (by decide) (by decide) (by decide) (by decide) (by decide) (fun v142 h143 s144 q145 => ?_)
    obtain ⟨d146, k147, rfl, rfl, E148, g149, B150⟩ := q145
    show Go _ _ _ _ _ _ _ _ _ _ _ _ h143 [x134] 2 5 21 #[.val (.int c)] [(.ref d146), (.ref x134), (.ref x134)]
    refine go_iconst 0 d_b10_21 rfl (by decide) ?_
    have F151 := (Exa.ext E148 A137)
    have F152 := (Fld.ext E148 F141)
    have F153 := (Fld.ext E148 F140)
    refine go_special x134 [(.ref d146), (.int 0)] [(.ref x134)] 1 d_b10_22 rfl rfl (wd hB 55 rfl) (wd hB 56 rfl) (wd hB 3 rfl) (wd hB 57 rfl) (c_bb hB 0 (by decide) F151 F152 F153) (allS (List.Mem.head _) (fun _ q => nomatch q)) (lenOf pd_10 rfl) rfl rfl rfl (by decide) (by decide) (by decide) (by decide) (by decide) (fun v154 h155 s156 q157 => ?_)
    obtain ⟨rfl, rfl, K158, E159, F160, F161⟩ := q157
    show Go _ _ _ _ _ _ _ _ _ _ _ _ h155 [x134] 2 5 25 #[.val (.int c)] [(.ref x134)]
    have F162 := (B150.keep K158 (ninS (Ne.symm (Nat.ne_of_lt (Nat.lt_of_lt_of_le A137.lt g149))) nin0))
    refine go_retA d_b10_25 [] rfl rfl rfl rfl (by decide) (by decide) (fun _ q => nomatch q) ?_
    exact ⟨_, _, _, _, _, rfl, rfl, (ext_of_keep ((((Keep.refl h []).ext E136).ext E148).trans K158 (allS (Or.inr (Nat.le_of_eq hx135.symm)) all0))), (Nat.le_of_eq hx135.symm), E159, F161, F162, by decide⟩
set_option maxRecDepth 65536 in
set_option maxHeartbeats 4000000 in
theorem c_ie {l : Launch} {Z : State} {a0 : Array Value} {n0 : Nat} (hB : Base Z a0) {s d : Addr} {k : ClassId} {z : Int32} {vs : List Value} {h : Heap} (E : Exa Z h s "java/lang/String") (V : Fld Z h s "java/lang/String" "value" "[B" (.ref d)) (A : Arv Z h d k .byte z vs (.int 0)) (hz : ¬ z = 0) :
    Con l Z ELc n0 (⟨"java/lang/String", "isEmpty", "()Z"⟩ : MethodName) jdk_42_method_55_code 1 (Option.some FieldType.boolean) [] ({ frames := 0, cells := 0, slots := 0, locals := 0 } : Room) #[.ref s] h [] (fun v h' sf' => v = some (.int 0) ∧ sf' = [] ∧ h = h') := by
  refine con_of (a0 := a0) (ls := #[.val (.ref s)]) (plainFor_of_name (by decide +kernel)) hB.2.1 (fun m => by first | rfl | simp [entryFrame, mkF, argsToLocals, Value.category]) ?_
  show Go l Z a0 ELc n0 ({ frames := 0, cells := 0, slots := 0, locals := 0 } : Room) "java/lang/String" jdk_42_method_55_code 1 (Option.some FieldType.boolean) "isEmpty" _ h [] 0 0 0 #[.val (.ref s)] []
  refine go_aloadN d_b9_0 rfl rfl rfl ?_
  refine go_getfield d_b9_1 rfl (wd hB 29 rfl) Via.refl V ?_
  refine go_alen d_b9_4 rfl A ?_
  refine go_if_ne_t (pt := 12) d_b9_5 (by decide) (by decide) hz ?_
  refine go_iconst 0 d_b9_12 rfl (by decide) ?_
  refine go_retN (t := .boolean) d_b9_13 [] rfl (by simp) (by decide) (by decide) (fun _ q => nomatch q) ?_
  exact ⟨by decide, rfl, rfl⟩
set_option maxRecDepth 65536 in
set_option maxHeartbeats 4000000 in
theorem c_rnnN {l : Launch} {Z : State} {a0 : Array Value} {n0 : Nat} (hB : Base Z a0) {x : Addr} {h : Heap} :
    Con l Z ELc n0 (⟨"java/util/Objects", "requireNonNull", "(Ljava/lang/Object;Ljava/lang/String;)Ljava/lang/Object;"⟩ : MethodName) jdk_31_method_11_code 2 (Option.some (FieldType.object "java/lang/Object")) [] ({ frames := 0, cells := 0, slots := 0, locals := 0 } : Room) #[.ref x, .null] h [] (fun v h' sf' => v = some (.ref x) ∧ sf' = [] ∧ h = h') := by
  refine con_of (a0 := a0) (ls := #[.val (.ref x), .val .null]) (plainFor_of_name (by decide +kernel)) hB.2.1 (fun m => by first | rfl | simp [entryFrame, mkF, argsToLocals, Value.category]) ?_
  show Go l Z a0 ELc n0 ({ frames := 0, cells := 0, slots := 0, locals := 0 } : Room) "java/util/Objects" jdk_31_method_11_code 2 (Option.some (FieldType.object "java/lang/Object")) "requireNonNull" _ h [] 0 0 0 #[.val (.ref x), .val .null] []
  refine go_aloadN d_b8_0 rfl rfl rfl ?_
  refine go_ifnonnull_t (pt := 13) d_b8_1 (by decide) (by decide) ?_
  refine go_aloadN d_b8_13 rfl rfl rfl ?_
  refine go_retA d_b8_14 [] rfl rfl rfl rfl (by decide) (by decide) (fun _ q => nomatch q) ?_
  exact ⟨rfl, rfl, rfl⟩
set_option maxRecDepth 65536 in
set_option maxHeartbeats 4000000 in
theorem c_rneN {l : Launch} {Z : State} {a0 : Array Value} {n0 : Nat} (hB : Base Z a0) {s d : Addr} {k : ClassId} {z : Int32} {vs : List Value} {h : Heap} (E : Exa Z h s "java/lang/String") (V : Fld Z h s "java/lang/String" "value" "[B" (.ref d)) (A : Arv Z h d k .byte z vs (.int 0)) (hz : ¬ z = 0) :
    Con l Z ELc n0 (⟨"com/example/justification/justification/model/Names", "requireNonEmpty", "(Ljava/lang/String;Ljava/lang/String;)Ljava/lang/String;"⟩ : MethodName) prog_24_method_2_code 2 (Option.some (FieldType.object "java/lang/String")) [] ({ frames := 1, cells := 0, slots := 0, locals := 14 } : Room) #[.ref s, .null] h [] (fun v h' sf' => v = some (.ref s) ∧ sf' = [] ∧ h = h') := by
  refine con_of (a0 := a0) (ls := #[.val (.ref s), .val .null]) (plainFor_of_name (by decide +kernel)) hB.2.1 (fun m => by first | rfl | simp [entryFrame, mkF, argsToLocals, Value.category]) ?_
  show Go l Z a0 ELc n0 ({ frames := 1, cells := 0, slots := 0, locals := 14 } : Room) "com/example/justification/justification/model/Names" prog_24_method_2_code 2 (Option.some (FieldType.object "java/lang/String")) "requireNonEmpty" _ h [] 0 0 0 #[.val (.ref s), .val .null] []
  refine go_aloadN d_b7_0 rfl rfl rfl ?_
  refine go_aloadN d_b7_1 rfl rfl rfl ?_
  refine go_static [(.ref s), .null] [] 0 d_b7_2 rfl (wd hB 35 rfl) (wd hB 36 rfl) (wd hB 37 rfl) (wd hB 38 rfl) (c_rnnN hB) (fun _ q => nomatch q) (lenOf pd_11 rfl) rfl rfl rfl (by decide) (by decide) (by decide) (by decide) (by decide) (fun v1 h2 s3 q4 => ?_)
  obtain ⟨rfl, rfl, rfl⟩ := q4
  show Go _ _ _ _ _ _ _ _ _ _ _ _ h [] 0 0 5 #[.val (.ref s), .val .null] [(.ref s)]
  refine go_pop d_b7_5 rfl rfl ?_
  refine go_aloadN d_b7_6 rfl rfl rfl ?_
  refine go_virtual s [] [] 0 d_b7_7 rfl E (wd hB 39 rfl) (wd hB 40 rfl) (nf_of (wd hB 42 rfl)) (wd hB 42 rfl) (wd hB 41 rfl) (wd hB 3 rfl) (wd hB 43 rfl) (c_ie hB E V A hz) (fun _ q => nomatch q) (lenOf pd_12 rfl) rfl rfl rfl (by decide) (by decide) (by decide) (by decide) (by decide) (fun v5 h6 s7 q8 => ?_)
  obtain ⟨rfl, rfl, rfl⟩ := q8
  show Go _ _ _ _ _ _ _ _ _ _ _ _ h [] 0 0 10 #[.val (.ref s), .val .null] [(.int 0)]
  refine go_if_eq_t (pt := 27) d_b7_10 (by decide) (by decide) (by decide) ?_
  refine go_aloadN d_b7_27 rfl rfl rfl ?_
  refine go_retA d_b7_28 [] rfl rfl rfl rfl (by decide) (by decide) (fun _ q => nomatch q) ?_
  exact ⟨rfl, rfl, rfl⟩
set_option maxRecDepth 65536 in
set_option maxHeartbeats 4000000 in
theorem c_rnnR {l : Launch} {Z : State} {a0 : Array Value} {n0 : Nat} (hB : Base Z a0) {x : Addr} {y : Addr} {h : Heap} :
    Con l Z ELc n0 (⟨"java/util/Objects", "requireNonNull", "(Ljava/lang/Object;Ljava/lang/String;)Ljava/lang/Object;"⟩ : MethodName) jdk_31_method_11_code 2 (Option.some (FieldType.object "java/lang/Object")) [] ({ frames := 0, cells := 0, slots := 0, locals := 0 } : Room) #[.ref x, (.ref y)] h [] (fun v h' sf' => v = some (.ref x) ∧ sf' = [] ∧ h = h') := by
  refine con_of (a0 := a0) (ls := #[.val (.ref x), .val (.ref y)]) (plainFor_of_name (by decide +kernel)) hB.2.1 (fun m => by first | rfl | simp [entryFrame, mkF, argsToLocals, Value.category]) ?_
  show Go l Z a0 ELc n0 ({ frames := 0, cells := 0, slots := 0, locals := 0 } : Room) "java/util/Objects" jdk_31_method_11_code 2 (Option.some (FieldType.object "java/lang/Object")) "requireNonNull" _ h [] 0 0 0 #[.val (.ref x), .val (.ref y)] []
  refine go_aloadN d_b8_0 rfl rfl rfl ?_
  refine go_ifnonnull_t (pt := 13) d_b8_1 (by decide) (by decide) ?_
  refine go_aloadN d_b8_13 rfl rfl rfl ?_
  refine go_retA d_b8_14 [] rfl rfl rfl rfl (by decide) (by decide) (fun _ q => nomatch q) ?_
  exact ⟨rfl, rfl, rfl⟩
set_option maxRecDepth 65536 in
set_option maxHeartbeats 4000000 in
theorem c_rneR {l : Launch} {Z : State} {a0 : Array Value} {n0 : Nat} (hB : Base Z a0) {s d : Addr} {k : ClassId} {z : Int32} {vs : List Value} {y : Addr} {h : Heap} (E : Exa Z h s "java/lang/String") (V : Fld Z h s "java/lang/String" "value" "[B" (.ref d)) (A : Arv Z h d k .byte z vs (.int 0)) (hz : ¬ z = 0) :
    Con l Z ELc n0 (⟨"com/example/justification/justification/model/Names", "requireNonEmpty", "(Ljava/lang/String;Ljava/lang/String;)Ljava/lang/String;"⟩ : MethodName) prog_24_method_2_code 2 (Option.some (FieldType.object "java/lang/String")) [] ({ frames := 1, cells := 0, slots := 0, locals := 14 } : Room) #[.ref s, (.ref y)] h [] (fun v h' sf' => v = some (.ref s) ∧ sf' = [] ∧ h = h') := by
  refine con_of (a0 := a0) (ls := #[.val (.ref s), .val (.ref y)]) (plainFor_of_name (by decide +kernel)) hB.2.1 (fun m => by first | rfl | simp [entryFrame, mkF, argsToLocals, Value.category]) ?_
  show Go l Z a0 ELc n0 ({ frames := 1, cells := 0, slots := 0, locals := 14 } : Room) "com/example/justification/justification/model/Names" prog_24_method_2_code 2 (Option.some (FieldType.object "java/lang/String")) "requireNonEmpty" _ h [] 0 0 0 #[.val (.ref s), .val (.ref y)] []
  refine go_aloadN d_b7_0 rfl rfl rfl ?_
  refine go_aloadN d_b7_1 rfl rfl rfl ?_
  refine go_static [(.ref s), (.ref y)] [] 0 d_b7_2 rfl (wd hB 35 rfl) (wd hB 36 rfl) (wd hB 37 rfl) (wd hB 38 rfl) (c_rnnR hB) (fun _ q => nomatch q) (lenOf pd_11 rfl) rfl rfl rfl (by decide) (by decide) (by decide) (by decide) (by decide) (fun v1 h2 s3 q4 => ?_)
  obtain ⟨rfl, rfl, rfl⟩ := q4
  show Go _ _ _ _ _ _ _ _ _ _ _ _ h [] 0 0 5 #[.val (.ref s), .val (.ref y)] [(.ref s)]
  refine go_pop d_b7_5 rfl rfl ?_
  refine go_aloadN d_b7_6 rfl rfl rfl ?_
  refine go_virtual s [] [] 0 d_b7_7 rfl E (wd hB 39 rfl) (wd hB 40 rfl) (nf_of (wd hB 42 rfl)) (wd hB 42 rfl) (wd hB 41 rfl) (wd hB 3 rfl) (wd hB 43 rfl) (c_ie hB E V A hz) (fun _ q => nomatch q) (lenOf pd_12 rfl) rfl rfl rfl (by decide) (by decide) (by decide) (by decide) (by decide) (fun v5 h6 s7 q8 => ?_)
  obtain ⟨rfl, rfl, rfl⟩ := q8
  show Go _ _ _ _ _ _ _ _ _ _ _ _ h [] 0 0 10 #[.val (.ref s), .val (.ref y)] [(.int 0)]
  refine go_if_eq_t (pt := 27) d_b7_10 (by decide) (by decide) (by decide) ?_
  refine go_aloadN d_b7_27 rfl rfl rfl ?_
  refine go_retA d_b7_28 [] rfl rfl rfl rfl (by decide) (by decide) (fun _ q => nomatch q) ?_
  exact ⟨rfl, rfl, rfl⟩
theorem isU_and (x : Int32) : isU (x &&& 65535) := and_rng x (by decide)
theorem bytS_pos {cs : List Int32} (h : 0 < cs.length) (hn : cs.length ≤ 8) : ¬ Int32.ofNat (bytS cs).length = 0 := by
  have : 0 < (bytS cs).length ∧ (bytS cs).length ≤ 16 := by
    by_cases q : lat cs
    · rw [bytS_lat q, lo8s_len]; omega
    · rw [bytS_u q, u16s_len]; omega
  exact ofN_pos this.1 (by omega)
set_option maxRecDepth 65536 in
set_option maxHeartbeats 4000000 in
theorem c_law {l : Launch} {Z : State} {a0 : Array Value} {n0 : Nat} (hB : Base Z a0) (ws : List Jvm.Cond) (p0 p1 p2 p3 : Int32) {h : Heap} :
    Con l Z ELc n0 x code maxLocals ret ws room_1 #[.int p0, .int p1, .int p2, .int p3] h [] (fun v h' sf' => v = some (.int 1)) := by
  refine con_of (a0 := a0) (ls := #[.val (.int p0), .val (.int p1), .val (.int p2), .val (.int p3), .unset, .unset, .unset, .unset, .unset, .unset, .unset, .unset]) (plainFor_of_name (by decide +kernel)) hB.2.1 (fun m => by first | rfl | simp [entryFrame, mkF, argsToLocals, Value.category]) ?_
  show Go l Z a0 ELc n0 room_1 "com/example/justification/justification/model/NamesRequireNonEmptyPinLaw" code maxLocals ret "law" (fun v h' sf' => v = some (.int 1)) h [] 0 0 0 #[.val (.int p0), .val (.int p1), .val (.int p2), .val (.int p3), .unset, .unset, .unset, .unset, .unset, .unset, .unset, .unset] []
  refine go_iloadN at_0 rfl rfl ?_
  refine go_ldcI at_1 rfl (wd hB 0 rfl) ?_
  refine go_iand at_3 rfl ?_
  refine go_i2c at_4 rfl ?_
  rw [show (p0 &&& 65535).toUInt32.toUInt16.toUInt32.toInt32 = p0 &&& 65535 from (isU_and p0).nar]
  obtain ⟨c0, hc0⟩ : ∃ z, z = p0 &&& 65535 := ⟨_, rfl⟩
  rw [← hc0]
  have uc0 : isU c0 := by rw [hc0]; exact isU_and _
  have nc0 : nar .char c0 = c0 := uc0.nar
  refine go_istore at_5 rfl #[.val (.int p0), .val (.int p1), .val (.int p2), .val (.int p3), .val (.int c0), .unset, .unset, .unset, .unset, .unset, .unset, .unset] rfl ?_
  refine go_iloadN at_7 rfl rfl ?_
  refine go_ldcI at_8 rfl (wd hB 0 rfl) ?_
  refine go_iand at_10 rfl ?_
  refine go_i2c at_11 rfl ?_
  rw [show (p1 &&& 65535).toUInt32.toUInt16.toUInt32.toInt32 = p1 &&& 65535 from (isU_and p1).nar]
  obtain ⟨c1, hc1⟩ : ∃ z, z = p1 &&& 65535 := ⟨_, rfl⟩
  rw [← hc1]
  have uc1 : isU c1 := by rw [hc1]; exact isU_and _
  have nc1 : nar .char c1 = c1 := uc1.nar
  refine go_istore at_12 rfl #[.val (.int p0), .val (.int p1), .val (.int p2), .val (.int p3), .val (.int c0), .val (.int c1), .unset, .unset, .unset, .unset, .unset, .unset] rfl ?_
  refine go_iloadN at_14 rfl rfl ?_
  refine go_ldcI at_15 rfl (wd hB 0 rfl) ?_
  refine go_iand at_17 rfl ?_
  refine go_i2c at_18 rfl ?_
  rw [show (p2 &&& 65535).toUInt32.toUInt16.toUInt32.toInt32 = p2 &&& 65535 from (isU_and p2).nar]
  obtain ⟨c2, hc2⟩ : ∃ z, z = p2 &&& 65535 := ⟨_, rfl⟩
  rw [← hc2]
  have uc2 : isU c2 := by rw [hc2]; exact isU_and _
  have nc2 : nar .char c2 = c2 := uc2.nar
  refine go_istore at_19 rfl #[.val (.int p0), .val (.int p1), .val (.int p2), .val (.int p3), .val (.int c0), .val (.int c1), .val (.int c2), .unset, .unset, .unset, .unset, .unset] rfl ?_
  refine go_iloadN at_21 rfl rfl ?_
  refine go_iconst 3 at_22 rfl (by decide) ?_
  refine go_iand at_23 rfl ?_
  refine go_iconst 3 at_24 rfl (by decide) ?_
  refine go_irem at_25 rfl (by decide) ?_
  refine go_iconst 1 at_26 rfl (by decide) ?_
  refine go_iadd at_27 rfl ?_
  obtain ⟨len, hlen⟩ : ∃ z, z = ((p3 &&& 3) % 3) + 1 := ⟨_, rfl⟩
  rw [← hlen]
  refine go_istore at_28 rfl #[.val (.int p0), .val (.int p1), .val (.int p2), .val (.int p3), .val (.int c0), .val (.int c1), .val (.int c2), .val (.int len), .unset, .unset, .unset, .unset] rfl ?_
  refine go_iload at_30 rfl rfl ?_
  refine go_iconst 1 at_32 rfl (by decide) ?_
  by_cases hl1 : (len = 1 : Prop)
  · refine go_icmp_ne_f at_33 rfl hl1 ?_
    refine go_iload at_36 rfl rfl ?_
    refine go_static [(.int c0)] [] 0 at_38 rfl (wd hB 44 rfl) (wd hB 45 rfl) (wd hB 3 rfl) (wd hB 46 rfl) (c_vo hB c0) (fun _ q => nomatch q) (lenOf pd_13 rfl) rfl rfl rfl (by decide) (by decide) (by decide) (by decide) (by decide) (fun v101 h102 s103 q104 => ?_)
    obtain ⟨s105, d106, k107, z108, v109, rfl, rfl, E110, g111, F112, F113, F114, n115⟩ := q104
    show Go _ _ _ _ _ _ _ _ _ _ _ _ h102 [] 2 6 41 #[.val (.int p0), .val (.int p1), .val (.int p2), .val (.int p3), .val (.int c0), .val (.int c1), .val (.int c2), .val (.int len), .unset, .unset, .unset, .unset] [(.ref s105)]
    refine go_astore at_41 rfl #[.val (.int p0), .val (.int p1), .val (.int p2), .val (.int p3), .val (.int c0), .val (.int c1), .val (.int c2), .val (.int len), .val (.ref s105), .unset, .unset, .unset] rfl rfl ?_
    refine go_goto (pt := 104) at_43 (by decide) (by decide) ?_
    refine go_iloadN at_104 rfl rfl ?_
    refine go_iconst 2 at_105 rfl (by decide) ?_
    refine go_iushr at_106 rfl ?_
    refine go_iconst 3 at_107 rfl (by decide) ?_
    refine go_iand at_108 rfl ?_
    obtain ⟨wk, hwk⟩ : ∃ z, z = (XT.ushr p3 2) &&& 3 := ⟨_, rfl⟩
    rw [← hwk]
    refine go_istore at_109 rfl #[.val (.int p0), .val (.int p1), .val (.int p2), .val (.int p3), .val (.int c0), .val (.int c1), .val (.int c2), .val (.int len), .val (.ref s105), .val (.int wk), .unset, .unset] rfl ?_
    refine go_iload at_111 rfl rfl ?_
    by_cases hw0 : (wk = 0 : Prop)
    · refine go_if_ne_f at_113 rfl hw0 ?_
      refine go_aconstNull at_116 rfl ?_
      refine go_astore at_117 rfl #[.val (.int p0), .val (.int p1), .val (.int p2), .val (.int p3), .val (.int c0), .val (.int c1), .val (.int c2), .val (.int len), .val (.ref s105), .val (.int wk), .val .null, .unset] rfl rfl ?_
      refine go_goto (pt := 155) at_119 (by decide) (by decide) ?_
      refine go_aload at_155 rfl rfl rfl ?_
      refine go_aload at_157 rfl rfl rfl ?_
      refine go_static [(.ref s105), .null] [] 0 at_159 rfl (wd hB 31 rfl) (wd hB 32 rfl) (wd hB 33 rfl) (wd hB 34 rfl) (c_rneN hB F112 F113 F114 n115) (fun _ q => nomatch q) (lenOf pd_14 rfl) rfl rfl rfl (by decide) (by decide) (by decide) (by decide) (by decide) (fun v116 h117 s118 q119 => ?_)
      obtain ⟨rfl, rfl, rfl⟩ := q119
      show Go _ _ _ _ _ _ _ _ _ _ _ _ h102 [] 2 6 162 #[.val (.int p0), .val (.int p1), .val (.int p2), .val (.int p3), .val (.int c0), .val (.int c1), .val (.int c2), .val (.int len), .val (.ref s105), .val (.int wk), .val .null, .unset] [(.ref s105)]
      refine go_astore at_162 rfl #[.val (.int p0), .val (.int p1), .val (.int p2), .val (.int p3), .val (.int c0), .val (.int c1), .val (.int c2), .val (.int len), .val (.ref s105), .val (.int wk), .val .null, .val (.ref s105)] rfl rfl ?_
      refine go_aload at_164 rfl rfl rfl ?_
      refine go_aload at_166 rfl rfl rfl ?_
      refine go_acmp (pt := 171) true at_168 rfl rfl (by simp) (by decide) (by decide) ?_
      refine go_iconst 1 at_171 rfl (by decide) ?_
      refine go_goto (pt := 176) at_172 (by decide) (by decide) ?_
      refine go_retN (t := .boolean) at_176 [] rfl (by simp) (by decide) (by decide) (fun _ q => nomatch q) ?_
      decide
    · refine go_if_ne_t (pt := 122) at_113 (by decide) (by decide) hw0 ?_
      refine go_iload at_122 rfl rfl ?_
      refine go_iconst 1 at_124 rfl (by decide) ?_
      by_cases hw1 : (wk = 1 : Prop)
      · refine go_icmp_ne_f at_125 rfl hw1 ?_
        refine go_ldcO (text := "") 0 at_128 rfl (wd hB 80 rfl) (stA hB) (by decide) (by decide) (by decide) (by decide) ?_
        intro h120 a121 E122
        refine go_astore at_130 rfl #[.val (.int p0), .val (.int p1), .val (.int p2), .val (.int p3), .val (.int c0), .val (.int c1), .val (.int c2), .val (.int len), .val (.ref s105), .val (.int wk), .val (.ref a121), .unset] rfl rfl ?_
        refine go_goto (pt := 155) at_132 (by decide) (by decide) ?_
        refine go_aload at_155 rfl rfl rfl ?_
        refine go_aload at_157 rfl rfl rfl ?_
        have F123 := (Exa.ext E122 F112)
        have F124 := (Fld.ext E122 F113)
        have F125 := (F114.ext E122)
        refine go_static [(.ref s105), (.ref a121)] [] 0 at_159 rfl (wd hB 31 rfl) (wd hB 32 rfl) (wd hB 33 rfl) (wd hB 34 rfl) (c_rneR hB F123 F124 F125 n115) (fun _ q => nomatch q) (lenOf pd_14 rfl) rfl rfl rfl (by decide) (by decide) (by decide) (by decide) (by decide) (fun v126 h127 s128 q129 => ?_)
        obtain ⟨rfl, rfl, rfl⟩ := q129
        show Go _ _ _ _ _ _ _ _ _ _ _ _ h120 [] 4 10 162 #[.val (.int p0), .val (.int p1), .val (.int p2), .val (.int p3), .val (.int c0), .val (.int c1), .val (.int c2), .val (.int len), .val (.ref s105), .val (.int wk), .val (.ref a121), .unset] [(.ref s105)]
        refine go_astore at_162 rfl #[.val (.int p0), .val (.int p1), .val (.int p2), .val (.int p3), .val (.int c0), .val (.int c1), .val (.int c2), .val (.int len), .val (.ref s105), .val (.int wk), .val (.ref a121), .val (.ref s105)] rfl rfl ?_
        refine go_aload at_164 rfl rfl rfl ?_
        refine go_aload at_166 rfl rfl rfl ?_
        refine go_acmp (pt := 171) true at_168 rfl rfl (by simp) (by decide) (by decide) ?_
        refine go_iconst 1 at_171 rfl (by decide) ?_
        refine go_goto (pt := 176) at_172 (by decide) (by decide) ?_
        refine go_retN (t := .boolean) at_176 [] rfl (by simp) (by decide) (by decide) (fun _ q => nomatch q) ?_
        decide
      · refine go_icmp_ne_t (pt := 135) at_125 (by decide) (by decide) hw1 ?_
        refine go_iload at_135 rfl rfl ?_
        refine go_iconst 2 at_137 rfl (by decide) ?_
        by_cases hw2 : (wk = 2 : Prop)
        · refine go_icmp_ne_f at_138 rfl hw2 ?_
          refine go_iload at_141 rfl rfl ?_
          refine go_static [(.int c2)] [] 0 at_143 rfl (wd hB 44 rfl) (wd hB 45 rfl) (wd hB 3 rfl) (wd hB 46 rfl) (c_vo hB c2) (fun _ q => nomatch q) (lenOf pd_13 rfl) rfl rfl rfl (by decide) (by decide) (by decide) (by decide) (by decide) (fun v130 h131 s132 q133 => ?_)
          obtain ⟨s134, d135, k136, z137, v138, rfl, rfl, E139, g140, F141, F142, F143, n144⟩ := q133
          show Go _ _ _ _ _ _ _ _ _ _ _ _ h131 [] 4 12 146 #[.val (.int p0), .val (.int p1), .val (.int p2), .val (.int p3), .val (.int c0), .val (.int c1), .val (.int c2), .val (.int len), .val (.ref s105), .val (.int wk), .unset, .unset] [(.ref s134)]
          refine go_astore at_146 rfl #[.val (.int p0), .val (.int p1), .val (.int p2), .val (.int p3), .val (.int c0), .val (.int c1), .val (.int c2), .val (.int len), .val (.ref s105), .val (.int wk), .val (.ref s134), .unset] rfl rfl ?_
          refine go_goto (pt := 155) at_148 (by decide) (by decide) ?_
          refine go_aload at_155 rfl rfl rfl ?_
          refine go_aload at_157 rfl rfl rfl ?_
          have F145 := (Exa.ext E139 F112)
          have F146 := (Fld.ext E139 F113)
          have F147 := (F114.ext E139)
          refine go_static [(.ref s105), (.ref s134)] [] 0 at_159 rfl (wd hB 31 rfl) (wd hB 32 rfl) (wd hB 33 rfl) (wd hB 34 rfl) (c_rneR hB F145 F146 F147 n115) (fun _ q => nomatch q) (lenOf pd_14 rfl) rfl rfl rfl (by decide) (by decide) (by decide) (by decide) (by decide) (fun v148 h149 s150 q151 => ?_)
          obtain ⟨rfl, rfl, rfl⟩ := q151
          show Go _ _ _ _ _ _ _ _ _ _ _ _ h131 [] 4 12 162 #[.val (.int p0), .val (.int p1), .val (.int p2), .val (.int p3), .val (.int c0), .val (.int c1), .val (.int c2), .val (.int len), .val (.ref s105), .val (.int wk), .val (.ref s134), .unset] [(.ref s105)]
          refine go_astore at_162 rfl #[.val (.int p0), .val (.int p1), .val (.int p2), .val (.int p3), .val (.int c0), .val (.int c1), .val (.int c2), .val (.int len), .val (.ref s105), .val (.int wk), .val (.ref s134), .val (.ref s105)] rfl rfl ?_
          refine go_aload at_164 rfl rfl rfl ?_
          refine go_aload at_166 rfl rfl rfl ?_
          refine go_acmp (pt := 171) true at_168 rfl rfl (by simp) (by decide) (by decide) ?_
          refine go_iconst 1 at_171 rfl (by decide) ?_
          refine go_goto (pt := 176) at_172 (by decide) (by decide) ?_
          refine go_retN (t := .boolean) at_176 [] rfl (by simp) (by decide) (by decide) (fun _ q => nomatch q) ?_
          decide
        · refine go_icmp_ne_t (pt := 151) at_138 (by decide) (by decide) hw2 ?_
          refine go_aload at_151 rfl rfl rfl ?_
          refine go_astore at_153 rfl #[.val (.int p0), .val (.int p1), .val (.int p2), .val (.int p3), .val (.int c0), .val (.int c1), .val (.int c2), .val (.int len), .val (.ref s105), .val (.int wk), .val (.ref s105), .unset] rfl rfl ?_
          refine go_aload at_155 rfl rfl rfl ?_
          refine go_aload at_157 rfl rfl rfl ?_
          refine go_static [(.ref s105), (.ref s105)] [] 0 at_159 rfl (wd hB 31 rfl) (wd hB 32 rfl) (wd hB 33 rfl) (wd hB 34 rfl) (c_rneR hB F112 F113 F114 n115) (fun _ q => nomatch q) (lenOf pd_14 rfl) rfl rfl rfl (by decide) (by decide) (by decide) (by decide) (by decide) (fun v152 h153 s154 q155 => ?_)
          obtain ⟨rfl, rfl, rfl⟩ := q155
          show Go _ _ _ _ _ _ _ _ _ _ _ _ h102 [] 2 6 162 #[.val (.int p0), .val (.int p1), .val (.int p2), .val (.int p3), .val (.int c0), .val (.int c1), .val (.int c2), .val (.int len), .val (.ref s105), .val (.int wk), .val (.ref s105), .unset] [(.ref s105)]
          refine go_astore at_162 rfl #[.val (.int p0), .val (.int p1), .val (.int p2), .val (.int p3), .val (.int c0), .val (.int c1), .val (.int c2), .val (.int len), .val (.ref s105), .val (.int wk), .val (.ref s105), .val (.ref s105)] rfl rfl ?_
          refine go_aload at_164 rfl rfl rfl ?_
          refine go_aload at_166 rfl rfl rfl ?_
          refine go_acmp (pt := 171) true at_168 rfl rfl (by simp) (by decide) (by decide) ?_
          refine go_iconst 1 at_171 rfl (by decide) ?_
          refine go_goto (pt := 176) at_172 (by decide) (by decide) ?_
          refine go_retN (t := .boolean) at_176 [] rfl (by simp) (by decide) (by decide) (fun _ q => nomatch q) ?_
          decide
  · refine go_icmp_ne_t (pt := 46) at_33 (by decide) (by decide) hl1 ?_
    refine go_iload at_46 rfl rfl ?_
    refine go_iconst 2 at_48 rfl (by decide) ?_
    by_cases hl2 : (len = 2 : Prop)
    · refine go_icmp_ne_f at_49 rfl hl2 ?_
      refine go_new at_52 rfl (wd hB 1 rfl) (wd hB 2 rfl) (wd hB 3 rfl) (by decide) (by decide) ?_
      intro h161 x156 hx157 E158 ⟨A159, D160⟩
      have F162 : Fld Z h161 x156 "java/lang/String" "coder" "B" (.int 0) := D160 (Or.inr (wd hB 28 rfl)) (ty := .byte) (by decide)
      have F163 : Fld Z h161 x156 "java/lang/String" "value" "[B" .null := D160 (Or.inr (wd hB 30 rfl)) (ty := (.array .byte)) (by decide)
      refine go_dup at_55 rfl rfl ?_
      refine go_iconst 2 at_56 rfl (by decide) ?_
      refine go_newarr (ty := .char) (ad := "[C") 2 at_57 rfl rfl (wd hB 4 rfl) (by decide) (by decide) (by decide) (by decide) (by decide) (by decide) ?_
      intro h169 x164 hx165 E166 ⟨A167, k168, B170⟩
      have B171 : Arv Z h169 x164 k168 .char 2 [(.int 0), (.int 0)] (.int 0) := B170.pad (pad_rep [] (.int 0) 2)
      refine go_dup at_59 rfl rfl ?_
      refine go_iconst 0 at_60 rfl (by decide) ?_
      refine go_iload at_61 rfl rfl ?_
      refine go_castore 0 c0 at_63 rfl nc0 B171 ⟨by decide, by decide⟩ (by decide) (by show 0 < 2; decide) (List.Mem.head _) ?_
      intro h172 W173 B174
      have B175 : Arv Z h172 x164 k168 .char 2 [(.int c0), (.int 0)] (.int 0) := B174
      refine go_dup at_64 rfl rfl ?_
      refine go_iconst 1 at_65 rfl (by decide) ?_
      refine go_iload at_66 rfl rfl ?_
      refine go_castore 1 c1 at_68 rfl nc1 B175 ⟨by decide, by decide⟩ (by decide) (by show 1 < 2; decide) (List.Mem.head _) ?_
      intro h176 W177 B178
      have B179 : Arv Z h176 x164 k168 .char 2 [(.int c0), (.int c1)] (.int 0) := B178
      have F180 := (Exa.wr W177 (Exa.wr W173 (Exa.ext E166 A159)))
      have F181 := (Fld.other W177 (Fld.other W173 (Fld.ext E166 F163) (Or.inl (Nat.ne_of_lt (Nat.lt_of_lt_of_le A159.lt (Nat.le_of_eq hx165.symm))))) (Or.inl (Nat.ne_of_lt (Nat.lt_of_lt_of_le A159.lt (Nat.le_of_eq hx165.symm)))))
      have F182 := (Fld.other W177 (Fld.other W173 (Fld.ext E166 F162) (Or.inl (Nat.ne_of_lt (Nat.lt_of_lt_of_le A159.lt (Nat.le_of_eq hx165.symm))))) (Or.inl (Nat.ne_of_lt (Nat.lt_of_lt_of_le A159.lt (Nat.le_of_eq hx165.symm)))))
      refine go_special x156 [(.ref x164)] [(.ref x156)] 1 at_69 rfl rfl (wd hB 5 rfl) (wd hB 6 rfl) (wd hB 3 rfl) (wd hB 7 rfl) (c_sinitg hB [c0, c1] (by simp) (by simp) (List.forall_mem_cons.mpr ⟨uc0, (List.forall_mem_cons.mpr ⟨uc1, (fun _ q => nomatch q)⟩)⟩) B179 F180 F181 F182) (allS (List.Mem.tail _ (List.Mem.head _)) (fun _ q => nomatch q)) (lenOf pd_15 rfl) rfl rfl rfl (by decide) (by decide) (by decide) (by decide) (by decide) (fun v183 h184 s185 q186 => ?_)
      obtain ⟨rfl, rfl, K187, d188, k189, g190, E191, F192, F193, A194⟩ := q186
      show Go _ _ _ _ _ _ _ _ _ _ _ _ h184 [x164, x156] 4 30 72 #[.val (.int p0), .val (.int p1), .val (.int p2), .val (.int p3), .val (.int c0), .val (.int c1), .val (.int c2), .val (.int len), .unset, .unset, .unset, .unset] [(.ref x156)]
      refine go_astore at_72 rfl #[.val (.int p0), .val (.int p1), .val (.int p2), .val (.int p3), .val (.int c0), .val (.int c1), .val (.int c2), .val (.int len), .val (.ref x156), .unset, .unset, .unset] rfl rfl ?_
      refine go_goto (pt := 104) at_74 (by decide) (by decide) ?_
      refine go_iloadN at_104 rfl rfl ?_
      refine go_iconst 2 at_105 rfl (by decide) ?_
      refine go_iushr at_106 rfl ?_
      refine go_iconst 3 at_107 rfl (by decide) ?_
      refine go_iand at_108 rfl ?_
      obtain ⟨wk, hwk⟩ : ∃ z, z = (XT.ushr p3 2) &&& 3 := ⟨_, rfl⟩
      rw [← hwk]
      refine go_istore at_109 rfl #[.val (.int p0), .val (.int p1), .val (.int p2), .val (.int p3), .val (.int c0), .val (.int c1), .val (.int c2), .val (.int len), .val (.ref x156), .val (.int wk), .unset, .unset] rfl ?_
      refine go_iload at_111 rfl rfl ?_
      by_cases hw0 : (wk = 0 : Prop)
      · refine go_if_ne_f at_113 rfl hw0 ?_
        refine go_aconstNull at_116 rfl ?_
        refine go_astore at_117 rfl #[.val (.int p0), .val (.int p1), .val (.int p2), .val (.int p3), .val (.int c0), .val (.int c1), .val (.int c2), .val (.int len), .val (.ref x156), .val (.int wk), .val .null, .unset] rfl rfl ?_
        refine go_goto (pt := 155) at_119 (by decide) (by decide) ?_
        refine go_aload at_155 rfl rfl rfl ?_
        refine go_aload at_157 rfl rfl rfl ?_
        refine go_static [(.ref x156), .null] [] 0 at_159 rfl (wd hB 31 rfl) (wd hB 32 rfl) (wd hB 33 rfl) (wd hB 34 rfl) (c_rneN hB E191 F193 A194 (bytS_pos (by simp) (by simp))) (fun _ q => nomatch q) (lenOf pd_14 rfl) rfl rfl rfl (by decide) (by decide) (by decide) (by decide) (by decide) (fun v195 h196 s197 q198 => ?_)
        obtain ⟨rfl, rfl, rfl⟩ := q198
        show Go _ _ _ _ _ _ _ _ _ _ _ _ h184 [x164, x156] 4 30 162 #[.val (.int p0), .val (.int p1), .val (.int p2), .val (.int p3), .val (.int c0), .val (.int c1), .val (.int c2), .val (.int len), .val (.ref x156), .val (.int wk), .val .null, .unset] [(.ref x156)]
        refine go_astore at_162 rfl #[.val (.int p0), .val (.int p1), .val (.int p2), .val (.int p3), .val (.int c0), .val (.int c1), .val (.int c2), .val (.int len), .val (.ref x156), .val (.int wk), .val .null, .val (.ref x156)] rfl rfl ?_
        refine go_aload at_164 rfl rfl rfl ?_
        refine go_aload at_166 rfl rfl rfl ?_
        refine go_acmp (pt := 171) true at_168 rfl rfl (by simp) (by decide) (by decide) ?_
        refine go_iconst 1 at_171 rfl (by decide) ?_
        refine go_goto (pt := 176) at_172 (by decide) (by decide) ?_
        refine go_retN (t := .boolean) at_176 [] rfl (by simp) (by decide) (by decide) (fun _ q => nomatch q) ?_
        decide
      · refine go_if_ne_t (pt := 122) at_113 (by decide) (by decide) hw0 ?_
        refine go_iload at_122 rfl rfl ?_
        refine go_iconst 1 at_124 rfl (by decide) ?_
        by_cases hw1 : (wk = 1 : Prop)
        · refine go_icmp_ne_f at_125 rfl hw1 ?_
          refine go_ldcO (text := "") 0 at_128 rfl (wd hB 80 rfl) (stA hB) (by decide) (by decide) (by decide) (by decide) ?_
          intro h199 a200 E201
          refine go_astore at_130 rfl #[.val (.int p0), .val (.int p1), .val (.int p2), .val (.int p3), .val (.int c0), .val (.int c1), .val (.int c2), .val (.int len), .val (.ref x156), .val (.int wk), .val (.ref a200), .unset] rfl rfl ?_
          refine go_goto (pt := 155) at_132 (by decide) (by decide) ?_
          refine go_aload at_155 rfl rfl rfl ?_
          refine go_aload at_157 rfl rfl rfl ?_
          have F202 := (Exa.ext E201 E191)
          have F203 := (Fld.ext E201 F193)
          have F204 := (A194.ext E201)
          refine go_static [(.ref x156), (.ref a200)] [] 0 at_159 rfl (wd hB 31 rfl) (wd hB 32 rfl) (wd hB 33 rfl) (wd hB 34 rfl) (c_rneR hB F202 F203 F204 (bytS_pos (by simp) (by simp))) (fun _ q => nomatch q) (lenOf pd_14 rfl) rfl rfl rfl (by decide) (by decide) (by decide) (by decide) (by decide) (fun v205 h206 s207 q208 => ?_)
          obtain ⟨rfl, rfl, rfl⟩ := q208
          show Go _ _ _ _ _ _ _ _ _ _ _ _ h199 [x164, x156] 6 34 162 #[.val (.int p0), .val (.int p1), .val (.int p2), .val (.int p3), .val (.int c0), .val (.int c1), .val (.int c2), .val (.int len), .val (.ref x156), .val (.int wk), .val (.ref a200), .unset] [(.ref x156)]
          refine go_astore at_162 rfl #[.val (.int p0), .val (.int p1), .val (.int p2), .val (.int p3), .val (.int c0), .val (.int c1), .val (.int c2), .val (.int len), .val (.ref x156), .val (.int wk), .val (.ref a200), .val (.ref x156)] rfl rfl ?_
          refine go_aload at_164 rfl rfl rfl ?_
          refine go_aload at_166 rfl rfl rfl ?_
          refine go_acmp (pt := 171) true at_168 rfl rfl (by simp) (by decide) (by decide) ?_
          refine go_iconst 1 at_171 rfl (by decide) ?_
          refine go_goto (pt := 176) at_172 (by decide) (by decide) ?_
          refine go_retN (t := .boolean) at_176 [] rfl (by simp) (by decide) (by decide) (fun _ q => nomatch q) ?_
          decide
        · refine go_icmp_ne_t (pt := 135) at_125 (by decide) (by decide) hw1 ?_
          refine go_iload at_135 rfl rfl ?_
          refine go_iconst 2 at_137 rfl (by decide) ?_
          by_cases hw2 : (wk = 2 : Prop)
          · refine go_icmp_ne_f at_138 rfl hw2 ?_
            refine go_iload at_141 rfl rfl ?_
            refine go_static [(.int c2)] [] 0 at_143 rfl (wd hB 44 rfl) (wd hB 45 rfl) (wd hB 3 rfl) (wd hB 46 rfl) (c_vo hB c2) (fun _ q => nomatch q) (lenOf pd_13 rfl) rfl rfl rfl (by decide) (by decide) (by decide) (by decide) (by decide) (fun v209 h210 s211 q212 => ?_)
            obtain ⟨s213, d214, k215, z216, v217, rfl, rfl, E218, g219, F220, F221, F222, n223⟩ := q212
            show Go _ _ _ _ _ _ _ _ _ _ _ _ h210 [x164, x156] 6 36 146 #[.val (.int p0), .val (.int p1), .val (.int p2), .val (.int p3), .val (.int c0), .val (.int c1), .val (.int c2), .val (.int len), .val (.ref x156), .val (.int wk), .unset, .unset] [(.ref s213)]
            refine go_astore at_146 rfl #[.val (.int p0), .val (.int p1), .val (.int p2), .val (.int p3), .val (.int c0), .val (.int c1), .val (.int c2), .val (.int len), .val (.ref x156), .val (.int wk), .val (.ref s213), .unset] rfl rfl ?_
            refine go_goto (pt := 155) at_148 (by decide) (by decide) ?_
            refine go_aload at_155 rfl rfl rfl ?_
            refine go_aload at_157 rfl rfl rfl ?_
            have F224 := (Exa.ext E218 E191)
            have F225 := (Fld.ext E218 F193)
            have F226 := (A194.ext E218)
            refine go_static [(.ref x156), (.ref s213)] [] 0 at_159 rfl (wd hB 31 rfl) (wd hB 32 rfl) (wd hB 33 rfl) (wd hB 34 rfl) (c_rneR hB F224 F225 F226 (bytS_pos (by simp) (by simp))) (fun _ q => nomatch q) (lenOf pd_14 rfl) rfl rfl rfl (by decide) (by decide) (by decide) (by decide) (by decide) (fun v227 h228 s229 q230 => ?_)
            obtain ⟨rfl, rfl, rfl⟩ := q230
            show Go _ _ _ _ _ _ _ _ _ _ _ _ h210 [x164, x156] 6 36 162 #[.val (.int p0), .val (.int p1), .val (.int p2), .val (.int p3), .val (.int c0), .val (.int c1), .val (.int c2), .val (.int len), .val (.ref x156), .val (.int wk), .val (.ref s213), .unset] [(.ref x156)]
            refine go_astore at_162 rfl #[.val (.int p0), .val (.int p1), .val (.int p2), .val (.int p3), .val (.int c0), .val (.int c1), .val (.int c2), .val (.int len), .val (.ref x156), .val (.int wk), .val (.ref s213), .val (.ref x156)] rfl rfl ?_
            refine go_aload at_164 rfl rfl rfl ?_
            refine go_aload at_166 rfl rfl rfl ?_
            refine go_acmp (pt := 171) true at_168 rfl rfl (by simp) (by decide) (by decide) ?_
            refine go_iconst 1 at_171 rfl (by decide) ?_
            refine go_goto (pt := 176) at_172 (by decide) (by decide) ?_
            refine go_retN (t := .boolean) at_176 [] rfl (by simp) (by decide) (by decide) (fun _ q => nomatch q) ?_
            decide
          · refine go_icmp_ne_t (pt := 151) at_138 (by decide) (by decide) hw2 ?_
            refine go_aload at_151 rfl rfl rfl ?_
            refine go_astore at_153 rfl #[.val (.int p0), .val (.int p1), .val (.int p2), .val (.int p3), .val (.int c0), .val (.int c1), .val (.int c2), .val (.int len), .val (.ref x156), .val (.int wk), .val (.ref x156), .unset] rfl rfl ?_
            refine go_aload at_155 rfl rfl rfl ?_
            refine go_aload at_157 rfl rfl rfl ?_
            refine go_static [(.ref x156), (.ref x156)] [] 0 at_159 rfl (wd hB 31 rfl) (wd hB 32 rfl) (wd hB 33 rfl) (wd hB 34 rfl) (c_rneR hB E191 F193 A194 (bytS_pos (by simp) (by simp))) (fun _ q => nomatch q) (lenOf pd_14 rfl) rfl rfl rfl (by decide) (by decide) (by decide) (by decide) (by decide) (fun v231 h232 s233 q234 => ?_)
            obtain ⟨rfl, rfl, rfl⟩ := q234
            show Go _ _ _ _ _ _ _ _ _ _ _ _ h184 [x164, x156] 4 30 162 #[.val (.int p0), .val (.int p1), .val (.int p2), .val (.int p3), .val (.int c0), .val (.int c1), .val (.int c2), .val (.int len), .val (.ref x156), .val (.int wk), .val (.ref x156), .unset] [(.ref x156)]
            refine go_astore at_162 rfl #[.val (.int p0), .val (.int p1), .val (.int p2), .val (.int p3), .val (.int c0), .val (.int c1), .val (.int c2), .val (.int len), .val (.ref x156), .val (.int wk), .val (.ref x156), .val (.ref x156)] rfl rfl ?_
            refine go_aload at_164 rfl rfl rfl ?_
            refine go_aload at_166 rfl rfl rfl ?_
            refine go_acmp (pt := 171) true at_168 rfl rfl (by simp) (by decide) (by decide) ?_
            refine go_iconst 1 at_171 rfl (by decide) ?_
            refine go_goto (pt := 176) at_172 (by decide) (by decide) ?_
            refine go_retN (t := .boolean) at_176 [] rfl (by simp) (by decide) (by decide) (fun _ q => nomatch q) ?_
            decide
    · refine go_icmp_ne_t (pt := 77) at_49 (by decide) (by decide) hl2 ?_
      refine go_new at_77 rfl (wd hB 1 rfl) (wd hB 2 rfl) (wd hB 3 rfl) (by decide) (by decide) ?_
      intro h240 x235 hx236 E237 ⟨A238, D239⟩
      have F241 : Fld Z h240 x235 "java/lang/String" "coder" "B" (.int 0) := D239 (Or.inr (wd hB 28 rfl)) (ty := .byte) (by decide)
      have F242 : Fld Z h240 x235 "java/lang/String" "value" "[B" .null := D239 (Or.inr (wd hB 30 rfl)) (ty := (.array .byte)) (by decide)
      refine go_dup at_80 rfl rfl ?_
      refine go_iconst 3 at_81 rfl (by decide) ?_
      refine go_newarr (ty := .char) (ad := "[C") 3 at_82 rfl rfl (wd hB 4 rfl) (by decide) (by decide) (by decide) (by decide) (by decide) (by decide) ?_
      intro h248 x243 hx244 E245 ⟨A246, k247, B249⟩
      have B250 : Arv Z h248 x243 k247 .char 3 [(.int 0), (.int 0), (.int 0)] (.int 0) := B249.pad (pad_rep [] (.int 0) 3)
      refine go_dup at_84 rfl rfl ?_
      refine go_iconst 0 at_85 rfl (by decide) ?_
      refine go_iload at_86 rfl rfl ?_
      refine go_castore 0 c0 at_88 rfl nc0 B250 ⟨by decide, by decide⟩ (by decide) (by show 0 < 3; decide) (List.Mem.head _) ?_
      intro h251 W252 B253
      have B254 : Arv Z h251 x243 k247 .char 3 [(.int c0), (.int 0), (.int 0)] (.int 0) := B253
      refine go_dup at_89 rfl rfl ?_
      refine go_iconst 1 at_90 rfl (by decide) ?_
      refine go_iload at_91 rfl rfl ?_
      refine go_castore 1 c1 at_93 rfl nc1 B254 ⟨by decide, by decide⟩ (by decide) (by show 1 < 3; decide) (List.Mem.head _) ?_
      intro h255 W256 B257
      have B258 : Arv Z h255 x243 k247 .char 3 [(.int c0), (.int c1), (.int 0)] (.int 0) := B257
      refine go_dup at_94 rfl rfl ?_
      refine go_iconst 2 at_95 rfl (by decide) ?_
      refine go_iload at_96 rfl rfl ?_
      refine go_castore 2 c2 at_98 rfl nc2 B258 ⟨by decide, by decide⟩ (by decide) (by show 2 < 3; decide) (List.Mem.head _) ?_
      intro h259 W260 B261
      have B262 : Arv Z h259 x243 k247 .char 3 [(.int c0), (.int c1), (.int c2)] (.int 0) := B261
      have F263 := (Exa.wr W260 (Exa.wr W256 (Exa.wr W252 (Exa.ext E245 A238))))
      have F264 := (Fld.other W260 (Fld.other W256 (Fld.other W252 (Fld.ext E245 F242) (Or.inl (Nat.ne_of_lt (Nat.lt_of_lt_of_le A238.lt (Nat.le_of_eq hx244.symm))))) (Or.inl (Nat.ne_of_lt (Nat.lt_of_lt_of_le A238.lt (Nat.le_of_eq hx244.symm))))) (Or.inl (Nat.ne_of_lt (Nat.lt_of_lt_of_le A238.lt (Nat.le_of_eq hx244.symm)))))
      have F265 := (Fld.other W260 (Fld.other W256 (Fld.other W252 (Fld.ext E245 F241) (Or.inl (Nat.ne_of_lt (Nat.lt_of_lt_of_le A238.lt (Nat.le_of_eq hx244.symm))))) (Or.inl (Nat.ne_of_lt (Nat.lt_of_lt_of_le A238.lt (Nat.le_of_eq hx244.symm))))) (Or.inl (Nat.ne_of_lt (Nat.lt_of_lt_of_le A238.lt (Nat.le_of_eq hx244.symm)))))
      refine go_special x235 [(.ref x243)] [(.ref x235)] 1 at_99 rfl rfl (wd hB 5 rfl) (wd hB 6 rfl) (wd hB 3 rfl) (wd hB 7 rfl) (c_sinitg hB [c0, c1, c2] (by simp) (by simp) (List.forall_mem_cons.mpr ⟨uc0, (List.forall_mem_cons.mpr ⟨uc1, (List.forall_mem_cons.mpr ⟨uc2, (fun _ q => nomatch q)⟩)⟩)⟩) B262 F263 F264 F265) (allS (List.Mem.tail _ (List.Mem.head _)) (fun _ q => nomatch q)) (lenOf pd_15 rfl) rfl rfl rfl (by decide) (by decide) (by decide) (by decide) (by decide) (fun v266 h267 s268 q269 => ?_)
      obtain ⟨rfl, rfl, K270, d271, k272, g273, E274, F275, F276, A277⟩ := q269
      show Go _ _ _ _ _ _ _ _ _ _ _ _ h267 [x243, x235] 4 31 102 #[.val (.int p0), .val (.int p1), .val (.int p2), .val (.int p3), .val (.int c0), .val (.int c1), .val (.int c2), .val (.int len), .unset, .unset, .unset, .unset] [(.ref x235)]
      refine go_astore at_102 rfl #[.val (.int p0), .val (.int p1), .val (.int p2), .val (.int p3), .val (.int c0), .val (.int c1), .val (.int c2), .val (.int len), .val (.ref x235), .unset, .unset, .unset] rfl rfl ?_
      refine go_iloadN at_104 rfl rfl ?_
      refine go_iconst 2 at_105 rfl (by decide) ?_
      refine go_iushr at_106 rfl ?_
      refine go_iconst 3 at_107 rfl (by decide) ?_
      refine go_iand at_108 rfl ?_
      obtain ⟨wk, hwk⟩ : ∃ z, z = (XT.ushr p3 2) &&& 3 := ⟨_, rfl⟩
      rw [← hwk]
      refine go_istore at_109 rfl #[.val (.int p0), .val (.int p1), .val (.int p2), .val (.int p3), .val (.int c0), .val (.int c1), .val (.int c2), .val (.int len), .val (.ref x235), .val (.int wk), .unset, .unset] rfl ?_
      refine go_iload at_111 rfl rfl ?_
      by_cases hw0 : (wk = 0 : Prop)
      · refine go_if_ne_f at_113 rfl hw0 ?_
        refine go_aconstNull at_116 rfl ?_
        refine go_astore at_117 rfl #[.val (.int p0), .val (.int p1), .val (.int p2), .val (.int p3), .val (.int c0), .val (.int c1), .val (.int c2), .val (.int len), .val (.ref x235), .val (.int wk), .val .null, .unset] rfl rfl ?_
        refine go_goto (pt := 155) at_119 (by decide) (by decide) ?_
        refine go_aload at_155 rfl rfl rfl ?_
        refine go_aload at_157 rfl rfl rfl ?_
        refine go_static [(.ref x235), .null] [] 0 at_159 rfl (wd hB 31 rfl) (wd hB 32 rfl) (wd hB 33 rfl) (wd hB 34 rfl) (c_rneN hB E274 F276 A277 (bytS_pos (by simp) (by simp))) (fun _ q => nomatch q) (lenOf pd_14 rfl) rfl rfl rfl (by decide) (by decide) (by decide) (by decide) (by decide) (fun v278 h279 s280 q281 => ?_)
        obtain ⟨rfl, rfl, rfl⟩ := q281
        show Go _ _ _ _ _ _ _ _ _ _ _ _ h267 [x243, x235] 4 31 162 #[.val (.int p0), .val (.int p1), .val (.int p2), .val (.int p3), .val (.int c0), .val (.int c1), .val (.int c2), .val (.int len), .val (.ref x235), .val (.int wk), .val .null, .unset] [(.ref x235)]
        refine go_astore at_162 rfl #[.val (.int p0), .val (.int p1), .val (.int p2), .val (.int p3), .val (.int c0), .val (.int c1), .val (.int c2), .val (.int len), .val (.ref x235), .val (.int wk), .val .null, .val (.ref x235)] rfl rfl ?_
        refine go_aload at_164 rfl rfl rfl ?_
        refine go_aload at_166 rfl rfl rfl ?_
        refine go_acmp (pt := 171) true at_168 rfl rfl (by simp) (by decide) (by decide) ?_
        refine go_iconst 1 at_171 rfl (by decide) ?_
        refine go_goto (pt := 176) at_172 (by decide) (by decide) ?_
        refine go_retN (t := .boolean) at_176 [] rfl (by simp) (by decide) (by decide) (fun _ q => nomatch q) ?_
        decide
      · refine go_if_ne_t (pt := 122) at_113 (by decide) (by decide) hw0 ?_
        refine go_iload at_122 rfl rfl ?_
        refine go_iconst 1 at_124 rfl (by decide) ?_
        by_cases hw1 : (wk = 1 : Prop)
        · refine go_icmp_ne_f at_125 rfl hw1 ?_
          refine go_ldcO (text := "") 0 at_128 rfl (wd hB 80 rfl) (stA hB) (by decide) (by decide) (by decide) (by decide) ?_
          intro h282 a283 E284
          refine go_astore at_130 rfl #[.val (.int p0), .val (.int p1), .val (.int p2), .val (.int p3), .val (.int c0), .val (.int c1), .val (.int c2), .val (.int len), .val (.ref x235), .val (.int wk), .val (.ref a283), .unset] rfl rfl ?_
          refine go_goto (pt := 155) at_132 (by decide) (by decide) ?_
          refine go_aload at_155 rfl rfl rfl ?_
          refine go_aload at_157 rfl rfl rfl ?_
          have F285 := (Exa.ext E284 E274)
          have F286 := (Fld.ext E284 F276)
          have F287 := (A277.ext E284)
          refine go_static [(.ref x235), (.ref a283)] [] 0 at_159 rfl (wd hB 31 rfl) (wd hB 32 rfl) (wd hB 33 rfl) (wd hB 34 rfl) (c_rneR hB F285 F286 F287 (bytS_pos (by simp) (by simp))) (fun _ q => nomatch q) (lenOf pd_14 rfl) rfl rfl rfl (by decide) (by decide) (by decide) (by decide) (by decide) (fun v288 h289 s290 q291 => ?_)
          obtain ⟨rfl, rfl, rfl⟩ := q291
          show Go _ _ _ _ _ _ _ _ _ _ _ _ h282 [x243, x235] 6 35 162 #[.val (.int p0), .val (.int p1), .val (.int p2), .val (.int p3), .val (.int c0), .val (.int c1), .val (.int c2), .val (.int len), .val (.ref x235), .val (.int wk), .val (.ref a283), .unset] [(.ref x235)]
          refine go_astore at_162 rfl #[.val (.int p0), .val (.int p1), .val (.int p2), .val (.int p3), .val (.int c0), .val (.int c1), .val (.int c2), .val (.int len), .val (.ref x235), .val (.int wk), .val (.ref a283), .val (.ref x235)] rfl rfl ?_
          refine go_aload at_164 rfl rfl rfl ?_
          refine go_aload at_166 rfl rfl rfl ?_
          refine go_acmp (pt := 171) true at_168 rfl rfl (by simp) (by decide) (by decide) ?_
          refine go_iconst 1 at_171 rfl (by decide) ?_
          refine go_goto (pt := 176) at_172 (by decide) (by decide) ?_
          refine go_retN (t := .boolean) at_176 [] rfl (by simp) (by decide) (by decide) (fun _ q => nomatch q) ?_
          decide
        · refine go_icmp_ne_t (pt := 135) at_125 (by decide) (by decide) hw1 ?_
          refine go_iload at_135 rfl rfl ?_
          refine go_iconst 2 at_137 rfl (by decide) ?_
          by_cases hw2 : (wk = 2 : Prop)
          · refine go_icmp_ne_f at_138 rfl hw2 ?_
            refine go_iload at_141 rfl rfl ?_
            refine go_static [(.int c2)] [] 0 at_143 rfl (wd hB 44 rfl) (wd hB 45 rfl) (wd hB 3 rfl) (wd hB 46 rfl) (c_vo hB c2) (fun _ q => nomatch q) (lenOf pd_13 rfl) rfl rfl rfl (by decide) (by decide) (by decide) (by decide) (by decide) (fun v292 h293 s294 q295 => ?_)
            obtain ⟨s296, d297, k298, z299, v300, rfl, rfl, E301, g302, F303, F304, F305, n306⟩ := q295
            show Go _ _ _ _ _ _ _ _ _ _ _ _ h293 [x243, x235] 6 37 146 #[.val (.int p0), .val (.int p1), .val (.int p2), .val (.int p3), .val (.int c0), .val (.int c1), .val (.int c2), .val (.int len), .val (.ref x235), .val (.int wk), .unset, .unset] [(.ref s296)]
            refine go_astore at_146 rfl #[.val (.int p0), .val (.int p1), .val (.int p2), .val (.int p3), .val (.int c0), .val (.int c1), .val (.int c2), .val (.int len), .val (.ref x235), .val (.int wk), .val (.ref s296), .unset] rfl rfl ?_
            refine go_goto (pt := 155) at_148 (by decide) (by decide) ?_
            refine go_aload at_155 rfl rfl rfl ?_
            refine go_aload at_157 rfl rfl rfl ?_
            have F307 := (Exa.ext E301 E274)
            have F308 := (Fld.ext E301 F276)
            have F309 := (A277.ext E301)
            refine go_static [(.ref x235), (.ref s296)] [] 0 at_159 rfl (wd hB 31 rfl) (wd hB 32 rfl) (wd hB 33 rfl) (wd hB 34 rfl) (c_rneR hB F307 F308 F309 (bytS_pos (by simp) (by simp))) (fun _ q => nomatch q) (lenOf pd_14 rfl) rfl rfl rfl (by decide) (by decide) (by decide) (by decide) (by decide) (fun v310 h311 s312 q313 => ?_)
            obtain ⟨rfl, rfl, rfl⟩ := q313
            show Go _ _ _ _ _ _ _ _ _ _ _ _ h293 [x243, x235] 6 37 162 #[.val (.int p0), .val (.int p1), .val (.int p2), .val (.int p3), .val (.int c0), .val (.int c1), .val (.int c2), .val (.int len), .val (.ref x235), .val (.int wk), .val (.ref s296), .unset] [(.ref x235)]
            refine go_astore at_162 rfl #[.val (.int p0), .val (.int p1), .val (.int p2), .val (.int p3), .val (.int c0), .val (.int c1), .val (.int c2), .val (.int len), .val (.ref x235), .val (.int wk), .val (.ref s296), .val (.ref x235)] rfl rfl ?_
            refine go_aload at_164 rfl rfl rfl ?_
            refine go_aload at_166 rfl rfl rfl ?_
            refine go_acmp (pt := 171) true at_168 rfl rfl (by simp) (by decide) (by decide) ?_
            refine go_iconst 1 at_171 rfl (by decide) ?_
            refine go_goto (pt := 176) at_172 (by decide) (by decide) ?_
            refine go_retN (t := .boolean) at_176 [] rfl (by simp) (by decide) (by decide) (fun _ q => nomatch q) ?_
            decide
          · refine go_icmp_ne_t (pt := 151) at_138 (by decide) (by decide) hw2 ?_
            refine go_aload at_151 rfl rfl rfl ?_
            refine go_astore at_153 rfl #[.val (.int p0), .val (.int p1), .val (.int p2), .val (.int p3), .val (.int c0), .val (.int c1), .val (.int c2), .val (.int len), .val (.ref x235), .val (.int wk), .val (.ref x235), .unset] rfl rfl ?_
            refine go_aload at_155 rfl rfl rfl ?_
            refine go_aload at_157 rfl rfl rfl ?_
            refine go_static [(.ref x235), (.ref x235)] [] 0 at_159 rfl (wd hB 31 rfl) (wd hB 32 rfl) (wd hB 33 rfl) (wd hB 34 rfl) (c_rneR hB E274 F276 A277 (bytS_pos (by simp) (by simp))) (fun _ q => nomatch q) (lenOf pd_14 rfl) rfl rfl rfl (by decide) (by decide) (by decide) (by decide) (by decide) (fun v314 h315 s316 q317 => ?_)
            obtain ⟨rfl, rfl, rfl⟩ := q317
            show Go _ _ _ _ _ _ _ _ _ _ _ _ h267 [x243, x235] 4 31 162 #[.val (.int p0), .val (.int p1), .val (.int p2), .val (.int p3), .val (.int c0), .val (.int c1), .val (.int c2), .val (.int len), .val (.ref x235), .val (.int wk), .val (.ref x235), .unset] [(.ref x235)]
            refine go_astore at_162 rfl #[.val (.int p0), .val (.int p1), .val (.int p2), .val (.int p3), .val (.int c0), .val (.int c1), .val (.int c2), .val (.int len), .val (.ref x235), .val (.int wk), .val (.ref x235), .val (.ref x235)] rfl rfl ?_
            refine go_aload at_164 rfl rfl rfl ?_
            refine go_aload at_166 rfl rfl rfl ?_
            refine go_acmp (pt := 171) true at_168 rfl rfl (by simp) (by decide) (by decide) ?_
            refine go_iconst 1 at_171 rfl (by decide) ?_
            refine go_goto (pt := 176) at_172 (by decide) (by decide) ?_
            refine go_retN (t := .boolean) at_176 [] rfl (by simp) (by decide) (by decide) (fun _ q => nomatch q) ?_
            decide
set_option maxRecDepth 65536 in
set_option maxHeartbeats 40000000 in
theorem comes_1 {Post : Tables → Env → Array Value → State → Outcome → State → Prop} (hpost : ∀ tb e args s v u, (limb_1_1.after args s (.returned v) u = true ∧ limb_1_2.after args s (.returned v) u = true ∧ True) → ReturnedEndW s (.returned v) u (Jvm.fieldLocs frame_1_writes args s ++ Jvm.arrayLocs frame_1_arrays args s ++ Jvm.staticLocs frame_1_statics s) 24 1152 → Post tb e args s (.returned v) u) :
    ArmFor flags0 classFile x code maxLocals ret World_1 tables_1 room_1 Calls_1 rest_1 Pre_1 Post := by
  intro l hfl _ _ p e ha hc hk s m args below hf hA hF happ hP
  obtain ⟨hcalls, hrest, hpre⟩ := hP
  obtain ⟨-, -, -, hnamed, -, -, -, hat⟩ := (Spec.applies_iff hf).mp happ
  obtain ⟨hg, hn⟩ := and_e (Cond.before_iff.mp (show (Jvm.Cond.and given_1 narrow_1).before args s = true from hpre))
  obtain ⟨hcount, hr_0⟩ := and_e hg
  obtain ⟨hk_0, hr_1⟩ := and_e hr_0
  obtain ⟨hk_1, hr_2⟩ := and_e hr_1
  obtain ⟨hk_2, hr_3⟩ := and_e hr_2
  have hk_3 := hr_3
  obtain ⟨w0, w1, w2, w3, rfl⟩ : ∃ w0 w1 w2 w3 : Value, args = #[w0, w1, w2, w3] := by
    have hs : args.size = 4 := by simpa [Cond.value, given_1] using hcount
    obtain ⟨L⟩ := args
    match L, hs with
    | [w0, w1, w2, w3], _ => exact ⟨w0, w1, w2, w3, rfl⟩
  have hw := fun d (hd : d ∈ tables_1) => atoms_spec (ws := Jvm.Cond.code x code maxLocals ret :: tables_1) hat d (List.mem_cons_of_mem _ hd)
  obtain ⟨hsets, hown0⟩ := atoms_of _ (rest_1_c_eq ▸ (show rest_1_c.before _ s = true from hrest))
  have hfit : Fit s := fun {y c} hc i hi => by
    obtain ⟨ha, rfl⟩ := Array.getElem?_eq_some_iff.mp hc
    have q := List.all_eq_true.mp ((Array.all_eq_true_iff_forall_mem.mp hF) _ (Array.getElem_mem ha)) i (List.mem_range.mpr hi)
    simpa [Array.getElem?_eq_getElem hi] using q
  obtain ⟨p0, e_0⟩ := is_v hk_0
  obtain rfl : w0 = (.int p0) := Option.some.inj e_0
  obtain ⟨p1, e_1⟩ := is_v hk_1
  obtain rfl : w1 = (.int p1) := Option.some.inj e_1
  obtain ⟨p2, e_2⟩ := is_v hk_2
  obtain rfl : w2 = (.int p2) := Option.some.inj e_2
  obtain ⟨p3, e_3⟩ := is_v hk_3
  obtain rfl : w3 = (.int p3) := Option.some.inj e_3
  obtain ⟨cz, e_cz⟩ := is_v (Cond.before_iff.mp (hsets _ (List.mem_of_getElem? (i := 1) rfl)))
  have S_cs : Sta s s.heap "java/lang/String" "COMPACT_STRINGS" "Z" (.int cz) := Sta.start e_cz (Or.inl (hsets _ (List.mem_of_getElem? (i := 0) rfl)))
  have c_cs : ¬ (cz = (0 : Int32)) := gotF (Cond.eq_ints e_cz (Term.int_eval (0))) (not_v (Cond.before_iff.mp (hsets _ (List.mem_of_getElem? (i := 2) rfl))))
  have U1 : Sta s s.heap "java/lang/StringUTF16" "$assertionsDisabled" "Z" (.int 1) := Sta.start (eqv_i (Term.int_eval _) (Cond.before_iff.mp (hsets _ (List.mem_of_getElem? (i := 12) rfl)))) (Or.inl (hsets _ (List.mem_of_getElem? (i := 11) rfl)))
  have U2 : Sta s s.heap "java/lang/StringUTF16" "HI_BYTE_SHIFT" "I" (.int 0) := Sta.start (eqv_i (Term.int_eval _) (Cond.before_iff.mp (hsets _ (List.mem_of_getElem? (i := 15) rfl)))) (Or.inl (hsets _ (List.mem_of_getElem? (i := 14) rfl)))
  have U3 : Sta s s.heap "java/lang/StringUTF16" "LO_BYTE_SHIFT" "I" (.int 8) := Sta.start (eqv_i (Term.int_eval _) (Cond.before_iff.mp (hsets _ (List.mem_of_getElem? (i := 18) rfl)))) (Or.inl (hsets _ (List.mem_of_getElem? (i := 17) rfl)))
  have hEW : EW s #[.int p0, .int p1, .int p2, .int p3] ELc := EW.nil
  have hCH : CHv s ELc s.vm s.heap := fun q hq => by cases hq
  have hB : Base s #[.int p0, .int p1, .int p2, .int p3] := ⟨hw, hEW, ⟨cz, S_cs, c_cs⟩, ⟨U1, U2, U3⟩, trivial⟩
  obtain ⟨n, o, h1, h2, h3, v, L, sf', rfl, rfl, N, -, -, -, hq⟩ := c_law (l := l) (n0 := s.heap.size) hB tables_1 p0 p1 p2 p3 (h := s.heap) p e ha hc hk s m _ below hf ((Spec.applies_iff_loose hf).mp happ).1 ⟨rfl, State.Warmed39.refl s, rfl, hCH, OwnL.nil, Old.start s⟩ trivial
  refine ⟨n, _, h1, h2, h3, hpost _ _ _ _ _ _ ⟨Cond.after_iff.mpr rfl, Cond.after_iff.mpr (eq_i res_at (Term.int_eval (1)) rfl), trivial⟩ ⟨hq.1, hq.2.1, hq.2.2.1, (hq.2.2.2.sift fun y hy => Or.inr (N y hy)).mono (by decide) (by decide)⟩⟩
theorem main_1_1 : Claimed_1_1 := comes_1 fun _ _ _ _ _ _ h hF => ⟨h.1, hF⟩
theorem main_1_2 : Claimed_1_2 := comes_1 fun _ _ _ _ _ _ h hF => ⟨h.2.1, hF⟩
end Jvm.Pilot.@@N@@
namespace Jvm.Pilot.@@N@@
open Jvm Jvm.ClassFile Sem Op Lib Jvm.Free Jvm.Stand Jvm.Pilot.@@N@@.Jvm.D
/-! MADE BY PROGRAM (witnessworld.py) out of the Statement's table words and the real class files: 21 classes; the members and pool entries that the words name. The judged class is class 1, her method 1. -/
namespace start1
open Jvm.ClassFile
def u (s : String) : CpInfo := .utf8 (stringToUtf16 s)
/-- a pool by its gaps: so many unusable entries, then the entry; so many at the end -/
def gap : Nat → List CpInfo → List CpInfo
  | 0, r => r
  | n + 1, r => .unusable :: gap n r
def poolList (es : List (Nat × CpInfo)) (last : Nat) : List CpInfo := es.foldr (fun e r => gap e.1 (e.2 :: r)) (gap last [])
def pool (es : List (Nat × CpInfo)) (last : Nat) : Array CpInfo := ⟨poolList es last⟩
def fileOf (pool : Array CpInfo) (this : Nat) (attrs : Array Attribute := #[]) (ms : Array MethodInfo := #[]) (fl : Nat := 33) (sup : Nat := 0) (ifs : Array Nat := #[]) (fds : Array FieldInfo := #[]) : ClassFile where
  minorVersion := 0
  majorVersion := 65
  constantPool := pool
  accessFlags := fl
  thisClass := this
  superClass := sup
  interfaces := ifs
  fields := fds
  methods := ms
  attributes := attrs
def plain (name : String) (sup : Option ClassId) : Class where
  name := name
  kind := .ordinary
  loader := none
  accessFlags := 33
  super := sup
  interfaces := #[]
  cf := none
  fields := #[]
  methods := #[]
  instanceTypes := #[]
  staticTypes := #[]
  resolved := #[]
  callSites := []
  init := .initialized
  statics := none
  mirror := none

def pool0 : Array CpInfo := pool [(5, u "<init>"), (0, u "()V"), (1, .class_ 10), (1, u "java/lang/Object")] 113

def k0c0 : Code := { maxStack := 0, maxLocals := 1, code := object_method_1_code, exceptionTable := #[], attributes := #[] }
def k0m0 : Method := { name := "<init>", desc := "()V", sig := { parameters := [], returnType := none }, accessFlags := 1, code := some k0c0 }
/-- java/lang/Object -/
def k0 : Class := { plain "java/lang/Object" none with
  accessFlags := 33
  interfaces := #[]
  cf := some (fileOf pool0 8 #[] #[{ accessFlags := 1, nameIndex := 5, descriptorIndex := 6, attributes := #[] }] 33 0 #[] #[])
  fields := #[]
  methods := #[k0m0]
  instanceTypes := #[]
  staticTypes := #[]
  resolved := Array.replicate 124 none
  statics := none }

def pool1 : Array CpInfo := pool [(2, .class_ 4), (1, u "java/lang/Object"), (0, u "<init>"), (0, u "()V"), (0, .integer 65535), (0, .methodref 9 10), (0, .class_ 11), (0, .nameAndType 12 13), (0, u "java/lang/String"), (0, u "valueOf"), (0, u "(C)Ljava/lang/String;"), (0, .methodref 9 15), (0, .nameAndType 5 16), (0, u "([C)V"), (0, .string 18), (0, u ""), (0, .methodref 20 21), (0, .class_ 22), (0, .nameAndType 23 24), (0, u "com/example/justification/justification/model/Names"), (0, u "requireNonEmpty"), (0, u "(Ljava/lang/String;Ljava/lang/String;)Ljava/lang/String;"), (0, .class_ 26), (0, u "com/example/justification/justification/model/NamesRequireNonEmptyPinLaw"), (2, u "law"), (0, u "(IIII)Z")] 3

def k1m0 : Method := { name := "<init>", desc := "()V", sig := { parameters := [], returnType := none }, accessFlags := 2, code := none }
def k1c1 : Code := { maxStack := 6, maxLocals := 12, code := code, exceptionTable := #[], attributes := #[] }
def k1m1 : Method := { name := "law", desc := "(IIII)Z", sig := { parameters := [.int, .int, .int, .int], returnType := some .boolean }, accessFlags := 9, code := some k1c1 }
/-- com/example/justification/justification/model/NamesRequireNonEmptyPinLaw -/
def k1 : Class := { plain "com/example/justification/justification/model/NamesRequireNonEmptyPinLaw" (some 0) with
  accessFlags := 49
  interfaces := #[]
  cf := some (fileOf pool1 25 #[] #[{ accessFlags := 2, nameIndex := 5, descriptorIndex := 6, attributes := #[] }, { accessFlags := 9, nameIndex := 29, descriptorIndex := 30, attributes := #[] }] 49 2 #[] #[])
  fields := #[]
  methods := #[k1m0, k1m1]
  instanceTypes := #[]
  staticTypes := #[]
  resolved := Array.replicate 34 none
  statics := none }

def pool2 : Array CpInfo := pool [(1, .class_ 2), (0, u "java/io/Serializable"), (0, .class_ 4), (0, u "java/lang/Object")] 2

/-- java/io/Serializable -/
def k2 : Class := { plain "java/io/Serializable" (some 0) with
  accessFlags := 1537
  interfaces := #[]
  cf := some (fileOf pool2 1 #[] #[] 1537 3 #[] #[])
  fields := #[]
  methods := #[]
  instanceTypes := #[]
  staticTypes := #[]
  resolved := Array.replicate 7 none
  statics := none }

def pool3 : Array CpInfo := pool [(1, .class_ 2), (0, u "java/lang/Comparable"), (0, .class_ 4), (0, u "java/lang/Object")] 7

/-- java/lang/Comparable -/
def k3 : Class := { plain "java/lang/Comparable" (some 0) with
  accessFlags := 1537
  interfaces := #[]
  cf := some (fileOf pool3 1 #[] #[] 1537 3 #[] #[])
  fields := #[]
  methods := #[]
  instanceTypes := #[]
  staticTypes := #[]
  resolved := Array.replicate 12 none
  statics := none }

def pool4 : Array CpInfo := pool [(2, .class_ 4), (1, u "java/lang/CharSequence"), (42, .class_ 48), (0, u "java/lang/CharSequence$1CodePointIterator"), (10, .class_ 60), (0, u "java/lang/CharSequence$1CharIterator"), (5, .class_ 67), (0, u "java/lang/Object")] 63

/-- java/lang/CharSequence -/
def k4 : Class := { plain "java/lang/CharSequence" (some 0) with
  accessFlags := 1537
  interfaces := #[]
  cf := some (fileOf pool4 2 #[.nestMembers #[47, 59]] #[] 1537 66 #[] #[])
  fields := #[]
  methods := #[]
  instanceTypes := #[]
  staticTypes := #[]
  resolved := Array.replicate 131 none
  statics := none }

def pool5 : Array CpInfo := pool [(1, .class_ 2), (0, u "java/lang/constant/Constable"), (0, .class_ 4), (0, u "java/lang/Object")] 6

/-- java/lang/constant/Constable -/
def k5 : Class := { plain "java/lang/constant/Constable" (some 0) with
  accessFlags := 1537
  interfaces := #[]
  cf := some (fileOf pool5 1 #[] #[] 1537 3 #[] #[])
  fields := #[]
  methods := #[]
  instanceTypes := #[]
  staticTypes := #[]
  resolved := Array.replicate 11 none
  statics := none }

def pool6 : Array CpInfo := pool [(1, .class_ 2), (0, u "java/lang/constant/ConstantDesc"), (0, .class_ 4), (0, u "java/lang/Object")] 32

/-- java/lang/constant/ConstantDesc -/
def k6 : Class := { plain "java/lang/constant/ConstantDesc" (some 0) with
  accessFlags := 1537
  interfaces := #[]
  cf := some (fileOf pool6 1 #[] #[] 1537 3 #[] #[])
  fields := #[]
  methods := #[]
  instanceTypes := #[]
  staticTypes := #[]
  resolved := Array.replicate 37 none
  statics := none }

def pool7 : Array CpInfo := pool [(1, .methodref 2 3), (0, .class_ 4), (0, .nameAndType 5 6), (0, u "java/lang/Object"), (0, u "<init>"), (0, u "()V"), (2, .fieldref 10 11), (0, .class_ 12), (0, .nameAndType 13 14), (0, u "java/lang/String"), (0, u "value"), (0, u "[B"), (0, .fieldref 10 16), (0, .nameAndType 17 18), (0, u "coder"), (0, u "B"), (2, u "hash"), (0, u "I"), (2, u "hashIsZero"), (0, u "Z"), (0, .methodref 10 28), (0, .nameAndType 5 29), (0, u "([CIILjava/lang/Void;)V"), (8, .fieldref 10 39), (0, .nameAndType 40 26), (0, u "COMPACT_STRINGS"), (1, .class_ 44), (1, u "java/lang/StringUTF16"), (0, u "compress"), (1, .methodref 42 48), (0, .nameAndType 49 50), (0, u "coderFromArrayLen"), (0, u "([BI)B"), (2, u "toBytes"), (53, .class_ 109), (1, u "java/lang/StringLatin1"), (32, u "()Z"), (34, .methodref 42 178), (0, .nameAndType 45 179), (0, u "([CII)[B"), (29, .methodref 10 210), (0, .nameAndType 5 211), (0, u "([BB)V"), (157, u "(C)Z"), (205, .class_ 576), (0, u "java/lang/CharSequence"), (22, u "CASE_INSENSITIVE_ORDER"), (0, u "Ljava/util/Comparator;"), (91, u "isEmpty"), (89, u "valueOf"), (0, u "(C)Ljava/lang/String;"), (226, u "([C)V"), (4, .methodref 107 1016), (0, .nameAndType 1017 369), (0, u "canEncode"), (0, .methodref 107 1019), (0, .nameAndType 53 1020), (0, u "(C)[B"), (0, .methodref 42 1019), (79, u "serialPersistentFields"), (0, u "[Ljava/io/ObjectStreamField;"), (0, .class_ 1104), (0, u "java/lang/String$CaseInsensitiveComparator"), (1, .class_ 1107), (0, u "java/io/Serializable"), (0, .class_ 1109), (0, u "java/lang/Comparable"), (0, .class_ 1111), (0, u "java/lang/constant/Constable"), (0, .class_ 1113), (0, u "java/lang/constant/ConstantDesc"), (2, u "serialVersionUID"), (0, u "J"), (3, u "REPL"), (0, u "C"), (2, u "LATIN1"), (1, u "UTF16")] 323

def k7m0 : Method := { name := "<init>", desc := "()V", sig := { parameters := [], returnType := none }, accessFlags := 1, code := none }
def k7c1 : Code := { maxStack := 5, maxLocals := 2, code := jdk_42_method_3_code, exceptionTable := #[], attributes := #[] }
def k7m1 : Method := { name := "<init>", desc := "([C)V", sig := { parameters := [(.array .char)], returnType := none }, accessFlags := 1, code := some k7c1 }
def k7c2 : Code := { maxStack := 1, maxLocals := 1, code := jdk_42_method_55_code, exceptionTable := #[], attributes := #[] }
def k7m2 : Method := { name := "isEmpty", desc := "()Z", sig := { parameters := [], returnType := some .boolean }, accessFlags := 1, code := some k7c2 }
def k7c3 : Code := { maxStack := 4, maxLocals := 1, code := jdk_42_method_139_code, exceptionTable := #[], attributes := #[] }
def k7m3 : Method := { name := "valueOf", desc := "(C)Ljava/lang/String;", sig := { parameters := [.char], returnType := some (.object "java/lang/String") }, accessFlags := 9, code := some k7c3 }
def k7c4 : Code := { maxStack := 4, maxLocals := 6, code := jdk_42_method_149_code, exceptionTable := #[], attributes := #[] }
def k7m4 : Method := { name := "<init>", desc := "([CIILjava/lang/Void;)V", sig := { parameters := [(.array .char), .int, .int, (.object "java/lang/Void")], returnType := none }, accessFlags := 2, code := some k7c4 }
def k7c5 : Code := { maxStack := 2, maxLocals := 3, code := jdk_42_method_151_code, exceptionTable := #[], attributes := #[] }
def k7m5 : Method := { name := "<init>", desc := "([BB)V", sig := { parameters := [(.array .byte), .byte], returnType := none }, accessFlags := 0, code := some k7c5 }
/-- java/lang/String -/
def k7 : Class := { plain "java/lang/String" (some 0) with
  accessFlags := 49
  interfaces := #[2, 3, 4, 5, 6]
  cf := some (fileOf pool7 10 #[.nestMembers #[1103]] #[{ accessFlags := 1, nameIndex := 5, descriptorIndex := 6, attributes := #[] }, { accessFlags := 1, nameIndex := 5, descriptorIndex := 1010, attributes := #[] }, { accessFlags := 1, nameIndex := 692, descriptorIndex := 142, attributes := #[] }, { accessFlags := 9, nameIndex := 782, descriptorIndex := 783, attributes := #[] }, { accessFlags := 2, nameIndex := 5, descriptorIndex := 29, attributes := #[] }, { accessFlags := 0, nameIndex := 5, descriptorIndex := 211, attributes := #[] }] 49 2 #[1106, 1108, 575, 1110, 1112] #[{ accessFlags := 18, nameIndex := 13, descriptorIndex := 14, attributes := #[] }, { accessFlags := 18, nameIndex := 17, descriptorIndex := 18, attributes := #[] }, { accessFlags := 2, nameIndex := 21, descriptorIndex := 22, attributes := #[] }, { accessFlags := 2, nameIndex := 25, descriptorIndex := 26, attributes := #[] }, { accessFlags := 26, nameIndex := 1116, descriptorIndex := 1117, attributes := #[] }, { accessFlags := 24, nameIndex := 40, descriptorIndex := 26, attributes := #[] }, { accessFlags := 26, nameIndex := 1101, descriptorIndex := 1102, attributes := #[] }, { accessFlags := 26, nameIndex := 1121, descriptorIndex := 1122, attributes := #[] }, { accessFlags := 25, nameIndex := 599, descriptorIndex := 600, attributes := #[] }, { accessFlags := 24, nameIndex := 1125, descriptorIndex := 18, attributes := #[] }, { accessFlags := 24, nameIndex := 1127, descriptorIndex := 18, attributes := #[] }])
  fields := #[{ name := "value", type := (.array .byte), accessFlags := 18, slot := 0, constantValue := 0 }, { name := "coder", type := .byte, accessFlags := 18, slot := 1, constantValue := 0 }, { name := "hash", type := .int, accessFlags := 2, slot := 2, constantValue := 0 }, { name := "hashIsZero", type := .boolean, accessFlags := 2, slot := 3, constantValue := 0 }, { name := "serialVersionUID", type := .long, accessFlags := 26, slot := 0, constantValue := 0 }, { name := "COMPACT_STRINGS", type := .boolean, accessFlags := 24, slot := 1, constantValue := 0 }, { name := "serialPersistentFields", type := (.array (.object "java/io/ObjectStreamField")), accessFlags := 26, slot := 2, constantValue := 0 }, { name := "REPL", type := .char, accessFlags := 26, slot := 3, constantValue := 0 }, { name := "CASE_INSENSITIVE_ORDER", type := (.object "java/util/Comparator"), accessFlags := 25, slot := 4, constantValue := 0 }, { name := "LATIN1", type := .byte, accessFlags := 24, slot := 5, constantValue := 0 }, { name := "UTF16", type := .byte, accessFlags := 24, slot := 6, constantValue := 0 }]
  methods := #[k7m0, k7m1, k7m2, k7m3, k7m4, k7m5]
  instanceTypes := #[(.array .byte), .byte, .int, .boolean]
  staticTypes := #[.long, .boolean, (.array (.object "java/io/ObjectStreamField")), .char, (.object "java/util/Comparator"), .byte, .byte]
  resolved := Array.replicate 1451 none
  statics := some 0 }

def pool8 : Array CpInfo := pool [(6, .class_ 8), (1, u "java/lang/Object"), (0, u "<init>"), (0, u "()V"), (0, .methodref 12 13), (0, .class_ 14), (0, .nameAndType 15 16), (0, u "java/lang/StringUTF16"), (0, u "newBytesLength"), (0, u "(I)I"), (3, .integer 1073741823), (23, .fieldref 12 45), (0, .nameAndType 46 47), (0, u "$assertionsDisabled"), (0, u "Z"), (11, .fieldref 12 60), (0, .nameAndType 61 62), (0, u "HI_BYTE_SHIFT"), (0, u "I"), (0, .fieldref 12 64), (0, .nameAndType 65 62), (0, u "LO_BYTE_SHIFT"), (5, .methodref 12 72), (0, .nameAndType 73 74), (0, u "getChar"), (0, u "([BI)C"), (32, .methodref 12 108), (0, .nameAndType 109 110), (0, u "newBytesFor"), (0, u "(I)[B"), (0, .methodref 12 112), (0, .nameAndType 113 114), (0, u "putChar"), (0, u "([BII)V"), (0, .methodref 12 116), (0, .nameAndType 117 118), (0, u "compress"), (0, u "([CI[BII)I"), (0, .methodref 12 120), (0, .nameAndType 121 122), (0, u "toBytes"), (0, u "([CII)[B"), (138, u "coderFromArrayLen"), (0, u "([BI)B"), (106, .class_ 371), (1, u "java/lang/StringUTF16$LinesSpliterator"), (58, u "MAX_LENGTH"), (44, u "(C)[B"), (151, .class_ 628), (0, u "java/lang/StringUTF16$CodePointsSpliterator"), (0, .class_ 630), (0, u "java/lang/StringUTF16$CharsSpliterator")] 4

def k8m0 : Method := { name := "<init>", desc := "()V", sig := { parameters := [], returnType := none }, accessFlags := 0, code := none }
def k8c1 : Code := { maxStack := 1, maxLocals := 1, code := jdk_52_method_2_code, exceptionTable := #[], attributes := #[] }
def k8m1 : Method := { name := "newBytesFor", desc := "(I)[B", sig := { parameters := [.int], returnType := some (.array .byte) }, accessFlags := 9, code := some k8c1 }
def k8c2 : Code := { maxStack := 4, maxLocals := 1, code := jdk_52_method_3_code, exceptionTable := #[], attributes := #[] }
def k8m2 : Method := { name := "newBytesLength", desc := "(I)I", sig := { parameters := [.int], returnType := some .int }, accessFlags := 9, code := some k8c2 }
def k8c3 : Code := { maxStack := 4, maxLocals := 3, code := jdk_52_method_4_code, exceptionTable := #[], attributes := #[] }
def k8m3 : Method := { name := "putChar", desc := "([BII)V", sig := { parameters := [(.array .byte), .int, .int], returnType := none }, accessFlags := 8, code := some k8c3 }
def k8c4 : Code := { maxStack := 3, maxLocals := 2, code := jdk_52_method_5_code, exceptionTable := #[], attributes := #[] }
def k8m4 : Method := { name := "getChar", desc := "([BI)C", sig := { parameters := [(.array .byte), .int], returnType := some .char }, accessFlags := 8, code := some k8c4 }
def k8c5 : Code := { maxStack := 4, maxLocals := 5, code := jdk_52_method_14_code, exceptionTable := #[], attributes := #[] }
def k8m5 : Method := { name := "toBytes", desc := "([CII)[B", sig := { parameters := [(.array .char), .int, .int], returnType := some (.array .byte) }, accessFlags := 9, code := some k8c5 }
def k8c6 : Code := { maxStack := 2, maxLocals := 2, code := jdk_52_method_15_code, exceptionTable := #[], attributes := #[] }
def k8m6 : Method := { name := "coderFromArrayLen", desc := "([BI)B", sig := { parameters := [(.array .byte), .int], returnType := some .byte }, accessFlags := 8, code := some k8c6 }
def k8c7 : Code := { maxStack := 5, maxLocals := 6, code := jdk_52_method_16_code, exceptionTable := #[], attributes := #[] }
def k8m7 : Method := { name := "compress", desc := "([CII)[B", sig := { parameters := [(.array .char), .int, .int], returnType := some (.array .byte) }, accessFlags := 9, code := some k8c7 }
def k8c8 : Code := { maxStack := 3, maxLocals := 7, code := jdk_52_method_21_code, exceptionTable := #[], attributes := #[] }
def k8m8 : Method := { name := "compress", desc := "([CI[BII)I", sig := { parameters := [(.array .char), .int, (.array .byte), .int, .int], returnType := some .int }, accessFlags := 9, code := some k8c8 }
def k8c9 : Code := { maxStack := 3, maxLocals := 2, code := jdk_52_method_24_code, exceptionTable := #[], attributes := #[] }
def k8m9 : Method := { name := "toBytes", desc := "(C)[B", sig := { parameters := [.char], returnType := some (.array .byte) }, accessFlags := 9, code := some k8c9 }
/-- java/lang/StringUTF16 -/
def k8 : Class := { plain "java/lang/StringUTF16" (some 0) with
  accessFlags := 48
  interfaces := #[]
  cf := some (fileOf pool8 12 #[.nestMembers #[627, 629, 369]] #[{ accessFlags := 0, nameIndex := 9, descriptorIndex := 10, attributes := #[] }, { accessFlags := 9, nameIndex := 109, descriptorIndex := 110, attributes := #[] }, { accessFlags := 9, nameIndex := 15, descriptorIndex := 16, attributes := #[] }, { accessFlags := 8, nameIndex := 113, descriptorIndex := 114, attributes := #[] }, { accessFlags := 8, nameIndex := 73, descriptorIndex := 74, attributes := #[] }, { accessFlags := 9, nameIndex := 121, descriptorIndex := 122, attributes := #[] }, { accessFlags := 8, nameIndex := 261, descriptorIndex := 262, attributes := #[] }, { accessFlags := 9, nameIndex := 117, descriptorIndex := 122, attributes := #[] }, { accessFlags := 9, nameIndex := 117, descriptorIndex := 118, attributes := #[] }, { accessFlags := 9, nameIndex := 121, descriptorIndex := 475, attributes := #[] }] 48 6 #[] #[{ accessFlags := 26, nameIndex := 61, descriptorIndex := 62, attributes := #[] }, { accessFlags := 26, nameIndex := 65, descriptorIndex := 62, attributes := #[] }, { accessFlags := 24, nameIndex := 430, descriptorIndex := 62, attributes := #[] }, { accessFlags := 4120, nameIndex := 46, descriptorIndex := 47, attributes := #[] }])
  fields := #[{ name := "HI_BYTE_SHIFT", type := .int, accessFlags := 26, slot := 0, constantValue := 0 }, { name := "LO_BYTE_SHIFT", type := .int, accessFlags := 26, slot := 1, constantValue := 0 }, { name := "MAX_LENGTH", type := .int, accessFlags := 24, slot := 2, constantValue := 0 }, { name := "$assertionsDisabled", type := .boolean, accessFlags := 4120, slot := 3, constantValue := 0 }]
  methods := #[k8m0, k8m1, k8m2, k8m3, k8m4, k8m5, k8m6, k8m7, k8m8, k8m9]
  instanceTypes := #[]
  staticTypes := #[.int, .int, .int, .boolean]
  resolved := Array.replicate 635 none
  statics := some 1 }

def pool9 : Array CpInfo := pool [(2, .class_ 4), (1, u "java/lang/Object"), (0, u "<init>"), (0, u "()V"), (0, .methodref 8 9), (0, .class_ 10), (0, .nameAndType 11 12), (0, u "java/util/Objects"), (0, u "requireNonNull"), (0, u "(Ljava/lang/Object;Ljava/lang/String;)Ljava/lang/Object;"), (0, .methodref 14 15), (0, .class_ 16), (0, .nameAndType 17 18), (0, u "java/lang/String"), (0, u "isEmpty"), (0, u "()Z"), (9, .class_ 29), (0, u "com/example/justification/justification/model/Names"), (2, u "requireNonEmpty"), (0, u "(Ljava/lang/String;Ljava/lang/String;)Ljava/lang/String;")] 18

def k9m0 : Method := { name := "<init>", desc := "()V", sig := { parameters := [], returnType := none }, accessFlags := 2, code := none }
def k9c1 : Code := { maxStack := 3, maxLocals := 2, code := prog_24_method_2_code, exceptionTable := #[], attributes := #[] }
def k9m1 : Method := { name := "requireNonEmpty", desc := "(Ljava/lang/String;Ljava/lang/String;)Ljava/lang/String;", sig := { parameters := [(.object "java/lang/String"), (.object "java/lang/String")], returnType := some (.object "java/lang/String") }, accessFlags := 8, code := some k9c1 }
/-- com/example/justification/justification/model/Names -/
def k9 : Class := { plain "com/example/justification/justification/model/Names" (some 0) with
  accessFlags := 48
  interfaces := #[]
  cf := some (fileOf pool9 28 #[] #[{ accessFlags := 2, nameIndex := 5, descriptorIndex := 6, attributes := #[] }, { accessFlags := 8, nameIndex := 32, descriptorIndex := 33, attributes := #[] }] 48 2 #[] #[])
  fields := #[]
  methods := #[k9m0, k9m1]
  instanceTypes := #[]
  staticTypes := #[]
  resolved := Array.replicate 52 none
  statics := none }

def pool10 : Array CpInfo := pool [(2, .class_ 4), (1, u "java/lang/Object"), (0, u "<init>"), (0, u "()V"), (35, .class_ 44), (1, u "java/util/Objects"), (0, u "requireNonNull"), (48, u "(Ljava/lang/Object;Ljava/lang/String;)Ljava/lang/Object;")] 89

def k10m0 : Method := { name := "<init>", desc := "()V", sig := { parameters := [], returnType := none }, accessFlags := 2, code := none }
def k10c1 : Code := { maxStack := 3, maxLocals := 2, code := jdk_31_method_11_code, exceptionTable := #[], attributes := #[] }
def k10m1 : Method := { name := "requireNonNull", desc := "(Ljava/lang/Object;Ljava/lang/String;)Ljava/lang/Object;", sig := { parameters := [(.object "java/lang/Object"), (.object "java/lang/String")], returnType := some (.object "java/lang/Object") }, accessFlags := 9, code := some k10c1 }
/-- java/util/Objects -/
def k10 : Class := { plain "java/util/Objects" (some 0) with
  accessFlags := 49
  interfaces := #[]
  cf := some (fileOf pool10 42 #[] #[{ accessFlags := 2, nameIndex := 5, descriptorIndex := 6, attributes := #[] }, { accessFlags := 9, nameIndex := 45, descriptorIndex := 94, attributes := #[] }] 49 2 #[] #[])
  fields := #[]
  methods := #[k10m0, k10m1]
  instanceTypes := #[]
  staticTypes := #[]
  resolved := Array.replicate 184 none
  statics := none }

def pool11 : Array CpInfo := pool [(4, .class_ 6), (1, u "java/lang/Object"), (0, u "<init>"), (0, u "()V"), (5, .class_ 16), (1, u "java/lang/StringLatin1"), (73, u "canEncode"), (14, u "(C)Z"), (15, u "$assertionsDisabled"), (0, u "Z"), (98, .class_ 223), (1, u "java/lang/StringLatin1$LinesSpliterator"), (156, u "toBytes"), (1, u "(C)[B"), (7, .class_ 391), (0, u "java/lang/StringLatin1$CharsSpliterator")] 3

def k11m0 : Method := { name := "<init>", desc := "()V", sig := { parameters := [], returnType := none }, accessFlags := 0, code := none }
def k11c1 : Code := { maxStack := 2, maxLocals := 1, code := jdk_43_method_3_code, exceptionTable := #[], attributes := #[] }
def k11m1 : Method := { name := "canEncode", desc := "(C)Z", sig := { parameters := [.char], returnType := some .boolean }, accessFlags := 9, code := some k11c1 }
def k11c2 : Code := { maxStack := 4, maxLocals := 1, code := jdk_43_method_46_code, exceptionTable := #[], attributes := #[] }
def k11m2 : Method := { name := "toBytes", desc := "(C)[B", sig := { parameters := [.char], returnType := some (.array .byte) }, accessFlags := 9, code := some k11c2 }
/-- java/lang/StringLatin1 -/
def k11 : Class := { plain "java/lang/StringLatin1" (some 0) with
  accessFlags := 48
  interfaces := #[]
  cf := some (fileOf pool11 14 #[.nestMembers #[390, 221]] #[{ accessFlags := 0, nameIndex := 7, descriptorIndex := 8, attributes := #[] }, { accessFlags := 9, nameIndex := 90, descriptorIndex := 105, attributes := #[] }, { accessFlags := 9, nameIndex := 380, descriptorIndex := 382, attributes := #[] }] 48 4 #[] #[{ accessFlags := 4120, nameIndex := 121, descriptorIndex := 122, attributes := #[] }])
  fields := #[{ name := "$assertionsDisabled", type := .boolean, accessFlags := 4120, slot := 0, constantValue := 0 }]
  methods := #[k11m0, k11m1, k11m2]
  instanceTypes := #[]
  staticTypes := #[.boolean]
  resolved := Array.replicate 395 none
  statics := none }

def pool12 : Array CpInfo := pool [(2, .class_ 4), (1, u "java/lang/Object"), (0, u "<init>"), (0, u "()V"), (17, .class_ 26), (1, u "jdk/internal/util/Preconditions"), (28, .class_ 56), (0, u "jdk/internal/util/Preconditions$4"), (57, .class_ 115), (0, u "jdk/internal/util/Preconditions$1"), (7, u "SIOOBE_FORMATTER"), (0, u "Ljava/util/function/BiFunction;"), (0, .class_ 126), (0, u "jdk/internal/util/Preconditions$2"), (3, u "AIOOBE_FORMATTER"), (0, .class_ 132), (0, u "jdk/internal/util/Preconditions$3"), (3, u "IOOBE_FORMATTER")] 57

def k12m0 : Method := { name := "<init>", desc := "()V", sig := { parameters := [], returnType := none }, accessFlags := 1, code := none }
/-- jdk/internal/util/Preconditions -/
def k12 : Class := { plain "jdk/internal/util/Preconditions" (some 0) with
  accessFlags := 33
  interfaces := #[]
  cf := some (fileOf pool12 24 #[.nestMembers #[55, 131, 125, 114]] #[{ accessFlags := 1, nameIndex := 5, descriptorIndex := 6, attributes := #[] }] 33 2 #[] #[{ accessFlags := 25, nameIndex := 123, descriptorIndex := 124, attributes := #[] }, { accessFlags := 25, nameIndex := 130, descriptorIndex := 124, attributes := #[] }, { accessFlags := 25, nameIndex := 136, descriptorIndex := 124, attributes := #[] }])
  fields := #[{ name := "SIOOBE_FORMATTER", type := (.object "java/util/function/BiFunction"), accessFlags := 25, slot := 0, constantValue := 0 }, { name := "AIOOBE_FORMATTER", type := (.object "java/util/function/BiFunction"), accessFlags := 25, slot := 1, constantValue := 0 }, { name := "IOOBE_FORMATTER", type := (.object "java/util/function/BiFunction"), accessFlags := 25, slot := 2, constantValue := 0 }]
  methods := #[k12m0]
  instanceTypes := #[]
  staticTypes := #[(.object "java/util/function/BiFunction"), (.object "java/util/function/BiFunction"), (.object "java/util/function/BiFunction")]
  resolved := Array.replicate 194 none
  statics := some 2 }

def pool13 : Array CpInfo := pool [(9, u "<init>"), (6, .class_ 18), (1, u "java/lang/Object"), (0, u "()V"), (1, .class_ 23), (1, u "jdk/internal/util/ArraysSupport"), (0, u "LOG2_ARRAY_LONG_INDEX_SCALE"), (0, u "I"), (2, u "U"), (0, u "Ljdk/internal/misc/Unsafe;"), (8, u "BIG_ENDIAN"), (0, u "Z"), (8, u "LOG2_BYTE_BIT_SIZE"), (4, u "LOG2_ARRAY_INT_INDEX_SCALE"), (54, u "JLA"), (0, u "Ljdk/internal/access/JavaLangAccess;"), (11, u "LOG2_ARRAY_BOOLEAN_INDEX_SCALE"), (9, u "LOG2_ARRAY_BYTE_INDEX_SCALE"), (5, u "LOG2_ARRAY_CHAR_INDEX_SCALE"), (5, u "LOG2_ARRAY_SHORT_INDEX_SCALE"), (18, u "LOG2_ARRAY_FLOAT_INDEX_SCALE"), (24, u "LOG2_ARRAY_DOUBLE_INDEX_SCALE"), (89, u "T_BOOLEAN"), (2, u "T_CHAR"), (1, u "T_FLOAT"), (1, u "T_DOUBLE"), (1, u "T_BYTE"), (1, u "T_SHORT"), (1, u "T_INT"), (1, u "T_LONG"), (1, u "SOFT_MAX_ARRAY_LENGTH")] 83

def k13m0 : Method := { name := "<init>", desc := "()V", sig := { parameters := [], returnType := none }, accessFlags := 2, code := none }
/-- jdk/internal/util/ArraysSupport -/
def k13 : Class := { plain "jdk/internal/util/ArraysSupport" (some 0) with
  accessFlags := 33
  interfaces := #[]
  cf := some (fileOf pool13 21 #[] #[{ accessFlags := 2, nameIndex := 9, descriptorIndex := 19, attributes := #[] }] 33 16 #[] #[{ accessFlags := 24, nameIndex := 28, descriptorIndex := 29, attributes := #[] }, { accessFlags := 26, nameIndex := 38, descriptorIndex := 39, attributes := #[] }, { accessFlags := 25, nameIndex := 121, descriptorIndex := 25, attributes := #[] }, { accessFlags := 25, nameIndex := 131, descriptorIndex := 25, attributes := #[] }, { accessFlags := 25, nameIndex := 137, descriptorIndex := 25, attributes := #[] }, { accessFlags := 25, nameIndex := 143, descriptorIndex := 25, attributes := #[] }, { accessFlags := 25, nameIndex := 53, descriptorIndex := 25, attributes := #[] }, { accessFlags := 25, nameIndex := 24, descriptorIndex := 25, attributes := #[] }, { accessFlags := 25, nameIndex := 162, descriptorIndex := 25, attributes := #[] }, { accessFlags := 25, nameIndex := 187, descriptorIndex := 25, attributes := #[] }, { accessFlags := 26, nameIndex := 48, descriptorIndex := 25, attributes := #[] }, { accessFlags := 25, nameIndex := 277, descriptorIndex := 25, attributes := #[] }, { accessFlags := 25, nameIndex := 280, descriptorIndex := 25, attributes := #[] }, { accessFlags := 25, nameIndex := 282, descriptorIndex := 25, attributes := #[] }, { accessFlags := 25, nameIndex := 284, descriptorIndex := 25, attributes := #[] }, { accessFlags := 25, nameIndex := 286, descriptorIndex := 25, attributes := #[] }, { accessFlags := 25, nameIndex := 288, descriptorIndex := 25, attributes := #[] }, { accessFlags := 25, nameIndex := 290, descriptorIndex := 25, attributes := #[] }, { accessFlags := 25, nameIndex := 292, descriptorIndex := 25, attributes := #[] }, { accessFlags := 26, nameIndex := 108, descriptorIndex := 109, attributes := #[] }, { accessFlags := 25, nameIndex := 294, descriptorIndex := 25, attributes := #[] }])
  fields := #[{ name := "U", type := (.object "jdk/internal/misc/Unsafe"), accessFlags := 24, slot := 0, constantValue := 0 }, { name := "BIG_ENDIAN", type := .boolean, accessFlags := 26, slot := 1, constantValue := 0 }, { name := "LOG2_ARRAY_BOOLEAN_INDEX_SCALE", type := .int, accessFlags := 25, slot := 2, constantValue := 0 }, { name := "LOG2_ARRAY_BYTE_INDEX_SCALE", type := .int, accessFlags := 25, slot := 3, constantValue := 0 }, { name := "LOG2_ARRAY_CHAR_INDEX_SCALE", type := .int, accessFlags := 25, slot := 4, constantValue := 0 }, { name := "LOG2_ARRAY_SHORT_INDEX_SCALE", type := .int, accessFlags := 25, slot := 5, constantValue := 0 }, { name := "LOG2_ARRAY_INT_INDEX_SCALE", type := .int, accessFlags := 25, slot := 6, constantValue := 0 }, { name := "LOG2_ARRAY_LONG_INDEX_SCALE", type := .int, accessFlags := 25, slot := 7, constantValue := 0 }, { name := "LOG2_ARRAY_FLOAT_INDEX_SCALE", type := .int, accessFlags := 25, slot := 8, constantValue := 0 }, { name := "LOG2_ARRAY_DOUBLE_INDEX_SCALE", type := .int, accessFlags := 25, slot := 9, constantValue := 0 }, { name := "LOG2_BYTE_BIT_SIZE", type := .int, accessFlags := 26, slot := 10, constantValue := 0 }, { name := "T_BOOLEAN", type := .int, accessFlags := 25, slot := 11, constantValue := 0 }, { name := "T_CHAR", type := .int, accessFlags := 25, slot := 12, constantValue := 0 }, { name := "T_FLOAT", type := .int, accessFlags := 25, slot := 13, constantValue := 0 }, { name := "T_DOUBLE", type := .int, accessFlags := 25, slot := 14, constantValue := 0 }, { name := "T_BYTE", type := .int, accessFlags := 25, slot := 15, constantValue := 0 }, { name := "T_SHORT", type := .int, accessFlags := 25, slot := 16, constantValue := 0 }, { name := "T_INT", type := .int, accessFlags := 25, slot := 17, constantValue := 0 }, { name := "T_LONG", type := .int, accessFlags := 25, slot := 18, constantValue := 0 }, { name := "JLA", type := (.object "jdk/internal/access/JavaLangAccess"), accessFlags := 26, slot := 19, constantValue := 0 }, { name := "SOFT_MAX_ARRAY_LENGTH", type := .int, accessFlags := 25, slot := 20, constantValue := 0 }]
  methods := #[k13m0]
  instanceTypes := #[]
  staticTypes := #[(.object "jdk/internal/misc/Unsafe"), .boolean, .int, .int, .int, .int, .int, .int, .int, .int, .int, .int, .int, .int, .int, .int, .int, .int, .int, (.object "jdk/internal/access/JavaLangAccess"), .int]
  resolved := Array.replicate 378 none
  statics := none }

def pool14 : Array CpInfo := pool [(1, u "java/lang/Cloneable"), (0, .class_ 1), (0, u "java/lang/Object"), (0, .class_ 3)] 3

/-- java/lang/Cloneable -/
def k14 : Class := { plain "java/lang/Cloneable" (some 0) with
  accessFlags := 1537
  interfaces := #[]
  cf := some (fileOf pool14 2 #[] #[] 1537 4 #[] #[])
  fields := #[]
  methods := #[]
  instanceTypes := #[]
  staticTypes := #[]
  resolved := Array.replicate 8 none
  statics := none }

/-- the primitive byte -/
def k15 : Class := { plain "byte" none with kind := .primitive 'B', accessFlags := 0x411 }
/-- [B -/
def k16 : Class := { plain "[B" (some 0) with kind := .array 15 .byte, interfaces := #[14, 2], accessFlags := 1041 }

/-- the primitive char -/
def k17 : Class := { plain "char" none with kind := .primitive 'C', accessFlags := 0x411 }
/-- [C -/
def k18 : Class := { plain "[C" (some 0) with kind := .array 17 .char, interfaces := #[14, 2], accessFlags := 1041 }

/-- the primitive int -/
def k19 : Class := { plain "int" none with kind := .primitive 'I', accessFlags := 0x411 }
/-- [I -/
def k20 : Class := { plain "[I" (some 0) with kind := .array 19 .int, interfaces := #[14, 2], accessFlags := 1041 }

def heap : Heap := #[{ cls := 7, slots := #[.long 0, .int 1, .null, .int 0, .null, .int 0, .int 0], vm := .statics 7 },
  { cls := 8, slots := #[.int 0, .int 8, .int 0, .int 1], vm := .statics 8 },
  { cls := 12, slots := #[.null, .null, .null], vm := .statics 12 }]
def classes : Array Class := #[k0, k1, k2, k3, k4, k5, k6, k7, k8, k9, k10, k11, k12, k13, k14, k15, k16, k17, k18, k19, k20]
def interned : List (Array UInt16 × Addr) := []
def slotsUsed : Nat := 14
def theMethod : MethodId := ⟨1, 1⟩
def args0 : Array Value := #[.int 65, .int 300, .int 66, .int 1]
def aboutOver (below : List Frame) : State where
  vm := { classes := classes, interned := interned.toArray }
  heap := heap
  slotsUsed := slotsUsed
  threads := #[{ frames := .invoking theMethod args0 :: below }]
def below0 : List Frame := [.native { method := ⟨0, 0⟩, args := #[] }]
def about1 : State := aboutOver below0
def p0 : Program := .bare "" "" ""
def e0 : Env := launch0.env 0 0 0
theorem w_frames : about1.frames = Frame.invoking theMethod args0 :: below0 := rfl
set_option maxRecDepth 65536 in
theorem w_args : argsFit about1.vm theMethod args0 = true := by decide +kernel
set_option maxRecDepth 65536 in
theorem w_heap : heapFits about1 = true := by decide +kernel
set_option maxRecDepth 65536 in
theorem w_runnable : about1.curStatus? = some .runnable := by decide +kernel
set_option maxRecDepth 65536 in
theorem w_alone : about1.alone = true := by decide +kernel
set_option maxRecDepth 65536 in
theorem w_named : about1.methodNamed? x = some theMethod := by decide +kernel
set_option maxRecDepth 65536 in
theorem w_hears : about1.hears theMethod below0 = true := by decide +kernel
set_option maxRecDepth 65536 in
theorem w_ripe : about1.ripe theMethod args0 below0 = true := by decide +kernel
theorem w_running : about1.status = .running := rfl
set_option maxRecDepth 65536 in
theorem w_room : about1.hasRoom e0.platform room_1 = true :=
  launch0.hasRoom_least _ room_1 (by decide +kernel) (by decide +kernel) (by decide +kernel) (by decide +kernel) (by decide +kernel) (by decide +kernel)
theorem allAtoms_all (ts : List Jvm.Cond) (a : Array Jvm.Value) (st : Jvm.State) : (allAtoms ts).before a st = ts.all (fun c => c.before a st) := by
  induction ts with
  | nil => rfl
  | cons c t ih =>
    show (Jvm.Cond.and c (allAtoms t)).before a st = _
    rw [Jvm.Cond.before_and, ih, List.all_cons]
def words1 : List Jvm.Cond := Jvm.Cond.code x code maxLocals ret :: tables_1
/-- a 'code' word, met by the world's own term for the bytes: nothing is compared byte by byte -/
theorem code_word {y : MethodName} {bytes : ByteArray} {mx : Nat} {rt : Option FieldType} {a : Array Value} {s : State} {m : MethodId} {meth : Method} {c : Code} (h1 : s.methodNamed? y = some m) (h2 : s.vm.method? m = some meth) (h3 : meth.code = some c) (h4 : c.code = bytes)
    (h5 : (c.maxLocals == mx && c.exceptionTable.isEmpty && decide (c.maxStack ≤ mostOperands) && decide (meth.sig.returnType = rt) && !meth.locks && decide (parseMethodDescriptor y.desc = some meth.sig)) = true) : (Jvm.Cond.code y bytes mx rt).before a s = true := by
  simp only [Bool.and_eq_true, beq_iff_eq, Bool.not_eq_true', decide_eq_true_eq] at h5
  obtain ⟨⟨⟨⟨⟨g1, g2⟩, g3⟩, g4⟩, g5⟩, g6⟩ := h5
  simp [Cond.before, Cond.holds, Cond.value, h1, h2, h3, h4, g1, g2, g3, g4, g5, g6]
def isCode : Jvm.Cond → Bool
  | .code _ _ _ _ => true
  | _ => false
theorem all_split {L : List Jvm.Cond} {P : Jvm.Cond → Bool} (h1 : L.all (fun c => isCode c || P c) = true) (h2 : ∀ c ∈ L.filter isCode, P c = true) : L.all P = true := by
  refine List.all_eq_true.mpr fun c hc => ?_
  have h := List.all_eq_true.mp h1 c hc
  rcases Bool.eq_false_or_eq_true (isCode c) with hi | hi
  · exact h2 c (List.mem_filter.mpr ⟨hc, hi⟩)
  · simpa [hi] using h
set_option maxRecDepth 65536 in
theorem w_c0 : (Jvm.Cond.code x code maxLocals ret).before args0 about1 = true := code_word (m := ⟨1, 1⟩) (meth := k1m1) (c := k1c1) (by decide +kernel) rfl rfl rfl (by decide +kernel)
set_option maxRecDepth 65536 in
theorem w_c1 : (Jvm.Cond.code ({ cls := "java/lang/String", name := "<init>", desc := "([C)V" } : Jvm.MethodName) jdk_42_method_3_code (2 : Nat) (Option.none : Option Jvm.ClassFile.FieldType)).before args0 about1 = true := code_word (m := ⟨7, 1⟩) (meth := k7m1) (c := k7c1) (by decide +kernel) rfl rfl rfl (by decide +kernel)
set_option maxRecDepth 65536 in
theorem w_c2 : (Jvm.Cond.code ({ cls := "java/lang/String", name := "<init>", desc := "([CIILjava/lang/Void;)V" } : Jvm.MethodName) jdk_42_method_149_code (6 : Nat) (Option.none : Option Jvm.ClassFile.FieldType)).before args0 about1 = true := code_word (m := ⟨7, 4⟩) (meth := k7m4) (c := k7c4) (by decide +kernel) rfl rfl rfl (by decide +kernel)
set_option maxRecDepth 65536 in
theorem w_c3 : (Jvm.Cond.code ({ cls := "java/lang/Object", name := "<init>", desc := "()V" } : Jvm.MethodName) object_method_1_code (1 : Nat) (Option.none : Option Jvm.ClassFile.FieldType)).before args0 about1 = true := code_word (m := ⟨0, 0⟩) (meth := k0m0) (c := k0c0) (by decide +kernel) rfl rfl rfl (by decide +kernel)
set_option maxRecDepth 65536 in
theorem w_c4 : (Jvm.Cond.code ({ cls := "java/lang/StringUTF16", name := "compress", desc := "([CII)[B" } : Jvm.MethodName) jdk_52_method_16_code (6 : Nat) (Option.some (Jvm.ClassFile.FieldType.array Jvm.ClassFile.FieldType.byte))).before args0 about1 = true := code_word (m := ⟨8, 7⟩) (meth := k8m7) (c := k8c7) (by decide +kernel) rfl rfl rfl (by decide +kernel)
set_option maxRecDepth 65536 in
theorem w_c5 : (Jvm.Cond.code ({ cls := "java/lang/StringUTF16", name := "compress", desc := "([CI[BII)I" } : Jvm.MethodName) jdk_52_method_21_code (7 : Nat) (Option.some Jvm.ClassFile.FieldType.int)).before args0 about1 = true := code_word (m := ⟨8, 8⟩) (meth := k8m8) (c := k8c8) (by decide +kernel) rfl rfl rfl (by decide +kernel)
set_option maxRecDepth 65536 in
theorem w_c6 : (Jvm.Cond.code ({ cls := "java/lang/StringUTF16", name := "coderFromArrayLen", desc := "([BI)B" } : Jvm.MethodName) jdk_52_method_15_code (2 : Nat) (Option.some Jvm.ClassFile.FieldType.byte)).before args0 about1 = true := code_word (m := ⟨8, 6⟩) (meth := k8m6) (c := k8c6) (by decide +kernel) rfl rfl rfl (by decide +kernel)
set_option maxRecDepth 65536 in
theorem w_c7 : (Jvm.Cond.code ({ cls := "com/example/justification/justification/model/Names", name := "requireNonEmpty", desc := "(Ljava/lang/String;Ljava/lang/String;)Ljava/lang/String;" } : Jvm.MethodName) prog_24_method_2_code (2 : Nat) (Option.some (Jvm.ClassFile.FieldType.object "java/lang/String"))).before args0 about1 = true := code_word (m := ⟨9, 1⟩) (meth := k9m1) (c := k9c1) (by decide +kernel) rfl rfl rfl (by decide +kernel)
set_option maxRecDepth 65536 in
theorem w_c8 : (Jvm.Cond.code ({ cls := "java/util/Objects", name := "requireNonNull", desc := "(Ljava/lang/Object;Ljava/lang/String;)Ljava/lang/Object;" } : Jvm.MethodName) jdk_31_method_11_code (2 : Nat) (Option.some (Jvm.ClassFile.FieldType.object "java/lang/Object"))).before args0 about1 = true := code_word (m := ⟨10, 1⟩) (meth := k10m1) (c := k10c1) (by decide +kernel) rfl rfl rfl (by decide +kernel)
set_option maxRecDepth 65536 in
theorem w_c9 : (Jvm.Cond.code ({ cls := "java/lang/String", name := "isEmpty", desc := "()Z" } : Jvm.MethodName) jdk_42_method_55_code (1 : Nat) (Option.some Jvm.ClassFile.FieldType.boolean)).before args0 about1 = true := code_word (m := ⟨7, 2⟩) (meth := k7m2) (c := k7c2) (by decide +kernel) rfl rfl rfl (by decide +kernel)
set_option maxRecDepth 65536 in
theorem w_c10 : (Jvm.Cond.code ({ cls := "java/lang/String", name := "valueOf", desc := "(C)Ljava/lang/String;" } : Jvm.MethodName) jdk_42_method_139_code (1 : Nat) (Option.some (Jvm.ClassFile.FieldType.object "java/lang/String"))).before args0 about1 = true := code_word (m := ⟨7, 3⟩) (meth := k7m3) (c := k7c3) (by decide +kernel) rfl rfl rfl (by decide +kernel)
set_option maxRecDepth 65536 in
theorem w_c11 : (Jvm.Cond.code ({ cls := "java/lang/StringLatin1", name := "canEncode", desc := "(C)Z" } : Jvm.MethodName) jdk_43_method_3_code (1 : Nat) (Option.some Jvm.ClassFile.FieldType.boolean)).before args0 about1 = true := code_word (m := ⟨11, 1⟩) (meth := k11m1) (c := k11c1) (by decide +kernel) rfl rfl rfl (by decide +kernel)
set_option maxRecDepth 65536 in
theorem w_c12 : (Jvm.Cond.code ({ cls := "java/lang/StringLatin1", name := "toBytes", desc := "(C)[B" } : Jvm.MethodName) jdk_43_method_46_code (1 : Nat) (Option.some (Jvm.ClassFile.FieldType.array Jvm.ClassFile.FieldType.byte))).before args0 about1 = true := code_word (m := ⟨11, 2⟩) (meth := k11m2) (c := k11c2) (by decide +kernel) rfl rfl rfl (by decide +kernel)
set_option maxRecDepth 65536 in
theorem w_c13 : (Jvm.Cond.code ({ cls := "java/lang/String", name := "<init>", desc := "([BB)V" } : Jvm.MethodName) jdk_42_method_151_code (3 : Nat) (Option.none : Option Jvm.ClassFile.FieldType)).before args0 about1 = true := code_word (m := ⟨7, 5⟩) (meth := k7m5) (c := k7c5) (by decide +kernel) rfl rfl rfl (by decide +kernel)
set_option maxRecDepth 65536 in
theorem w_c14 : (Jvm.Cond.code ({ cls := "java/lang/StringUTF16", name := "toBytes", desc := "(C)[B" } : Jvm.MethodName) jdk_52_method_24_code (2 : Nat) (Option.some (Jvm.ClassFile.FieldType.array Jvm.ClassFile.FieldType.byte))).before args0 about1 = true := code_word (m := ⟨8, 9⟩) (meth := k8m9) (c := k8c9) (by decide +kernel) rfl rfl rfl (by decide +kernel)
set_option maxRecDepth 65536 in
theorem w_c15 : (Jvm.Cond.code ({ cls := "java/lang/StringUTF16", name := "putChar", desc := "([BII)V" } : Jvm.MethodName) jdk_52_method_4_code (3 : Nat) (Option.none : Option Jvm.ClassFile.FieldType)).before args0 about1 = true := code_word (m := ⟨8, 3⟩) (meth := k8m3) (c := k8c3) (by decide +kernel) rfl rfl rfl (by decide +kernel)
set_option maxRecDepth 65536 in
theorem w_c16 : (Jvm.Cond.code ({ cls := "java/lang/StringUTF16", name := "toBytes", desc := "([CII)[B" } : Jvm.MethodName) jdk_52_method_14_code (5 : Nat) (Option.some (Jvm.ClassFile.FieldType.array Jvm.ClassFile.FieldType.byte))).before args0 about1 = true := code_word (m := ⟨8, 5⟩) (meth := k8m5) (c := k8c5) (by decide +kernel) rfl rfl rfl (by decide +kernel)
set_option maxRecDepth 65536 in
theorem w_c17 : (Jvm.Cond.code ({ cls := "java/lang/StringUTF16", name := "newBytesFor", desc := "(I)[B" } : Jvm.MethodName) jdk_52_method_2_code (1 : Nat) (Option.some (Jvm.ClassFile.FieldType.array Jvm.ClassFile.FieldType.byte))).before args0 about1 = true := code_word (m := ⟨8, 1⟩) (meth := k8m1) (c := k8c1) (by decide +kernel) rfl rfl rfl (by decide +kernel)
set_option maxRecDepth 65536 in
theorem w_c18 : (Jvm.Cond.code ({ cls := "java/lang/StringUTF16", name := "newBytesLength", desc := "(I)I" } : Jvm.MethodName) jdk_52_method_3_code (1 : Nat) (Option.some Jvm.ClassFile.FieldType.int)).before args0 about1 = true := code_word (m := ⟨8, 2⟩) (meth := k8m2) (c := k8c2) (by decide +kernel) rfl rfl rfl (by decide +kernel)
set_option maxRecDepth 65536 in
theorem w_c19 : (Jvm.Cond.code ({ cls := "java/lang/StringUTF16", name := "getChar", desc := "([BI)C" } : Jvm.MethodName) jdk_52_method_5_code (2 : Nat) (Option.some Jvm.ClassFile.FieldType.char)).before args0 about1 = true := code_word (m := ⟨8, 4⟩) (meth := k8m4) (c := k8c4) (by decide +kernel) rfl rfl rfl (by decide +kernel)
def codes1 : List Jvm.Cond := [Jvm.Cond.code x code maxLocals ret, Jvm.Cond.code ({ cls := "java/lang/String", name := "<init>", desc := "([C)V" } : Jvm.MethodName) jdk_42_method_3_code (2 : Nat) (Option.none : Option Jvm.ClassFile.FieldType), Jvm.Cond.code ({ cls := "java/lang/String", name := "<init>", desc := "([CIILjava/lang/Void;)V" } : Jvm.MethodName) jdk_42_method_149_code (6 : Nat) (Option.none : Option Jvm.ClassFile.FieldType), Jvm.Cond.code ({ cls := "java/lang/Object", name := "<init>", desc := "()V" } : Jvm.MethodName) object_method_1_code (1 : Nat) (Option.none : Option Jvm.ClassFile.FieldType), Jvm.Cond.code ({ cls := "java/lang/StringUTF16", name := "compress", desc := "([CII)[B" } : Jvm.MethodName) jdk_52_method_16_code (6 : Nat) (Option.some (Jvm.ClassFile.FieldType.array Jvm.ClassFile.FieldType.byte)), Jvm.Cond.code ({ cls := "java/lang/StringUTF16", name := "compress", desc := "([CI[BII)I" } : Jvm.MethodName) jdk_52_method_21_code (7 : Nat) (Option.some Jvm.ClassFile.FieldType.int), Jvm.Cond.code ({ cls := "java/lang/StringUTF16", name := "coderFromArrayLen", desc := "([BI)B" } : Jvm.MethodName) jdk_52_method_15_code (2 : Nat) (Option.some Jvm.ClassFile.FieldType.byte), Jvm.Cond.code ({ cls := "com/example/justification/justification/model/Names", name := "requireNonEmpty", desc := "(Ljava/lang/String;Ljava/lang/String;)Ljava/lang/String;" } : Jvm.MethodName) prog_24_method_2_code (2 : Nat) (Option.some (Jvm.ClassFile.FieldType.object "java/lang/String")), Jvm.Cond.code ({ cls := "java/util/Objects", name := "requireNonNull", desc := "(Ljava/lang/Object;Ljava/lang/String;)Ljava/lang/Object;" } : Jvm.MethodName) jdk_31_method_11_code (2 : Nat) (Option.some (Jvm.ClassFile.FieldType.object "java/lang/Object")), Jvm.Cond.code ({ cls := "java/lang/String", name := "isEmpty", desc := "()Z" } : Jvm.MethodName) jdk_42_method_55_code (1 : Nat) (Option.some Jvm.ClassFile.FieldType.boolean), Jvm.Cond.code ({ cls := "java/lang/String", name := "valueOf", desc := "(C)Ljava/lang/String;" } : Jvm.MethodName) jdk_42_method_139_code (1 : Nat) (Option.some (Jvm.ClassFile.FieldType.object "java/lang/String")), Jvm.Cond.code ({ cls := "java/lang/StringLatin1", name := "canEncode", desc := "(C)Z" } : Jvm.MethodName) jdk_43_method_3_code (1 : Nat) (Option.some Jvm.ClassFile.FieldType.boolean), Jvm.Cond.code ({ cls := "java/lang/StringLatin1", name := "toBytes", desc := "(C)[B" } : Jvm.MethodName) jdk_43_method_46_code (1 : Nat) (Option.some (Jvm.ClassFile.FieldType.array Jvm.ClassFile.FieldType.byte)), Jvm.Cond.code ({ cls := "java/lang/String", name := "<init>", desc := "([BB)V" } : Jvm.MethodName) jdk_42_method_151_code (3 : Nat) (Option.none : Option Jvm.ClassFile.FieldType), Jvm.Cond.code ({ cls := "java/lang/StringUTF16", name := "toBytes", desc := "(C)[B" } : Jvm.MethodName) jdk_52_method_24_code (2 : Nat) (Option.some (Jvm.ClassFile.FieldType.array Jvm.ClassFile.FieldType.byte)), Jvm.Cond.code ({ cls := "java/lang/StringUTF16", name := "putChar", desc := "([BII)V" } : Jvm.MethodName) jdk_52_method_4_code (3 : Nat) (Option.none : Option Jvm.ClassFile.FieldType), Jvm.Cond.code ({ cls := "java/lang/StringUTF16", name := "toBytes", desc := "([CII)[B" } : Jvm.MethodName) jdk_52_method_14_code (5 : Nat) (Option.some (Jvm.ClassFile.FieldType.array Jvm.ClassFile.FieldType.byte)), Jvm.Cond.code ({ cls := "java/lang/StringUTF16", name := "newBytesFor", desc := "(I)[B" } : Jvm.MethodName) jdk_52_method_2_code (1 : Nat) (Option.some (Jvm.ClassFile.FieldType.array Jvm.ClassFile.FieldType.byte)), Jvm.Cond.code ({ cls := "java/lang/StringUTF16", name := "newBytesLength", desc := "(I)I" } : Jvm.MethodName) jdk_52_method_3_code (1 : Nat) (Option.some Jvm.ClassFile.FieldType.int), Jvm.Cond.code ({ cls := "java/lang/StringUTF16", name := "getChar", desc := "([BI)C" } : Jvm.MethodName) jdk_52_method_5_code (2 : Nat) (Option.some Jvm.ClassFile.FieldType.char)]
set_option maxRecDepth 65536 in
theorem codes_eq : words1.filter isCode = codes1 := rfl
theorem w_codes : ∀ c ∈ words1.filter isCode, c.before args0 about1 = true := by
  rw [codes_eq]
  intro c hc
  simp only [codes1, List.mem_cons, List.not_mem_nil, or_false] at hc
  rcases hc with rfl | rfl | rfl | rfl | rfl | rfl | rfl | rfl | rfl | rfl | rfl | rfl | rfl | rfl | rfl | rfl | rfl | rfl | rfl | rfl
  · exact w_c0
  · exact w_c1
  · exact w_c2
  · exact w_c3
  · exact w_c4
  · exact w_c5
  · exact w_c6
  · exact w_c7
  · exact w_c8
  · exact w_c9
  · exact w_c10
  · exact w_c11
  · exact w_c12
  · exact w_c13
  · exact w_c14
  · exact w_c15
  · exact w_c16
  · exact w_c17
  · exact w_c18
  · exact w_c19
set_option maxRecDepth 65536 in
theorem w_t1 : (words1.take 24).all (fun c => isCode c || c.before args0 about1) = true := by decide +kernel
set_option maxRecDepth 65536 in
theorem w_t2 : ((words1.drop 24).take 24).all (fun c => isCode c || c.before args0 about1) = true := by decide +kernel
set_option maxRecDepth 65536 in
theorem w_t3 : (((words1.drop 24).drop 24).take 24).all (fun c => isCode c || c.before args0 about1) = true := by decide +kernel
set_option maxRecDepth 65536 in
theorem w_t4 : (((words1.drop 24).drop 24).drop 24).all (fun c => isCode c || c.before args0 about1) = true := by decide +kernel
theorem w_tables : (allAtoms (Jvm.Cond.code x code maxLocals ret :: tables_1)).before args0 about1 = true := by
  rw [allAtoms_all]
  show words1.all (fun c => c.before args0 about1) = true
  refine all_split ?_ w_codes
  rw [← List.take_append_drop 24 words1, List.all_append, w_t1, ← List.take_append_drop 24 (words1.drop 24), List.all_append, w_t2, ← List.take_append_drop 24 ((words1.drop 24).drop 24), List.all_append, w_t3, w_t4]
  rfl
set_option maxRecDepth 65536 in
theorem w_rest : rest_1_c.before args0 about1 = true := by decide +kernel
set_option maxRecDepth 65536 in
theorem w_case : (Jvm.Cond.and given_1 narrow_1).before args0 about1 = true := by decide +kernel
theorem w_applies : (headSpec (Jvm.Cond.code x code maxLocals ret :: tables_1) room_1).applies x e0.platform about1 = true :=
  (Spec.applies_iff w_frames).mpr ⟨w_running, w_runnable, w_alone, w_named, w_hears, w_ripe, w_room, w_tables⟩
theorem atStart : AtStart classFile x code maxLocals ret World_1 tables_1 room_1 Calls_1 rest_1 Pre_1 launch0 p0 e0 about1 theMethod args0 below0 :=
  ⟨lists_1, trivial, launch0.admits_env _ _ _, launch0.least_env, fairChoices_fair.cas, fairChoices_fair.clock, w_frames, w_args, w_heap, w_applies, trivial, w_rest, w_case⟩
end start1
theorem witness_1 : WitnessClaimed_1 := ⟨start1.p0, start1.e0, start1.about1, start1.theMethod, start1.args0, start1.below0, start1.atStart⟩
end Jvm.Pilot.@@N@@
