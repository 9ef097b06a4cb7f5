import JvmDerived
import JvmDerived.Pilot.@@N@@Statement
import JvmDerived.Pilot.@@N@@Code
set_option linter.unusedVariables false
set_option linter.unusedSimpArgs false
namespace Jvm.Pilot.@@N@@
open Jvm Jvm.ClassFile Sem Op Lib Jvm.Free Jvm.Stand Jvm.LawKit Jvm.RoadKit Bundle Jvm.Pilot.@@N@@.Jvm.D
/-- cells made since the law began, none of them a booked literal's -/
def OwnL (Z : State) (EL : List (String × Nat)) (n0 : Nat) (vm : Vm) (h : Heap) (sf : List Addr) : Prop := ∀ x ∈ sf, x < h.size ∧ n0 ≤ x ∧ Safe Z EL vm h x
/-- all that a walk bears at one point -/
def Wk (l : Launch) (Z : State) (a0 : Array Value) (EL : List (String × Nat)) (n0 : Nat) (R : Room) (own : String) (bytes : ByteArray) (maxL : Nat) (ret : Option FieldType) (nm : String) (h : Heap) (sf : List Addr) (ce sl : Nat)
    (p : Program) (e : Env) (s : State) (m : MethodId) (args : Array Value) (below : List Frame) (meth : Method) (c : Code) (T : State) : Prop :=
  (p.tables.exec = Jvm.exec ∧ c.code = bytes ∧ c.maxLocals = maxL ∧ meth.sig.returnType = ret ∧ meth.name = nm ∧ meth.locks = false ∧ EW Z a0 EL ∧ Old Z n0 h) ∧
    ∃ (vm0 : Vm) (locs : List Loc) (k0 : Nat), Stand p l e R (s.setVm vm0) m args below meth c T locs ce sl ∧ T.heap = h ∧ s.Since vm0 k0 ∧ k0 ≤ h.size ∧ Z.Warmed39 vm0 ∧ vm0.findClass own = some m.cls ∧ Fr n0 locs ∧ CHr Z EL s.vm s.heap vm0 h ∧ OwnL Z EL n0 vm0 h sf
/-- the run from here ends as Q says -/
def Fin1 (Z : State) (EL : List (String × Nat)) (n0 : Nat) (R : Room) (Q : Option Value → Heap → List Addr → Prop) (p : Program) (e : Env) (s : State) (below : List Frame) (U : State) : Prop :=
  ∃ t o, Steps p.tables e below U t ∧ t.status = .running ∧ Ended t below o ∧ ∃ v L sf, o = .returned v ∧ Q v t.heap sf ∧ Fr n0 L ∧ CHr Z EL s.vm s.heap t.vm t.heap ∧ OwnL Z EL n0 t.vm t.heap sf ∧ Old Z n0 t.heap ∧ ReturnedEndW s o t L R.cells R.slots
/-- from every such point, with this frame on top, the run ends as Q says -/
def Go (l : Launch) (Z : State) (a0 : Array Value) (EL : List (String × Nat)) (n0 : Nat) (R : Room) (own : String) (bytes : ByteArray) (maxL : Nat) (ret : Option FieldType) (nm : String) (Q : Option Value → Heap → List Addr → Prop)
    (h : Heap) (sf : List Addr) (ce sl pc : Nat) (ls : Array Slot) (st : List Value) : Prop :=
  ∀ p e s m args below meth c T, Wk l Z a0 EL n0 R own bytes maxL ret nm h sf ce sl p e s m args below meth c T → Fin1 Z EL n0 R Q p e s below (T.setTop (mkF m pc ls st))
/-- a body's contract -/
def Con (l : Launch) (Z : State) (EL : List (String × Nat)) (n0 : Nat) (y : MethodName) (bytes : ByteArray) (maxL : Nat) (ret : Option FieldType) (ws : List Jvm.Cond) (R : Room) (as : Array Value) (h : Heap) (sf : List Addr) (Q : Option Value → Heap → List Addr → Prop) : Prop :=
  MetFree l y (head1 (Jvm.Cond.code y bytes maxL ret :: ws) R) (fun a U => a = as ∧ Z.Warmed39 U.vm ∧ U.heap = h ∧ CHv Z EL U.vm h ∧ OwnL Z EL n0 U.vm h sf ∧ Old Z n0 h) (fun _ _ _ _ _ => True)
    (fun _ U o U' => ∃ v L sf', o = .returned v ∧ Q v U'.heap sf' ∧ Fr n0 L ∧ CHr Z EL U.vm U.heap U'.vm U'.heap ∧ OwnL Z EL n0 U'.vm U'.heap sf' ∧ Old Z n0 U'.heap ∧ ReturnedEndW U o U' L R.cells R.slots)
section Walk
variable {l : Launch} {Z : State} {a0 : Array Value} {EL : List (String × Nat)} {n0 : Nat} {R : Room} {own : String} {bytes : ByteArray} {maxL : Nat} {ret : Option FieldType} {nm : String} {Q : Option Value → Heap → List Addr → Prop}
  {h : Heap} {sf : List Addr} {ce sl pc pc' pt : Nat} {ls ls' : Array Slot} {st rest : List Value}
theorem OwnL.nil {vm : Vm} : OwnL Z EL n0 vm h [] := fun _ q => nomatch q
theorem OwnL.cons {vm : Vm} {x : Addr} (h1 : x < h.size) (h2 : n0 ≤ x) (h3 : Safe Z EL vm h x) (O : OwnL Z EL n0 vm h sf) : OwnL Z EL n0 vm h (x :: sf) := fun y q => by
  rcases List.mem_cons.mp q with rfl | q
  · exact ⟨h1, h2, h3⟩
  · exact O y q
theorem OwnL.app {vm : Vm} {sf' : List Addr} (A : OwnL Z EL n0 vm h sf') (B : OwnL Z EL n0 vm h sf) : OwnL Z EL n0 vm h (sf' ++ sf) := fun y q => (List.mem_append.mp q).elim (A y) (B y)
theorem OwnL.sub {vm : Vm} {sf' : List Addr} (B : OwnL Z EL n0 vm h sf) (q : ∀ x ∈ sf', x ∈ sf) : OwnL Z EL n0 vm h sf' := fun y r => B y (q y r)
theorem OwnL.mv {vm vm1 : Vm} {h' : Heap} (A : CHr Z EL vm h vm1 h') (B : OwnL Z EL n0 vm h sf) : OwnL Z EL n0 vm1 h' sf := fun y r => by
  obtain ⟨q1, q2, q3⟩ := B y r
  exact ⟨Nat.lt_of_lt_of_le q1 A.2.1, q2, A.safe q1 q3⟩
/-- fewer owned cells, the same walk -/
theorem Go.sub {sf' : List Addr} (hr : Go l Z a0 EL n0 R own bytes maxL ret nm Q h sf' ce sl pc ls st) (q : ∀ x ∈ sf', x ∈ sf) : Go l Z a0 EL n0 R own bytes maxL ret nm Q h sf ce sl pc ls st := by
  intro p e s m args below meth c T W
  obtain ⟨W1, vm0, locs, k0, X, eT, hS, hk, hZ, hown, N, C, O⟩ := W
  exact hr p e s m args below meth c T ⟨W1, vm0, locs, k0, X, eT, hS, hk, hZ, hown, N, C, O.sub q⟩
theorem Go.old (hr : Old Z n0 h → Go l Z a0 EL n0 R own bytes maxL ret nm Q h sf ce sl pc ls st) : Go l Z a0 EL n0 R own bytes maxL ret nm Q h sf ce sl pc ls st := by
  intro p e s m args below meth c T W
  exact hr W.1.2.2.2.2.2.2.2 p e s m args below meth c T W
theorem Go.owned (hr : (∀ x ∈ sf, x < h.size ∧ n0 ≤ x) → Go l Z a0 EL n0 R own bytes maxL ret nm Q h sf ce sl pc ls st) : Go l Z a0 EL n0 R own bytes maxL ret nm Q h sf ce sl pc ls st := by
  intro p e s m args below meth c T W
  refine hr (fun x q => ?_) p e s m args below meth c T W
  obtain ⟨W1, vm0, locs, k0, X, eT, hS, hk, hZ, hown, N, C, O⟩ := W
  exact ⟨(O x q).1, (O x q).2.1⟩
theorem Go.more {ce' sl' : Nat} (hr : Go l Z a0 EL n0 R own bytes maxL ret nm Q h sf ce' sl' pc ls st) (q1 : ce ≤ ce') (q2 : sl ≤ sl') : Go l Z a0 EL n0 R own bytes maxL ret nm Q h sf ce sl pc ls st := by
  intro p e s m args below meth c T W
  obtain ⟨W1, vm0, locs, k0, X, r⟩ := W
  exact hr p e s m args below meth c T ⟨W1, vm0, locs, k0, ⟨X.admits, X.cas, X.clock, X.frames, X.room, X.hears, X.method, X.code, X.here, X.tail, X.warmed, X.limits, X.bytes, X.same.mono q1 q2⟩, r⟩
theorem Go.mono {Q' : Option Value → Heap → List Addr → Prop} (hr : Go l Z a0 EL n0 R own bytes maxL ret nm Q' h sf ce sl pc ls st) (q : ∀ v h' sf', Q' v h' sf' → Q v h' sf') : Go l Z a0 EL n0 R own bytes maxL ret nm Q h sf ce sl pc ls st := by
  intro p e s m args below meth c T W
  obtain ⟨t, o, h1, h2, h3, v, L, sf', e1, h4, h5⟩ := hr p e s m args below meth c T W
  exact ⟨t, o, h1, h2, h3, v, L, sf', e1, q _ _ _ h4, h5⟩
/-- one step that moves the frame alone -/
theorem go_step (hr : Go l Z a0 EL n0 R own bytes maxL ret nm Q h sf ce sl pc' ls' rest)
    (k : ∀ {p : Program} {e : Env} {m : MethodId} {below : List Frame} {c : Code} {T t : State}, At T m c below → p.tables.exec = Jvm.exec → c.code = bytes → Steps p.tables e below (T.setTop (mkF m pc' ls' rest)) t → Steps p.tables e below (T.setTop (mkF m pc ls st)) t) :
    Go l Z a0 EL n0 R own bytes maxL ret nm Q h sf ce sl pc ls st := by
  intro p e s m args below meth c T W
  obtain ⟨t, o, h1, h2⟩ := hr p e s m args below meth c T W
  obtain ⟨⟨hx, hby, -⟩, vm0, locs, k0, X, -⟩ := W
  exact ⟨t, o, k X.here hx hby h1, h2⟩
/-- one step that may resolve an entry: the heap as it was -/
theorem go_move (hr : Go l Z a0 EL n0 R own bytes maxL ret nm Q h sf ce sl pc' ls' rest)
    (k : ∀ {p : Program} {e : Env} {s : State} {m : MethodId} {args : Array Value} {below : List Frame} {meth : Method} {c : Code} {T : State} {locs : List Loc}, Stand p l e R s m args below meth c T locs ce sl → p.tables.exec = Jvm.exec → c.code = bytes → c.maxLocals = maxL → T.heap = h → Z.Warmed39 s.vm → s.vm.findClass own = some m.cls → Old Z n0 h →
      ∃ T', Stand p l e R s m args below meth c T' locs ce sl ∧ T'.heap = h ∧ ∀ t, Steps p.tables e below (T'.setTop (mkF m pc' ls' rest)) t → Steps p.tables e below (T.setTop (mkF m pc ls st)) t) :
    Go l Z a0 EL n0 R own bytes maxL ret nm Q h sf ce sl pc ls st := by
  intro p e s m args below meth c T W
  obtain ⟨⟨hx, hby, hml, hret, hnm, hlk, hEL, hOld⟩, vm0, locs, k0, X, eT, hS, hk, hZ, hown, N, C, O⟩ := W
  obtain ⟨T', X', eT', st'⟩ := k (s := s.setVm vm0) X hx hby hml eT hZ hown hOld
  obtain ⟨t, o, h1, h2⟩ := hr p e s m args below meth c T' ⟨⟨hx, hby, hml, hret, hnm, hlk, hEL, hOld⟩, vm0, locs, k0, X', eT', hS, hk, hZ, hown, N, C, O⟩
  exact ⟨t, o, st' _ h1, h2⟩
/-- one step that makes cells -/
theorem go_make {P : Heap → Addr → Prop} {ce' sl' : Nat}
    (k : ∀ {p : Program} {e : Env} {s : State} {m : MethodId} {args : Array Value} {below : List Frame} {meth : Method} {c : Code} {T : State} {locs : List Loc}, Stand p l e R s m args below meth c T locs ce sl → p.tables.exec = Jvm.exec → c.code = bytes → c.maxLocals = maxL → T.heap = h → Z.Warmed39 s.vm → s.vm.findClass own = some m.cls →
      ∃ T' h', Stand p l e R s m args below meth c T' locs ce' sl' ∧ T'.heap = h' ∧ Ext h h' ∧ h.size < h'.size ∧ P h' h.size ∧ ∀ t, Steps p.tables e below (T'.setTop (mkF m pc' ls' (.ref h.size :: rest))) t → Steps p.tables e below (T.setTop (mkF m pc ls st)) t)
    (hr : ∀ h' x, x = h.size → Ext h h' → P h' x → Go l Z a0 EL n0 R own bytes maxL ret nm Q h' (x :: sf) ce' sl' pc' ls' (.ref x :: rest)) :
    Go l Z a0 EL n0 R own bytes maxL ret nm Q h sf ce sl pc ls st := by
  intro p e s m args below meth c T W
  obtain ⟨⟨hx, hby, hml, hret, hnm, hlk, hEL, hOld⟩, vm0, locs, k0, X, eT, hS, hk, hZ, hown, N, C, O⟩ := W
  obtain ⟨T', h', X', eT', E, hlt, hP, st'⟩ := k (s := s.setVm vm0) X hx hby hml eT hZ hown
  have A := CHr.ext E C.1
  have hn : n0 ≤ h.size := by have := hOld.1; have := hOld.2.1; omega
  obtain ⟨t, o, h1, h2⟩ := hr h' h.size rfl E hP p e s m args below meth c T' ⟨⟨hx, hby, hml, hret, hnm, hlk, hEL, hOld.ext E⟩, vm0, locs, k0, X', eT', hS, Nat.le_trans hk E.1, hZ, hown, N, C.trans A,
    OwnL.cons hlt hn (Safe.ext E C.1 (Safe.new (Nat.le_refl _))) (O.mv A)⟩
  exact ⟨t, o, st' _ h1, h2⟩
/-- one step that writes one place of an owned cell -/
theorem go_write {x : Addr} {k1 : Nat} {v1 : Value} (hm : x ∈ sf)
    (k : ∀ {p : Program} {e : Env} {s : State} {m : MethodId} {args : Array Value} {below : List Frame} {meth : Method} {c : Code} {T : State} {locs : List Loc}, Stand p l e R s m args below meth c T locs ce sl → p.tables.exec = Jvm.exec → c.code = bytes → meth.name = nm → T.heap = h → Z.Warmed39 s.vm → s.vm.findClass own = some m.cls →
      ∃ T' h', Stand p l e R s m args below meth c T' (locs ++ [⟨x, k1⟩]) ce sl ∧ T'.heap = h' ∧ Wr h h' x k1 v1 ∧ ∀ t, Steps p.tables e below (T'.setTop (mkF m pc' ls' rest)) t → Steps p.tables e below (T.setTop (mkF m pc ls st)) t)
    (hr : ∀ h', Wr h h' x k1 v1 → Go l Z a0 EL n0 R own bytes maxL ret nm Q h' sf ce sl pc' ls' rest) :
    Go l Z a0 EL n0 R own bytes maxL ret nm Q h sf ce sl pc ls st := by
  intro p e s m args below meth c T W
  obtain ⟨⟨hx, hby, hml, hret, hnm, hlk, hEL, hOld⟩, vm0, locs, k0, X, eT, hS, hk, hZ, hown, N, C, O⟩ := W
  obtain ⟨T', h', X', eT', Ww, st'⟩ := k (s := s.setVm vm0) X hx hby hnm eT hZ hown
  obtain ⟨q1, q2, q3⟩ := O x hm
  have A := CHr.wr Ww q3 C.1
  obtain ⟨t, o, h1, h2⟩ := hr h' Ww p e s m args below meth c T' ⟨⟨hx, hby, hml, hret, hnm, hlk, hEL, hOld.wr Ww q2⟩, vm0, _, k0, X', eT', hS, by rw [Ww.size]; exact hk, hZ, hown, N.snoc X' q2, C.trans A, O.mv A⟩
  exact ⟨t, o, st' _ h1, h2⟩
/-- the end -/
theorem go_out {v : Option Value} {sf' : List Addr} (hv : ret = none → v = none) (hc : ce ≤ R.cells) (hs : sl ≤ R.slots) (hsub : ∀ x ∈ sf', x ∈ sf)
    (k : ∀ {p : Program} {e : Env} {s : State} {m : MethodId} {args : Array Value} {below : List Frame} {meth : Method} {c : Code} {T : State} {locs : List Loc} {fs : List Frame}, Stand p l e R s m args below meth c T locs ce sl → p.tables.exec = Jvm.exec → c.code = bytes → meth.sig.returnType = ret →
      (∀ (f : JFrame) (acts : List Action), f.method = m → f.locked = none → f.entered = [] → (doReturn e (T.setTop f) acts v).1 = T.setFrames fs) → Steps p.tables e below (T.setTop (mkF m pc ls st)) (T.setFrames fs))
    (hq : Q v h sf') : Go l Z a0 EL n0 R own bytes maxL ret nm Q h sf ce sl pc ls st := by
  intro p e s m args below meth c T W
  obtain ⟨⟨hx, hby, hml, hret, hnm, hlk, hEL, hOld⟩, vm0, locs, k0, X, eT, hS, hk, hZ, hown, N, C, O⟩ := W
  obtain ⟨fs, hl, hrun, hend, hR⟩ := X.leaveW (v := v) hS (by rw [eT]; exact hk) (by rw [hret]; exact hv) hlk
  have A := CHv.at X hZ hEL C.1
  subst eT
  refine ⟨_, _, k (s := s.setVm vm0) X hx hby hret hl, hrun, hend, v, locs, sf', rfl, hq, N, C.trans A, (O.mv A).sub hsub, hOld, hR.1, hR.2.1, hR.2.2.1, hR.2.2.2.mono hc hs⟩
/-- into a body -/
theorem con_of {y : MethodName} {ws : List Jvm.Cond} {as : Array Value} (hpl : plainFor y = true) (hEW : EW Z a0 EL) (hE : ∀ m, entryFrame m as maxL = mkF m 0 ls [])
    (hr : Go l Z a0 EL n0 R y.cls bytes maxL ret y.name Q h sf 0 0 0 ls []) : Con l Z EL n0 y bytes maxL ret ws R as h sf Q := by
  refine MetFree.of_bodySF hpl hisR ?_
  intro p e s m args below meth c s₁ Bd hml0 hP hK
  obtain ⟨rfl, hZ, hh, hC, hO, hOld⟩ := hP
  have X0 : Stand p l e R s m args below meth c s₁ [] 0 0 := Stand.of_body Bd
  have e0 : s₁.heap = h := by rw [← hh, Bd.state]; rfl
  subst hh
  obtain ⟨t, o, h1, h2⟩ := hr p e s m args below meth c s₁ ⟨⟨Bd.exec, Bd.bytes, hml0, Bd.returns, (name_of_methodNamed Bd.named Bd.method).1, Bd.notSynchronized, hEW, hOld⟩, s.vm, [], 0, X0, e0, (State.WarmedH.refl s).since 0, Nat.zero_le _, hZ, findClass_of_methodNamed Bd.named, Fr.nil n0, CHr.refl hC, hO⟩
  exact ⟨t, o, castTop (hE m) h1, h2⟩
/-- a contract as a payer -/
theorem back_of {p : Program} {e : Env} {s : State} {args : Array Value} {below : List Frame} {vm0 : Vm} {R' : Room} {y : MethodName} {as : Array Value} {len W : Nat}
    (hM : Con l Z EL n0 y bytes maxL ret [] R' as h sf Q) (hZ : Z.Warmed39 vm0) (wc : (Jvm.Cond.code y bytes maxL ret).before a0 Z = true) (wz : (Jvm.Cond.initialized y.cls).before a0 Z = true) (hf : R'.frames + 1 ≤ R.frames) (hl : W + (maxL + 11) + R'.locals ≤ R.locals) (hEL : EW Z a0 EL) (H : CHv Z EL vm0 h) (O : OwnL Z EL n0 vm0 h sf) (hOld : Old Z n0 h) :
    BackS l R p e below (s.setVm vm0) args y len W (fun A a => a = as ∧ A.U.heap = h ∧ A.cells + R'.cells ≤ R.cells ∧ A.slots + R'.slots ≤ R.slots)
      (fun A _ v B => ∃ L sf', Q v B.U.heap sf' ∧ Fr n0 L ∧ OwnL Z EL n0 B.U.vm B.U.heap sf' ∧ Old Z n0 B.U.heap ∧ B.locs = A.locs ++ L ∧ B.cells = A.cells + R'.cells ∧ B.slots = A.slots + R'.slots ∧ CHr Z EL vm0 h B.U.vm B.U.heap) :=
  BackS.of_freeW (bytes := bytes) (maxL := maxL) (ret := ret) (E := fun _ first o t L k n => k = R'.cells ∧ n = R'.slots ∧ Fr n0 L ∧ (∃ v sf', o = .returned v ∧ Q v t.heap sf' ∧ OwnL Z EL n0 t.vm t.heap sf' ∧ Old Z n0 t.heap) ∧ CHr Z EL first.vm first.heap t.vm t.heap) hM hf hl
    (fun m meth c A a Y hp => have hU : Z.Warmed39 A.U.vm := wtrans (s := s.setVm vm0) hZ Y.warmed
      ⟨by show (Jvm.Cond.and _ .tt).before a A.U = true; rw [Cond.before_and, RoadKit.mv hU wc]; rfl, RoadKit.mv hU wc, RoadKit.mv hU wz, hp.2.2.1, hp.2.2.2⟩)
    (fun m meth c A a g mk Y hp => ⟨hp.1, wtrans (s := s.setVm vm0) hZ Y.warmed, hp.2.1, (CHv.at Y hZ hEL H).1, show OwnL Z EL n0 A.U.vm h sf from O.mv (CHv.at Y hZ hEL H), hOld⟩) (fun _ _ _ _ _ _ _ _ _ => trivial)
    (fun _ _ _ _ ⟨v, L, sf', h1, h2, h3, h4, h5, h6, h7⟩ => ⟨L, _, _, h7, rfl, rfl, h3, ⟨v, sf', h1, h2, h5, h6⟩, h4⟩)
    (fun m meth c A a g mk v t L k n Y hp _ _ ⟨e1, e2, e3, ⟨v', sf', e4, e5, e6, e7⟩, e8⟩ => by
      cases e4; subst e1 e2
      refine ⟨L, sf', e5, e3, e6, e7, rfl, rfl, rfl, (CHv.at Y hZ hEL H).trans ?_⟩
      rw [← hp.2.1]; exact e8)
theorem go_aloadN {k : Fin 4} {v : Value} (hd : decode bytes pc = .ok (.aload_n k, 1)) (hp : pc + 1 = pc') (hl : ls[k.val]? = some (.val v)) (hv : v.isRef = true) (hr : Go l Z a0 EL n0 R own bytes maxL ret nm Q h sf ce sl pc' ls (v :: st)) : Go l Z a0 EL n0 R own bytes maxL ret nm Q h sf ce sl pc ls st := by
  subst hp
  exact go_step hr fun A hx hb kk => XS.aloadN A hx rfl (Jvm.hb hb hd) hl hv kk
theorem go_aload {k : Nat} {v : Value} (hd : decode bytes pc = .ok (.aload k, 2)) (hp : pc + 2 = pc') (hl : ls[k]? = some (.val v)) (hv : v.isRef = true) (hr : Go l Z a0 EL n0 R own bytes maxL ret nm Q h sf ce sl pc' ls (v :: st)) : Go l Z a0 EL n0 R own bytes maxL ret nm Q h sf ce sl pc ls st := by
  subst hp
  exact go_step hr fun A hx hb kk => XS.aload A hx rfl (Jvm.hb hb hd) hl hv kk
theorem go_iloadN {k : Fin 4} {v : Int32} (hd : decode bytes pc = .ok (.iload_n k, 1)) (hp : pc + 1 = pc') (hl : ls[k.val]? = some (.val (.int v))) (hr : Go l Z a0 EL n0 R own bytes maxL ret nm Q h sf ce sl pc' ls (.int v :: st)) : Go l Z a0 EL n0 R own bytes maxL ret nm Q h sf ce sl pc ls st := by
  subst hp
  exact go_step hr fun A hx hb kk => XS.iloadN A hx rfl (Jvm.hb hb hd) hl kk
theorem go_iload {k : Nat} {v : Int32} (hd : decode bytes pc = .ok (.iload k, 2)) (hp : pc + 2 = pc') (hl : ls[k]? = some (.val (.int v))) (hr : Go l Z a0 EL n0 R own bytes maxL ret nm Q h sf ce sl pc' ls (.int v :: st)) : Go l Z a0 EL n0 R own bytes maxL ret nm Q h sf ce sl pc ls st := by
  subst hp
  exact go_step hr fun A hx hb kk => XS.iload A hx rfl (Jvm.hb hb hd) hl kk
theorem go_lloadN {k : Fin 4} {v : Int64} (hd : decode bytes pc = .ok (.lload_n k, 1)) (hp : pc + 1 = pc') (hl : ls[k.val]? = some (.val (.long v))) (hr : Go l Z a0 EL n0 R own bytes maxL ret nm Q h sf ce sl pc' ls (.long v :: st)) : Go l Z a0 EL n0 R own bytes maxL ret nm Q h sf ce sl pc ls st := by
  subst hp
  exact go_step hr fun A hx hb kk => XT.lloadN A hx rfl (Jvm.hb hb hd) hl kk
theorem go_iconst {i : Int} (v : Int32) (hd : decode bytes pc = .ok (.iconst i, 1)) (hp : pc + 1 = pc') (hr : Go l Z a0 EL n0 R own bytes maxL ret nm Q h sf ce sl pc' ls (.int v :: st)) (hv : Int32.ofInt i = v := by decide) : Go l Z a0 EL n0 R own bytes maxL ret nm Q h sf ce sl pc ls st := by
  subst hp
  exact go_step hr fun A hx hb kk => XT.iconstV A hx rfl v (Jvm.hb hb hd) hv kk
theorem go_bipush {i : Int} (v : Int32) (hd : decode bytes pc = .ok (.bipush i, 2)) (hp : pc + 2 = pc') (hr : Go l Z a0 EL n0 R own bytes maxL ret nm Q h sf ce sl pc' ls (.int v :: st)) (hv : (Int8.ofInt i).toInt32 = v := by decide) : Go l Z a0 EL n0 R own bytes maxL ret nm Q h sf ce sl pc ls st := by
  subst hp
  exact go_step hr fun A hx hb kk => XT.bipushV A hx rfl v (Jvm.hb hb hd) hv kk
theorem go_sipush {i : Int} (v : Int32) (hd : decode bytes pc = .ok (.sipush i, 3)) (hp : pc + 3 = pc') (hr : Go l Z a0 EL n0 R own bytes maxL ret nm Q h sf ce sl pc' ls (.int v :: st)) (hv : (Int16.ofInt i).toInt32 = v := by decide) : Go l Z a0 EL n0 R own bytes maxL ret nm Q h sf ce sl pc ls st := by
  subst hp
  exact go_step hr fun A hx hb kk => XT.sipushV A hx rfl v (Jvm.hb hb hd) hv kk
theorem go_aconstNull (hd : decode bytes pc = .ok (.aconst_null, 1)) (hp : pc + 1 = pc') (hr : Go l Z a0 EL n0 R own bytes maxL ret nm Q h sf ce sl pc' ls (.null :: st)) : Go l Z a0 EL n0 R own bytes maxL ret nm Q h sf ce sl pc ls st := by
  subst hp
  exact go_step hr fun A hx hb kk => XS.aconstNull A hx rfl (Jvm.hb hb hd) kk
theorem go_iadd {x y : Int32} (hd : decode bytes pc = .ok (.iadd, 1)) (hp : pc + 1 = pc') (hr : Go l Z a0 EL n0 R own bytes maxL ret nm Q h sf ce sl pc' ls (.int (x + y) :: st)) : Go l Z a0 EL n0 R own bytes maxL ret nm Q h sf ce sl pc ls (.int y :: .int x :: st) := by
  subst hp
  exact go_step hr fun A hx hb kk => XS.iadd A hx rfl (Jvm.hb hb hd) rfl kk
theorem go_isub {x y : Int32} (hd : decode bytes pc = .ok (.isub, 1)) (hp : pc + 1 = pc') (hr : Go l Z a0 EL n0 R own bytes maxL ret nm Q h sf ce sl pc' ls (.int (x - y) :: st)) : Go l Z a0 EL n0 R own bytes maxL ret nm Q h sf ce sl pc ls (.int y :: .int x :: st) := by
  subst hp
  exact go_step hr fun A hx hb kk => XS.isub A hx rfl (Jvm.hb hb hd) rfl kk
theorem go_imul {x y : Int32} (hd : decode bytes pc = .ok (.imul, 1)) (hp : pc + 1 = pc') (hr : Go l Z a0 EL n0 R own bytes maxL ret nm Q h sf ce sl pc' ls (.int (x * y) :: st)) : Go l Z a0 EL n0 R own bytes maxL ret nm Q h sf ce sl pc ls (.int y :: .int x :: st) := by
  subst hp
  exact go_step hr fun A hx hb kk => XS.imul A hx rfl (Jvm.hb hb hd) rfl kk
theorem go_iand {x y : Int32} (hd : decode bytes pc = .ok (.iand, 1)) (hp : pc + 1 = pc') (hr : Go l Z a0 EL n0 R own bytes maxL ret nm Q h sf ce sl pc' ls (.int (x &&& y) :: st)) : Go l Z a0 EL n0 R own bytes maxL ret nm Q h sf ce sl pc ls (.int y :: .int x :: st) := by
  subst hp
  exact go_step hr fun A hx hb kk => XS.iand A hx rfl (Jvm.hb hb hd) rfl kk
theorem go_ior {x y : Int32} (hd : decode bytes pc = .ok (.ior, 1)) (hp : pc + 1 = pc') (hr : Go l Z a0 EL n0 R own bytes maxL ret nm Q h sf ce sl pc' ls (.int (x ||| y) :: st)) : Go l Z a0 EL n0 R own bytes maxL ret nm Q h sf ce sl pc ls (.int y :: .int x :: st) := by
  subst hp
  exact go_step hr fun A hx hb kk => XT.ior A hx rfl (Jvm.hb hb hd) rfl kk
theorem go_ixor {x y : Int32} (hd : decode bytes pc = .ok (.ixor, 1)) (hp : pc + 1 = pc') (hr : Go l Z a0 EL n0 R own bytes maxL ret nm Q h sf ce sl pc' ls (.int (x ^^^ y) :: st)) : Go l Z a0 EL n0 R own bytes maxL ret nm Q h sf ce sl pc ls (.int y :: .int x :: st) := by
  subst hp
  exact go_step hr fun A hx hb kk => XT.ixor A hx rfl (Jvm.hb hb hd) rfl kk
theorem go_iushr {x y : Int32} (hd : decode bytes pc = .ok (.iushr, 1)) (hp : pc + 1 = pc') (hr : Go l Z a0 EL n0 R own bytes maxL ret nm Q h sf ce sl pc' ls (.int (XT.ushr x y) :: st)) : Go l Z a0 EL n0 R own bytes maxL ret nm Q h sf ce sl pc ls (.int y :: .int x :: st) := by
  subst hp
  exact go_step hr fun A hx hb kk => XT.iushr A hx rfl (Jvm.hb hb hd) rfl kk
theorem go_ishl {x y : Int32} (hd : decode bytes pc = .ok (.ishl, 1)) (hp : pc + 1 = pc') (hr : Go l Z a0 EL n0 R own bytes maxL ret nm Q h sf ce sl pc' ls (.int (x <<< (y &&& 31)) :: st)) : Go l Z a0 EL n0 R own bytes maxL ret nm Q h sf ce sl pc ls (.int y :: .int x :: st) := by
  subst hp
  exact go_step hr fun A hx hb kk => XT.ishl A hx rfl (Jvm.hb hb hd) rfl kk
theorem go_ishr {x y : Int32} (hd : decode bytes pc = .ok (.ishr, 1)) (hp : pc + 1 = pc') (hr : Go l Z a0 EL n0 R own bytes maxL ret nm Q h sf ce sl pc' ls (.int (x >>> (y &&& 31)) :: st)) : Go l Z a0 EL n0 R own bytes maxL ret nm Q h sf ce sl pc ls (.int y :: .int x :: st) := by
  subst hp
  exact go_step hr fun A hx hb kk => XT.ishr A hx rfl (Jvm.hb hb hd) rfl kk
theorem go_i2b {x : Int32} (hd : decode bytes pc = .ok (.i2b, 1)) (hp : pc + 1 = pc') (hr : Go l Z a0 EL n0 R own bytes maxL ret nm Q h sf ce sl pc' ls (.int x.toInt8.toInt32 :: st)) : Go l Z a0 EL n0 R own bytes maxL ret nm Q h sf ce sl pc ls (.int x :: st) := by
  subst hp
  exact go_step hr fun A hx hb kk => XT.i2b A hx rfl (Jvm.hb hb hd) rfl kk
theorem go_i2c {x : Int32} (hd : decode bytes pc = .ok (.i2c, 1)) (hp : pc + 1 = pc') (hr : Go l Z a0 EL n0 R own bytes maxL ret nm Q h sf ce sl pc' ls (.int x.toUInt32.toUInt16.toUInt32.toInt32 :: st)) : Go l Z a0 EL n0 R own bytes maxL ret nm Q h sf ce sl pc ls (.int x :: st) := by
  subst hp
  exact go_step hr fun A hx hb kk => XT.i2c A hx rfl (Jvm.hb hb hd) rfl kk
theorem go_i2l {x : Int32} (hd : decode bytes pc = .ok (.i2l, 1)) (hp : pc + 1 = pc') (hr : Go l Z a0 EL n0 R own bytes maxL ret nm Q h sf ce sl pc' ls (.long x.toInt64 :: st)) : Go l Z a0 EL n0 R own bytes maxL ret nm Q h sf ce sl pc ls (.int x :: st) := by
  subst hp
  exact go_step hr fun A hx hb kk => XT.i2l A hx rfl (Jvm.hb hb hd) rfl kk
theorem go_l2i {x : Int64} (hd : decode bytes pc = .ok (.l2i, 1)) (hp : pc + 1 = pc') (hr : Go l Z a0 EL n0 R own bytes maxL ret nm Q h sf ce sl pc' ls (.int x.toInt32 :: st)) : Go l Z a0 EL n0 R own bytes maxL ret nm Q h sf ce sl pc ls (.long x :: st) := by
  subst hp
  exact go_step hr fun A hx hb kk => XT.l2i A hx rfl (Jvm.hb hb hd) rfl kk
theorem go_land {x y : Int64} (hd : decode bytes pc = .ok (.land, 1)) (hp : pc + 1 = pc') (hr : Go l Z a0 EL n0 R own bytes maxL ret nm Q h sf ce sl pc' ls (.long (x &&& y) :: st)) : Go l Z a0 EL n0 R own bytes maxL ret nm Q h sf ce sl pc ls (.long y :: .long x :: st) := by
  subst hp
  exact go_step hr fun A hx hb kk => XT.land A hx rfl (Jvm.hb hb hd) rfl kk
theorem go_lushr {x : Int64} {y : Int32} (hd : decode bytes pc = .ok (.lushr, 1)) (hp : pc + 1 = pc') (hr : Go l Z a0 EL n0 R own bytes maxL ret nm Q h sf ce sl pc' ls (.long (XT.ushrL x y) :: st)) : Go l Z a0 EL n0 R own bytes maxL ret nm Q h sf ce sl pc ls (.int y :: .long x :: st) := by
  subst hp
  exact go_step hr fun A hx hb kk => XT.lushr A hx rfl (Jvm.hb hb hd) rfl kk
theorem go_dup {x : Value} (hd : decode bytes pc = .ok (.dup, 1)) (hp : pc + 1 = pc') (hc : x.category = 1) (hr : Go l Z a0 EL n0 R own bytes maxL ret nm Q h sf ce sl pc' ls (x :: x :: st)) : Go l Z a0 EL n0 R own bytes maxL ret nm Q h sf ce sl pc ls (x :: st) := by
  subst hp
  exact go_step hr fun A hx hb kk => XS.dup A hx rfl (Jvm.hb hb hd) rfl hc kk
theorem go_pop {x : Value} (hd : decode bytes pc = .ok (.pop, 1)) (hp : pc + 1 = pc') (hc : x.category = 1) (hr : Go l Z a0 EL n0 R own bytes maxL ret nm Q h sf ce sl pc' ls st) : Go l Z a0 EL n0 R own bytes maxL ret nm Q h sf ce sl pc ls (x :: st) := by
  subst hp
  exact go_step hr fun A hx hb kk => XT.pop A hx rfl (Jvm.hb hb hd) rfl hc kk
theorem go_istoreN {k : Fin 4} {x : Int32} (hd : decode bytes pc = .ok (.istore_n k, 1)) (hp : pc + 1 = pc') (ls' : Array Slot) (hl : storeLocals ls k.val (.int x) = some ls') (hr : Go l Z a0 EL n0 R own bytes maxL ret nm Q h sf ce sl pc' ls' st) : Go l Z a0 EL n0 R own bytes maxL ret nm Q h sf ce sl pc ls (.int x :: st) := by
  subst hp
  exact go_step hr fun A hx hb kk => XS.istoreN A hx rfl (Jvm.hb hb hd) rfl hl kk
theorem go_istore {k : Nat} {x : Int32} (hd : decode bytes pc = .ok (.istore k, 2)) (hp : pc + 2 = pc') (ls' : Array Slot) (hl : storeLocals ls k (.int x) = some ls') (hr : Go l Z a0 EL n0 R own bytes maxL ret nm Q h sf ce sl pc' ls' st) : Go l Z a0 EL n0 R own bytes maxL ret nm Q h sf ce sl pc ls (.int x :: st) := by
  subst hp
  exact go_step hr fun A hx hb kk => XS.istore A hx rfl (Jvm.hb hb hd) rfl hl kk
theorem go_astoreN {k : Fin 4} {x : Value} (hd : decode bytes pc = .ok (.astore_n k, 1)) (hp : pc + 1 = pc') (ls' : Array Slot) (hv : x.isRef = true) (hl : storeLocals ls k.val x = some ls') (hr : Go l Z a0 EL n0 R own bytes maxL ret nm Q h sf ce sl pc' ls' st) : Go l Z a0 EL n0 R own bytes maxL ret nm Q h sf ce sl pc ls (x :: st) := by
  subst hp
  exact go_step hr fun A hx hb kk => XS.astoreN A hx rfl (Jvm.hb hb hd) rfl hv hl kk
theorem go_astore {k : Nat} {x : Value} (hd : decode bytes pc = .ok (.astore k, 2)) (hp : pc + 2 = pc') (ls' : Array Slot) (hv : x.isRef = true) (hl : storeLocals ls k x = some ls') (hr : Go l Z a0 EL n0 R own bytes maxL ret nm Q h sf ce sl pc' ls' st) : Go l Z a0 EL n0 R own bytes maxL ret nm Q h sf ce sl pc ls (x :: st) := by
  subst hp
  exact go_step hr fun A hx hb kk => XS.astore A hx rfl (Jvm.hb hb hd) rfl hv hl kk
theorem go_lstoreN {k : Fin 4} {x : Int64} (hd : decode bytes pc = .ok (.lstore_n k, 1)) (hp : pc + 1 = pc') (ls' : Array Slot) (hl : storeLocals ls k.val (.long x) = some ls') (hr : Go l Z a0 EL n0 R own bytes maxL ret nm Q h sf ce sl pc' ls' st) : Go l Z a0 EL n0 R own bytes maxL ret nm Q h sf ce sl pc ls (.long x :: st) := by
  subst hp
  exact go_step hr fun A hx hb kk => XT.lstoreN A hx rfl (Jvm.hb hb hd) rfl hl kk
theorem go_iinc {k : Nat} {cst : Int} {x : Int32} (v : Int32) (hd : decode bytes pc = .ok (.iinc k cst, 3)) (hp : pc + 3 = pc') (ls' : Array Slot) (hv : Int32.ofInt cst = v) (hl : ls[k]? = some (.val (.int x))) (hl' : storeLocals ls k (.int (x + v)) = some ls') (hr : Go l Z a0 EL n0 R own bytes maxL ret nm Q h sf ce sl pc' ls' st) : Go l Z a0 EL n0 R own bytes maxL ret nm Q h sf ce sl pc ls st := by
  subst hp
  exact go_step hr fun A hx hb kk => XT.iincV A hx rfl v (Jvm.hb hb hd) hv hl hl' kk
theorem go_goto {o : Int} (hd : decode bytes pc = .ok (.goto o, 3)) (hr : Go l Z a0 EL n0 R own bytes maxL ret nm Q h sf ce sl pt ls st) (ho : 0 ≤ (pc : Int) + o := by decide) (ht : ((pc : Int) + o).toNat = pt := by decide) : Go l Z a0 EL n0 R own bytes maxL ret nm Q h sf ce sl pc ls st := go_step hr fun A hx hb kk => XS.goto A hx rfl rfl (Jvm.hb hb hd) ho ht kk
theorem go_icmp_eq_t {o : Int} {x y : Int32} (hd : decode bytes pc = .ok (.if_icmp .eq o, 3)) (hc : x = y) (hr : Go l Z a0 EL n0 R own bytes maxL ret nm Q h sf ce sl pt ls st) (ho : 0 ≤ (pc : Int) + o := by decide) (ht : ((pc : Int) + o).toNat = pt := by decide) : Go l Z a0 EL n0 R own bytes maxL ret nm Q h sf ce sl pc ls (.int y :: .int x :: st) := go_step hr fun A hx hb kk => XS.icmpYes A hx rfl rfl (Jvm.hb hb hd) rfl (XT.ii_eq_t hc) ho ht kk
theorem go_icmp_eq_f {o : Int} {x y : Int32} (hd : decode bytes pc = .ok (.if_icmp .eq o, 3)) (hp : pc + 3 = pc') (hc : ¬ x = y) (hr : Go l Z a0 EL n0 R own bytes maxL ret nm Q h sf ce sl pc' ls st) : Go l Z a0 EL n0 R own bytes maxL ret nm Q h sf ce sl pc ls (.int y :: .int x :: st) := by
  subst hp
  exact go_step hr fun A hx hb kk => XS.icmpNo A hx rfl (Jvm.hb hb hd) rfl (XT.ii_eq_f hc) kk
theorem go_if_eq_t {o : Int} {x : Int32} (hd : decode bytes pc = .ok (.ifCond .eq o, 3)) (hc : x = 0) (hr : Go l Z a0 EL n0 R own bytes maxL ret nm Q h sf ce sl pt ls st) (ho : 0 ≤ (pc : Int) + o := by decide) (ht : ((pc : Int) + o).toNat = pt := by decide) : Go l Z a0 EL n0 R own bytes maxL ret nm Q h sf ce sl pc ls (.int x :: st) := go_step hr fun A hx hb kk => XS.ifYes A hx rfl rfl (Jvm.hb hb hd) rfl (XT.i0_eq_t hc) ho ht kk
theorem go_if_eq_f {o : Int} {x : Int32} (hd : decode bytes pc = .ok (.ifCond .eq o, 3)) (hp : pc + 3 = pc') (hc : ¬ x = 0) (hr : Go l Z a0 EL n0 R own bytes maxL ret nm Q h sf ce sl pc' ls st) : Go l Z a0 EL n0 R own bytes maxL ret nm Q h sf ce sl pc ls (.int x :: st) := by
  subst hp
  exact go_step hr fun A hx hb kk => XS.ifNo A hx rfl (Jvm.hb hb hd) rfl (XT.i0_eq_f hc) kk
theorem go_icmp_ne_t {o : Int} {x y : Int32} (hd : decode bytes pc = .ok (.if_icmp .ne o, 3)) (hc : ¬ x = y) (hr : Go l Z a0 EL n0 R own bytes maxL ret nm Q h sf ce sl pt ls st) (ho : 0 ≤ (pc : Int) + o := by decide) (ht : ((pc : Int) + o).toNat = pt := by decide) : Go l Z a0 EL n0 R own bytes maxL ret nm Q h sf ce sl pc ls (.int y :: .int x :: st) := go_step hr fun A hx hb kk => XS.icmpYes A hx rfl rfl (Jvm.hb hb hd) rfl (XT.ii_ne_t hc) ho ht kk
theorem go_icmp_ne_f {o : Int} {x y : Int32} (hd : decode bytes pc = .ok (.if_icmp .ne o, 3)) (hp : pc + 3 = pc') (hc : x = y) (hr : Go l Z a0 EL n0 R own bytes maxL ret nm Q h sf ce sl pc' ls st) : Go l Z a0 EL n0 R own bytes maxL ret nm Q h sf ce sl pc ls (.int y :: .int x :: st) := by
  subst hp
  exact go_step hr fun A hx hb kk => XS.icmpNo A hx rfl (Jvm.hb hb hd) rfl (XT.ii_ne_f hc) kk
theorem go_if_ne_t {o : Int} {x : Int32} (hd : decode bytes pc = .ok (.ifCond .ne o, 3)) (hc : ¬ x = 0) (hr : Go l Z a0 EL n0 R own bytes maxL ret nm Q h sf ce sl pt ls st) (ho : 0 ≤ (pc : Int) + o := by decide) (ht : ((pc : Int) + o).toNat = pt := by decide) : Go l Z a0 EL n0 R own bytes maxL ret nm Q h sf ce sl pc ls (.int x :: st) := go_step hr fun A hx hb kk => XS.ifYes A hx rfl rfl (Jvm.hb hb hd) rfl (XT.i0_ne_t hc) ho ht kk
theorem go_if_ne_f {o : Int} {x : Int32} (hd : decode bytes pc = .ok (.ifCond .ne o, 3)) (hp : pc + 3 = pc') (hc : x = 0) (hr : Go l Z a0 EL n0 R own bytes maxL ret nm Q h sf ce sl pc' ls st) : Go l Z a0 EL n0 R own bytes maxL ret nm Q h sf ce sl pc ls (.int x :: st) := by
  subst hp
  exact go_step hr fun A hx hb kk => XS.ifNo A hx rfl (Jvm.hb hb hd) rfl (XT.i0_ne_f hc) kk
theorem go_icmp_lt_t {o : Int} {x y : Int32} (hd : decode bytes pc = .ok (.if_icmp .lt o, 3)) (hc : x < y) (hr : Go l Z a0 EL n0 R own bytes maxL ret nm Q h sf ce sl pt ls st) (ho : 0 ≤ (pc : Int) + o := by decide) (ht : ((pc : Int) + o).toNat = pt := by decide) : Go l Z a0 EL n0 R own bytes maxL ret nm Q h sf ce sl pc ls (.int y :: .int x :: st) := go_step hr fun A hx hb kk => XS.icmpYes A hx rfl rfl (Jvm.hb hb hd) rfl (XT.ii_lt_t hc) ho ht kk
theorem go_icmp_lt_f {o : Int} {x y : Int32} (hd : decode bytes pc = .ok (.if_icmp .lt o, 3)) (hp : pc + 3 = pc') (hc : ¬ x < y) (hr : Go l Z a0 EL n0 R own bytes maxL ret nm Q h sf ce sl pc' ls st) : Go l Z a0 EL n0 R own bytes maxL ret nm Q h sf ce sl pc ls (.int y :: .int x :: st) := by
  subst hp
  exact go_step hr fun A hx hb kk => XS.icmpNo A hx rfl (Jvm.hb hb hd) rfl (XT.ii_lt_f hc) kk
theorem go_if_lt_f {o : Int} {x : Int32} (hd : decode bytes pc = .ok (.ifCond .lt o, 3)) (hp : pc + 3 = pc') (hc : ¬ x < 0) (hr : Go l Z a0 EL n0 R own bytes maxL ret nm Q h sf ce sl pc' ls st) : Go l Z a0 EL n0 R own bytes maxL ret nm Q h sf ce sl pc ls (.int x :: st) := by
  subst hp
  exact go_step hr fun A hx hb kk => XS.ifNo A hx rfl (Jvm.hb hb hd) rfl (XT.i0_lt_f hc) kk
theorem go_icmp_ge_t {o : Int} {x y : Int32} (hd : decode bytes pc = .ok (.if_icmp .ge o, 3)) (hc : ¬ x < y) (hr : Go l Z a0 EL n0 R own bytes maxL ret nm Q h sf ce sl pt ls st) (ho : 0 ≤ (pc : Int) + o := by decide) (ht : ((pc : Int) + o).toNat = pt := by decide) : Go l Z a0 EL n0 R own bytes maxL ret nm Q h sf ce sl pc ls (.int y :: .int x :: st) := go_step hr fun A hx hb kk => XS.icmpYes A hx rfl rfl (Jvm.hb hb hd) rfl (XT.ii_ge_t hc) ho ht kk
theorem go_icmp_ge_f {o : Int} {x y : Int32} (hd : decode bytes pc = .ok (.if_icmp .ge o, 3)) (hp : pc + 3 = pc') (hc : x < y) (hr : Go l Z a0 EL n0 R own bytes maxL ret nm Q h sf ce sl pc' ls st) : Go l Z a0 EL n0 R own bytes maxL ret nm Q h sf ce sl pc ls (.int y :: .int x :: st) := by
  subst hp
  exact go_step hr fun A hx hb kk => XS.icmpNo A hx rfl (Jvm.hb hb hd) rfl (XT.ii_ge_f hc) kk
theorem go_if_ge_t {o : Int} {x : Int32} (hd : decode bytes pc = .ok (.ifCond .ge o, 3)) (hc : ¬ x < 0) (hr : Go l Z a0 EL n0 R own bytes maxL ret nm Q h sf ce sl pt ls st) (ho : 0 ≤ (pc : Int) + o := by decide) (ht : ((pc : Int) + o).toNat = pt := by decide) : Go l Z a0 EL n0 R own bytes maxL ret nm Q h sf ce sl pc ls (.int x :: st) := go_step hr fun A hx hb kk => XS.ifYes A hx rfl rfl (Jvm.hb hb hd) rfl (XT.i0_ge_t hc) ho ht kk
theorem go_if_ge_f {o : Int} {x : Int32} (hd : decode bytes pc = .ok (.ifCond .ge o, 3)) (hp : pc + 3 = pc') (hc : x < 0) (hr : Go l Z a0 EL n0 R own bytes maxL ret nm Q h sf ce sl pc' ls st) : Go l Z a0 EL n0 R own bytes maxL ret nm Q h sf ce sl pc ls (.int x :: st) := by
  subst hp
  exact go_step hr fun A hx hb kk => XS.ifNo A hx rfl (Jvm.hb hb hd) rfl (XT.i0_ge_f hc) kk
theorem go_icmp_gt_t {o : Int} {x y : Int32} (hd : decode bytes pc = .ok (.if_icmp .gt o, 3)) (hc : y < x) (hr : Go l Z a0 EL n0 R own bytes maxL ret nm Q h sf ce sl pt ls st) (ho : 0 ≤ (pc : Int) + o := by decide) (ht : ((pc : Int) + o).toNat = pt := by decide) : Go l Z a0 EL n0 R own bytes maxL ret nm Q h sf ce sl pc ls (.int y :: .int x :: st) := go_step hr fun A hx hb kk => XS.icmpYes A hx rfl rfl (Jvm.hb hb hd) rfl (XT.ii_gt_t hc) ho ht kk
theorem go_icmp_gt_f {o : Int} {x y : Int32} (hd : decode bytes pc = .ok (.if_icmp .gt o, 3)) (hp : pc + 3 = pc') (hc : ¬ y < x) (hr : Go l Z a0 EL n0 R own bytes maxL ret nm Q h sf ce sl pc' ls st) : Go l Z a0 EL n0 R own bytes maxL ret nm Q h sf ce sl pc ls (.int y :: .int x :: st) := by
  subst hp
  exact go_step hr fun A hx hb kk => XS.icmpNo A hx rfl (Jvm.hb hb hd) rfl (XT.ii_gt_f hc) kk
theorem go_icmp_le_t {o : Int} {x y : Int32} (hd : decode bytes pc = .ok (.if_icmp .le o, 3)) (hc : ¬ y < x) (hr : Go l Z a0 EL n0 R own bytes maxL ret nm Q h sf ce sl pt ls st) (ho : 0 ≤ (pc : Int) + o := by decide) (ht : ((pc : Int) + o).toNat = pt := by decide) : Go l Z a0 EL n0 R own bytes maxL ret nm Q h sf ce sl pc ls (.int y :: .int x :: st) := go_step hr fun A hx hb kk => XS.icmpYes A hx rfl rfl (Jvm.hb hb hd) rfl (XT.ii_le_t hc) ho ht kk
theorem go_icmp_le_f {o : Int} {x y : Int32} (hd : decode bytes pc = .ok (.if_icmp .le o, 3)) (hp : pc + 3 = pc') (hc : y < x) (hr : Go l Z a0 EL n0 R own bytes maxL ret nm Q h sf ce sl pc' ls st) : Go l Z a0 EL n0 R own bytes maxL ret nm Q h sf ce sl pc ls (.int y :: .int x :: st) := by
  subst hp
  exact go_step hr fun A hx hb kk => XS.icmpNo A hx rfl (Jvm.hb hb hd) rfl (XT.ii_le_f hc) kk
theorem go_if_le_t {o : Int} {x : Int32} (hd : decode bytes pc = .ok (.ifCond .le o, 3)) (hc : ¬ 0 < x) (hr : Go l Z a0 EL n0 R own bytes maxL ret nm Q h sf ce sl pt ls st) (ho : 0 ≤ (pc : Int) + o := by decide) (ht : ((pc : Int) + o).toNat = pt := by decide) : Go l Z a0 EL n0 R own bytes maxL ret nm Q h sf ce sl pc ls (.int x :: st) := go_step hr fun A hx hb kk => XS.ifYes A hx rfl rfl (Jvm.hb hb hd) rfl (XT.i0_le_t hc) ho ht kk
theorem go_if_le_f {o : Int} {x : Int32} (hd : decode bytes pc = .ok (.ifCond .le o, 3)) (hp : pc + 3 = pc') (hc : 0 < x) (hr : Go l Z a0 EL n0 R own bytes maxL ret nm Q h sf ce sl pc' ls st) : Go l Z a0 EL n0 R own bytes maxL ret nm Q h sf ce sl pc ls (.int x :: st) := by
  subst hp
  exact go_step hr fun A hx hb kk => XS.ifNo A hx rfl (Jvm.hb hb hd) rfl (XT.i0_le_f hc) kk
theorem go_ifnonnull_t {o : Int} {b : Addr} (hd : decode bytes pc = .ok (.ifnonnull o, 3)) (hr : Go l Z a0 EL n0 R own bytes maxL ret nm Q h sf ce sl pt ls st) (ho : 0 ≤ (pc : Int) + o := by decide) (ht : ((pc : Int) + o).toNat = pt := by decide) : Go l Z a0 EL n0 R own bytes maxL ret nm Q h sf ce sl pc ls (.ref b :: st) := go_step hr fun A hx hb kk => XT.ifnonnullYes A hx rfl rfl (Jvm.hb hb hd) rfl ho ht kk
theorem go_irem {x y : Int32} (hd : decode bytes pc = .ok (.irem, 1)) (hp : pc + 1 = pc') (hy : y ≠ 0) (hr : Go l Z a0 EL n0 R own bytes maxL ret nm Q h sf ce sl pc' ls (.int (x % y) :: st)) : Go l Z a0 EL n0 R own bytes maxL ret nm Q h sf ce sl pc ls (.int y :: .int x :: st) := by
  subst hp
  exact go_move hr fun {p e s m args below meth c T locs} X hx hby hml eT hZ ho hOld => ⟨T, X, eT, fun t kk => iremM X hx (g := mkF m pc ls (.int y :: .int x :: st)) rfl (Jvm.hb hby hd) rfl hy kk⟩
theorem go_acmp {cd : ACond} {x y : Value} {o : Int} (same : Bool) (hd : decode bytes pc = .ok (.if_acmp cd o, 3)) (h1 : x.isRef = true) (h2 : y.isRef = true) (hq : decide (x = y) = same) (ho : 0 ≤ (pc : Int) + o) (ht : pt = if acV cd same = true then ((pc : Int) + o).toNat else pc + 3) (hr : Go l Z a0 EL n0 R own bytes maxL ret nm Q h sf ce sl pt ls st) : Go l Z a0 EL n0 R own bytes maxL ret nm Q h sf ce sl pc ls (y :: x :: st) :=
  go_move hr fun {p e s m args below meth c T locs} X hx hby hml eT hZ ho' hOld => ⟨T, X, eT, fun t kk => RoadKit.acmp X hx (g := mkF m pc ls (y :: x :: st)) rfl h1 h2 rfl (Jvm.hb hby hd) rfl hq ho ht kk⟩
/-- a call by its contract -/
theorem go_call {R' : Room} {y : MethodName} {bY : ByteArray} {mY : Nat} {rY : Option FieldType} {as : List Value} {sfY : List Addr} {QY : Option Value → Heap → List Addr → Prop} {len W : Nat}
    (hC : Con l Z EL n0 y bY mY rY [] R' as.toArray h sfY QY) (hsf : ∀ x ∈ sfY, x ∈ sf) (wc : (Jvm.Cond.code y bY mY rY).before a0 Z = true) (wz : (Jvm.Cond.initialized y.cls).before a0 Z = true)
    (hf : R'.frames + 1 ≤ R.frames) (hl : W + (mY + 11) + R'.locals ≤ R.locals) (hc : ce + R'.cells ≤ R.cells) (hs : sl + R'.slots ≤ R.slots)
    (k : ∀ {p : Program} {e : Env} {s : State} {m : MethodId} {args : Array Value} {below : List Frame} {meth : Method} {c : Code} {T : State} {locs : List Loc} {Pre : Free.Pt → Array Value → Prop} {Post : Free.Pt → Array Value → Option Value → Free.Pt → Prop}, Stand p l e R s m args below meth c T locs ce sl → p.tables.exec = Jvm.exec → c.code = bytes → c.maxLocals = maxL → T.heap = h → Z.Warmed39 s.vm → s.vm.findClass own = some m.cls →
      BackS l R p e below s args y len W Pre Post → (∀ vm₁, s.WarmedH vm₁ → Pre ⟨T.setVm vm₁, locs, ce, sl⟩ as.toArray) →
      ∃ (v : Option Value) (vm₁ : Vm) (B : Free.Pt), s.WarmedH vm₁ ∧ Stand p l e R (s.setVm B.U.vm) m args below meth c B.U B.locs B.cells B.slots ∧ s.Since B.U.vm B.U.heap.size ∧ T.heap.size ≤ B.U.heap.size ∧ Post ⟨T.setVm vm₁, locs, ce, sl⟩ as.toArray v B ∧
        Steps p.tables e below (T.setTop (mkF m pc ls st)) (B.U.setTop (mkF m pc' ls (v.toList ++ rest))))
    (hr : ∀ v h' sf', QY v h' sf' → Go l Z a0 EL n0 R own bytes maxL ret nm Q h' (sf' ++ sf) (ce + R'.cells) (sl + R'.slots) pc' ls (v.toList ++ rest)) :
    Go l Z a0 EL n0 R own bytes maxL ret nm Q h sf ce sl pc ls st := by
  intro p e s m args below meth c T W'
  obtain ⟨⟨hx, hby, hml, hret, hnm, hlk, hEL, hOld⟩, vm0, locs, k0, X, eT, hS, hk, hZ, hown, N, C, O⟩ := W'
  have hB := back_of (p := p) (e := e) (s := s) (args := args) (below := below) (R := R) (W := W) (len := len) hC hZ wc wz hf hl hEL C.1 (O.sub hsf) hOld
  obtain ⟨v, vm₁, ⟨U, Lc, kc, nc⟩, -, X', hS', hg, ⟨L, sf', q, fr, ow, ol, e1, e2, e3, ch⟩, st'⟩ := k (s := s.setVm vm0) X hx hby hml eT hZ hown hB (fun vm₁ _ => ⟨rfl, eT, hc, hs⟩)
  obtain ⟨X2, hS2, hZ2, hown2⟩ := rebS (own := own) (Z := Z) hS (Nat.le_trans hk (Nat.le_of_eq (by rw [eT]))) X' hS' hg hZ hown
  dsimp only [Free.Pt.U, Free.Pt.locs, Free.Pt.cells, Free.Pt.slots] at X2 hS2 hZ2 hown2 q ow ol e1 e2 e3 ch st'
  subst e1 e2 e3
  obtain ⟨t, o, h1, h2⟩ := hr v U.heap sf' q p e s m args below meth c U ⟨⟨hx, hby, hml, hret, hnm, hlk, hEL, ol⟩, U.vm, locs ++ L, U.heap.size, X2, rfl, hS2, Nat.le_refl _, hZ2, hown2, N.app fr, C.trans ch, ow.app (O.mv ch)⟩
  exact ⟨t, o, st'.trans h1, h2⟩
theorem go_static {R' : Room} {y : MethodName} {bY : ByteArray} {mY : Nat} {rY : Option FieldType} {sfY : List Addr} {QY : Option Value → Heap → List Addr → Prop} {idx : Nat} (as rest : List Value) (W : Nat)
    (hd : decode bytes pc = .ok (.invokestatic idx, 3)) (hp : pc + 3 = pc') (w1 : (Jvm.Cond.methodLink own idx y).before a0 Z = true) (w2 : (Jvm.Cond.static y).before a0 Z = true) (wz : (Jvm.Cond.initialized y.cls).before a0 Z = true) (wc : (Jvm.Cond.code y bY mY rY).before a0 Z = true)
    (hC : Con l Z EL n0 y bY mY rY [] R' as.toArray h sfY QY) (hsf : ∀ x ∈ sfY, x ∈ sf) (hlen : ∀ sig, parseMethodDescriptor y.desc = some sig → as.length = sig.parameters.length) (hst : st = as.reverse ++ rest) (hsz : ls.size = maxL) (hW : (rest.map fun v => v.category).sum = W)
    (hr : ∀ v h' sf', QY v h' sf' → Go l Z a0 EL n0 R own bytes maxL ret nm Q h' (sf' ++ sf) (ce + R'.cells) (sl + R'.slots) pc' ls (v.toList ++ rest)) (hy : y.cls ≠ "java/lang/invoke/MethodHandle" ∧ y.cls ≠ "java/lang/invoke/VarHandle" := by decide) (hf : R'.frames + 1 ≤ R.frames := by decide) (hl : W + (mY + 11) + R'.locals ≤ R.locals := by decide) (hc : ce + R'.cells ≤ R.cells := by decide) (hs : sl + R'.slots ≤ R.slots := by decide) :
    Go l Z a0 EL n0 R own bytes maxL ret nm Q h sf ce sl pc ls st := by
  subst hp hst
  exact go_call (len := 3) (W := W) hC hsf wc wz hf hl hc hs (fun {p e s m args below meth c T locs Pre Post} X hx hby hml eT hZ ho hK hpre =>
    callSS X hx ho (mvT hZ w1) (mvT hZ w2) (mvT hZ wz) (mvT hZ wc) hy hK (g := mkF m pc ls (as.reverse ++ rest)) rfl (by rw [hml]; exact hsz) hlen rfl (by show 2 * 0 + (rest.map fun v => v.category).sum ≤ W; omega) (Jvm.hb hby hd) hpre) hr
theorem go_special {R' : Room} {y : MethodName} {bY : ByteArray} {mY : Nat} {sfY : List Addr} {QY : Option Value → Heap → List Addr → Prop} {idx : Nat} (a : Addr) (as rest : List Value) (W : Nat)
    (hd : decode bytes pc = .ok (.invokespecial idx, 3)) (hp : pc + 3 = pc') (hy1 : y.name = "<init>") (w1 : (Jvm.Cond.methodLink own idx y).before a0 Z = true) (w2 : (Jvm.Cond.instanceMethod y).before a0 Z = true) (wz : (Jvm.Cond.initialized y.cls).before a0 Z = true) (wc : (Jvm.Cond.code y bY mY none).before a0 Z = true)
    (hC : Con l Z EL n0 y bY mY none [] R' (.ref a :: as).toArray h sfY QY) (hsf : ∀ x ∈ sfY, x ∈ sf) (hlen : ∀ sig, parseMethodDescriptor y.desc = some sig → as.length = sig.parameters.length) (hst : st = as.reverse ++ .ref a :: rest) (hsz : ls.size = maxL) (hW : (rest.map fun v => v.category).sum = W)
    (hr : ∀ v h' sf', QY v h' sf' → Go l Z a0 EL n0 R own bytes maxL ret nm Q h' (sf' ++ sf) (ce + R'.cells) (sl + R'.slots) pc' ls (v.toList ++ rest)) (hy : y.cls ≠ "java/lang/invoke/MethodHandle" ∧ y.cls ≠ "java/lang/invoke/VarHandle" := by decide) (hf : R'.frames + 1 ≤ R.frames := by decide) (hl : W + (mY + 11) + R'.locals ≤ R.locals := by decide) (hc : ce + R'.cells ≤ R.cells := by decide) (hs : sl + R'.slots ≤ R.slots := by decide) :
    Go l Z a0 EL n0 R own bytes maxL ret nm Q h sf ce sl pc ls st := by
  subst hp hst
  exact go_call (len := 3) (W := W) hC hsf wc wz hf hl hc hs (fun {p e s m args below meth c T locs Pre Post} X hx hby hml eT hZ ho hK hpre =>
    Stand.specialBackS X hx hy1 ho (mvT hZ w1) (mvT hZ w2) (mvT hZ wc) hy hK (g := mkF m pc ls (as.reverse ++ .ref a :: rest)) rfl (by rw [hml]; exact hsz) (Steps.refl _) hlen rfl (by show 2 * 0 + (rest.map fun v => v.category).sum ≤ W; omega) (Jvm.hb hby hd) hpre) hr
theorem go_virtual {R' : Room} {y z : MethodName} {bY : ByteArray} {mY : Nat} {rY : Option FieldType} {sfY : List Addr} {QY : Option Value → Heap → List Addr → Prop} {idx : Nat} {C : String} (a : Addr) (as rest : List Value) (W : Nat)
    (hd : decode bytes pc = .ok (.invokevirtual idx, 3)) (hp : pc + 3 = pc') (E : Exa Z h a C) (w1 : (Jvm.Cond.methodLink own idx y).before a0 Z = true) (w2 : (Jvm.Cond.declares y).before a0 Z = true) (hnf : ∀ {s : State}, Z.Warmed39 s.vm → NotFace s y) (w3 : (Jvm.Cond.selects C y z).before a0 Z = true) (w4 : (Jvm.Cond.instanceMethod z).before a0 Z = true) (wz : (Jvm.Cond.initialized z.cls).before a0 Z = true) (wc : (Jvm.Cond.code z bY mY rY).before a0 Z = true)
    (hC : Con l Z EL n0 z bY mY rY [] R' (.ref a :: as).toArray h sfY QY) (hsf : ∀ x ∈ sfY, x ∈ sf) (hlen : ∀ sig, parseMethodDescriptor y.desc = some sig → as.length = sig.parameters.length) (hst : st = as.reverse ++ .ref a :: rest) (hsz : ls.size = maxL) (hW : (rest.map fun v => v.category).sum = W)
    (hr : ∀ v h' sf', QY v h' sf' → Go l Z a0 EL n0 R own bytes maxL ret nm Q h' (sf' ++ sf) (ce + R'.cells) (sl + R'.slots) pc' ls (v.toList ++ rest)) (hy : y.cls ≠ "java/lang/invoke/MethodHandle" ∧ y.cls ≠ "java/lang/invoke/VarHandle" := by decide) (hf : R'.frames + 1 ≤ R.frames := by decide) (hl : W + (mY + 11) + R'.locals ≤ R.locals := by decide) (hc : ce + R'.cells ≤ R.cells := by decide) (hs : sl + R'.slots ≤ R.slots := by decide) :
    Go l Z a0 EL n0 R own bytes maxL ret nm Q h sf ce sl pc ls st := by
  subst hp hst
  exact go_call (len := 3) (W := W) hC hsf wc wz hf hl hc hs (fun {p e s m args below meth c T locs Pre Post} X hx hby hml eT hZ ho hK hpre => by
    obtain ⟨cB, kB, q1, q2, q3⟩ := isOf hZ eT E
    exact Stand.virtualBackS X hx ho (mvT hZ w1) (mvT hZ w2) (hnf hZ) (mvT hZ w3) (mvT hZ w4) hy hK q1 q3 (g := mkF m pc ls (as.reverse ++ .ref a :: rest)) rfl (by rw [hml]; exact hsz) (Steps.refl _) hlen rfl (by show 2 * 0 + (rest.map fun v => v.category).sum ≤ W; omega) (Jvm.hb hby hd) hpre) hr
theorem nf_of {y : MethodName} {C : String} (w : (Jvm.Cond.selects C y y).before a0 Z = true) : ∀ {s : State}, Z.Warmed39 s.vm → NotFace s y := fun hZ => notFace_of_selects (args := #[]) (mvT hZ w)
theorem go_initO {idx : Nat} {a : Addr} (hd : decode bytes pc = .ok (.invokespecial idx, 3)) (hp : pc + 3 = pc') (w1 : (Jvm.Cond.methodLink own idx Lib.objectInit).before a0 Z = true) (w2 : (Jvm.Cond.instanceMethod Lib.objectInit).before a0 Z = true) (w3 : (Jvm.Cond.code Lib.objectInit ⟨#[0xb1]⟩ 1 none).before a0 Z = true)
    (hsz : ls.size = maxL) (hf : 1 ≤ R.frames) (W : Nat) (hW : (st.map fun v => v.category).sum = W) (hl : W + 12 ≤ R.locals) (hr : Go l Z a0 EL n0 R own bytes maxL ret nm Q h sf ce sl pc' ls st) :
    Go l Z a0 EL n0 R own bytes maxL ret nm Q h sf ce sl pc ls (.ref a :: st) := by
  subst hp
  exact go_move hr fun {p e s m args below meth c T locs} X hx hby hml eT hZ ho hOld => initO X hx hZ ho w1 w2 w3 eT (g := mkF m pc ls (.ref a :: st)) rfl (by rw [hml]; exact hsz) rfl (Jvm.hb hby hd) hf (W := W) (by show 2 * 0 + (st.map fun v => v.category).sum ≤ W; omega) hl
theorem go_getfield {idx : Nat} {R0 O f d : String} {a : Addr} {v : Value} (hd : decode bytes pc = .ok (.getfield idx, 3)) (hp : pc + 3 = pc') (w : (Jvm.Cond.fieldLink own idx R0 f d).before a0 Z = true) (via : Via Z R0 O f d) (F : Fld Z h a O f d v)
    (hr : Go l Z a0 EL n0 R own bytes maxL ret nm Q h sf ce sl pc' ls (v :: st)) : Go l Z a0 EL n0 R own bytes maxL ret nm Q h sf ce sl pc ls (.ref a :: st) := by
  subst hp
  exact go_move hr fun {p e s m args below meth c T locs} X hx hby hml eT hZ ho hOld => getF X hx hZ ho (host := "") (Or.inl w) via eT F (g := mkF m pc ls (.ref a :: st)) rfl rfl (Jvm.hb hby hd)
theorem go_getstatic {idx : Nat} {R0 O f d : String} {v : Value} (hd : decode bytes pc = .ok (.getstatic idx, 3)) (hp : pc + 3 = pc') (w : (Jvm.Cond.fieldLink own idx R0 f d).before a0 Z = true) (via : Via Z R0 O f d) (F : Sta Z Z.heap O f d v)
    (hr : Go l Z a0 EL n0 R own bytes maxL ret nm Q h sf ce sl pc' ls (v :: st)) : Go l Z a0 EL n0 R own bytes maxL ret nm Q h sf ce sl pc ls st := by
  subst hp
  exact go_move hr fun {p e s m args below meth c T locs} X hx hby hml eT hZ ho hOld => getS X hx hZ ho (host := "") w via eT (F.ext hOld.2) (g := mkF m pc ls st) rfl (Jvm.hb hby hd)
theorem go_checkcast {idx : Nat} {K : String} {a : Addr} (hd : decode bytes pc = .ok (.checkcast idx, 3)) (hp : pc + 3 = pc') (w : (Jvm.Cond.classLink own idx K).before a0 Z = true) (F : Ins Z h a K true)
    (hr : Go l Z a0 EL n0 R own bytes maxL ret nm Q h sf ce sl pc' ls (.ref a :: st)) : Go l Z a0 EL n0 R own bytes maxL ret nm Q h sf ce sl pc ls (.ref a :: st) := by
  subst hp
  exact go_move hr fun {p e s m args below meth c T locs} X hx hby hml eT hZ ho hOld => castY X hx hZ ho w eT F (g := mkF m pc ls (.ref a :: st)) rfl rfl (Jvm.hb hby hd)
theorem go_instY {idx : Nat} {K : String} {a : Addr} (hd : decode bytes pc = .ok (.instanceof idx, 3)) (hp : pc + 3 = pc') (w : (Jvm.Cond.classLink own idx K).before a0 Z = true) (F : Ins Z h a K true)
    (hr : Go l Z a0 EL n0 R own bytes maxL ret nm Q h sf ce sl pc' ls (.int 1 :: st)) : Go l Z a0 EL n0 R own bytes maxL ret nm Q h sf ce sl pc ls (.ref a :: st) := by
  subst hp
  exact go_move hr fun {p e s m args below meth c T locs} X hx hby hml eT hZ ho hOld => instY X hx hZ ho w eT F (g := mkF m pc ls (.ref a :: st)) rfl rfl (Jvm.hb hby hd)
theorem go_ldcI {idx : Nat} {v : Int32} (hd : decode bytes pc = .ok (.ldc idx, 2)) (hp : pc + 2 = pc') (w : (Jvm.Cond.constant own idx v).before a0 Z = true)
    (hr : Go l Z a0 EL n0 R own bytes maxL ret nm Q h sf ce sl pc' ls (.int v :: st)) : Go l Z a0 EL n0 R own bytes maxL ret nm Q h sf ce sl pc ls st := by
  subst hp
  exact go_move hr fun {p e s m args below meth c T locs} X hx hby hml eT hZ ho hOld => ⟨T, X, eT, fun t k => Stand.ldcI X hx ho (mvT hZ w) (g := mkF m pc ls st) rfl (Jvm.hb hby hd) k⟩
theorem go_ldc2J {idx : Nat} {v : Int64} (hd : decode bytes pc = .ok (.ldc2_w idx, 3)) (hp : pc + 3 = pc') (w : (Jvm.Cond.constantLong own idx v).before a0 Z = true)
    (hr : Go l Z a0 EL n0 R own bytes maxL ret nm Q h sf ce sl pc' ls (.long v :: st)) : Go l Z a0 EL n0 R own bytes maxL ret nm Q h sf ce sl pc ls st := by
  subst hp
  exact go_move hr fun {p e s m args below meth c T locs} X hx hby hml eT hZ ho hOld => ⟨T, X, eT, fun t k => Stand.ldc2J X hx ho (mvT hZ w) (g := mkF m pc ls st) rfl (Jvm.hb hby hd) k⟩
/-- ldc of a String constant of EL, read -/
theorem go_ldcT {idx : Nat} {text : String} (n : Nat) (z : Int32) (vs : List Value) (hd : decode bytes pc = .ok (.ldc idx, 2)) (hp : pc + 2 = pc') (w : (Jvm.Cond.stringLink own idx text).before a0 Z = true) (wS : ∀ a ∈ Bundle.stringAtoms, a.before a0 Z = true) (hmem : (own, idx) ∈ EL)
    (ht : (∀ c ∈ text.toList, c.toNat < 256) ∧ text.toList.map (fun c => Value.int (Jvm.Lit.byteI c.toNat.toUInt16)) = vs) (hz : ¬ z < 0) (hl : z.toNatClampNeg = vs.length) (hn : 4 * text.toList.length ≤ n) (hbig : n ≤ 536870912) (hc : ce + 2 ≤ R.cells) (hs : sl + (n + 4) ≤ R.slots)
    (hr : ∀ h' a b k, Ext h h' → Exa Z h' a "java/lang/String" → Fld Z h' a "java/lang/String" "coder" "B" (.int 0) → Fld Z h' a "java/lang/String" "value" "[B" (.ref b) → Arv Z h' b k .byte z vs (.int 0) → (∀ x ∈ sf, x ≠ a ∧ x ≠ b) →
      Go l Z a0 EL n0 R own bytes maxL ret nm Q h' sf (ce + 2) (sl + (n + 4)) pc' ls (.ref a :: st)) : Go l Z a0 EL n0 R own bytes maxL ret nm Q h sf ce sl pc ls st := by
  subst hp
  intro p e s m args below meth c T W'
  obtain ⟨⟨hx, hby, hml, hret, hnm, hlk, hEL, hOld⟩, vm0, locs, k0, X, eT, hS, hk, hZ, hown, N, C, O⟩ := W'
  obtain ⟨a, T', h', k1, b, k, X', e', E, hS', hk', hZ', hown', f1, f2, f3, f4, -, -, ch, -, hne, st'⟩ := ldcCH X hx hZ hown w wS eT hS hk hEL hmem C.1 ht hz hl (g := mkF m pc ls st) rfl (Jvm.hb hby hd) hn hbig hc hs
  have O' := O.mv ch
  obtain ⟨t, o, h1, h2⟩ := hr h' a b k E f1 f2 f3 f4 (fun x q => hne x (O' x q).2.2) p e s m args below meth c T' ⟨⟨hx, hby, hml, hret, hnm, hlk, hEL, hOld.ext E⟩, T'.vm, locs, k1, X', e', hS', hk', hZ', hown', N, C.trans ch, O'⟩
  exact ⟨t, o, st' _ h1, h2⟩
theorem go_new {idx n : Nat} {C : String} (hd : decode bytes pc = .ok (.new idx, 3)) (hp : pc + 3 = pc') (w : (Jvm.Cond.classLink own idx C).before a0 Z = true) (wi : (Jvm.Cond.instantiable C n).before a0 Z = true) (wz : (Jvm.Cond.initialized C).before a0 Z = true) (hc : ce + 1 ≤ R.cells) (hs : sl + n ≤ R.slots)
    (hr : ∀ h' x, x = h.size → Ext h h' → (Exa Z h' x C ∧ ∀ {O f d : String} {ty : FieldType}, Laid Z a0 C O f d → parseFieldDescriptor d = some ty → Fld Z h' x O f d (defaultValue ty)) →
      Go l Z a0 EL n0 R own bytes maxL ret nm Q h' (x :: sf) (ce + 1) (sl + n) pc' ls (.ref x :: st)) : Go l Z a0 EL n0 R own bytes maxL ret nm Q h sf ce sl pc ls st := by
  subst hp
  refine go_make (P := fun h' x => Exa Z h' x C ∧ ∀ {O f d : String} {ty : FieldType}, Laid Z a0 C O f d → parseFieldDescriptor d = some ty → Fld Z h' x O f d (defaultValue ty)) (fun {p e s m args below meth c T locs} X hx hby hml eT hZ ho => ?_) hr
  obtain ⟨T', h', X', e', E, A, D, -, st'⟩ := newO X hx hZ ho w wi wz eT (g := mkF m pc ls st) rfl (Jvm.hb hby hd) hc hs
  exact ⟨T', h', X', e', E, A.lt, ⟨A, D⟩, st'⟩
theorem go_newarr {aty : ArrayType} {n : Int32} {ty : FieldType} {ad : String} (cap : Nat) (hd : decode bytes pc = .ok (.newarray aty, 2)) (hp : pc + 2 = pc') (hty : newarray.typeOf aty = ty) (w : (Jvm.Cond.arrayClass ty).before a0 Z = true) (hn : ¬ n < 0) (hcap : n.toNatClampNeg ≤ cap) (hb : cap * 8 ≤ 536870912) (had : "[" ++ ty.toString = ad) (hc : ce + 1 ≤ R.cells) (hs : sl + cap ≤ R.slots)
    (hr : ∀ h' x, x = h.size → Ext h h' → (Exa Z h' x ad ∧ ∃ k, Arv Z h' x k ty n [] (defaultValue ty)) → Go l Z a0 EL n0 R own bytes maxL ret nm Q h' (x :: sf) (ce + 1) (sl + cap) pc' ls (.ref x :: st)) :
    Go l Z a0 EL n0 R own bytes maxL ret nm Q h sf ce sl pc ls (.int n :: st) := by
  subst hp hty
  refine go_make (P := fun h' x => Exa Z h' x ad ∧ ∃ k, Arv Z h' x k (newarray.typeOf aty) n [] (defaultValue (newarray.typeOf aty))) (fun {p e s m args below meth c T locs} X hx hby hml eT hZ ho => ?_) hr
  obtain ⟨T', h', cA, X', e', E, A, F, st'⟩ := newPE X hx hZ w eT (g := mkF m pc ls (.int n :: st)) rfl (Jvm.hb hby hd) rfl hn hcap hb hc hs had
  exact ⟨T', h', X', e', E, A.lt, ⟨F, cA, Arv.new A hn⟩, st'⟩
theorem go_putfield {idx kk : Nat} {R0 O f d C : String} {a : Addr} {v old : Value} {ty : FieldType} (hd : decode bytes pc = .ok (.putfield idx, 3)) (hp : pc + 3 = pc') (w : (Jvm.Cond.fieldLink own idx R0 f d).before a0 Z = true) (via : Via Z R0 O f d) (F : Fld Z h a O f d old) (E : Exa Z h a C)
    (L : (Jvm.Cond.lays C O f d).before a0 Z = true ∨ ((Jvm.Cond.laysFinal C O f d).before a0 Z = true ∧ own = O ∧ nm = "<init>")) (wi : (Jvm.Cond.instantiable C kk).before a0 Z = true) (hty : parseFieldDescriptor d = some ty) (hn : narrow ty v = v) (hfit : fits ty v = true) (hm : a ∈ sf)
    (hr : ∀ h', Wr h h' a (RoadKit.slotOf Z O f d) v → Go l Z a0 EL n0 R own bytes maxL ret nm Q h' sf ce sl pc' ls st) : Go l Z a0 EL n0 R own bytes maxL ret nm Q h sf ce sl pc ls (v :: .ref a :: st) := by
  subst hp
  exact go_write hm (fun {p e s m args below meth c T locs} X hx hby hnm eT hZ ho => putF X hx hZ ho (host := "") (Or.inl w) via eT F E (L.imp id fun q => ⟨q.1, q.2.1, by rw [hnm]; exact q.2.2⟩) wi hty hn hfit (g := mkF m pc ls (v :: .ref a :: st)) rfl rfl (Jvm.hb hby hd)) hr
/-- a char, byte, int or boolean into an array at hand -/
theorem go_castore {a : Addr} {k : ClassId} {z j v : Int32} {vs : List Value} {dv : Value} (i : Nat) (v' : Int32) (hd : decode bytes pc = .ok (.castore, 1)) (hp : pc + 1 = pc') (hnv : nar .char v = v') (F : Arv Z h a k .char z vs dv) (hj : ¬ j < 0 ∧ j < z) (hi : j.toNatClampNeg = i) (hl : i < vs.length) (hm : a ∈ sf)
    (hr : ∀ h', Wr h h' a j.toNatClampNeg (.int v') → Arv Z h' a k .char z (vs.set i (.int v')) dv → Go l Z a0 EL n0 R own bytes maxL ret nm Q h' sf ce sl pc' ls st) : Go l Z a0 EL n0 R own bytes maxL ret nm Q h sf ce sl pc ls (.int v :: .int j :: .ref a :: st) := by
  subst hp hnv
  obtain ⟨cl, A, q1, S, q3, H, G⟩ := F
  exact go_write hm (fun {p e s m args below meth c T locs} X hx hby hnm eT hZ ho => stC X hx hZ eT A (inb_of S hj) (g := mkF m pc ls (.int v :: .int j :: .ref a :: st)) rfl rfl (Jvm.hb hby hd)) (fun h' W => hr h' W (Arv.set A q1 S q3 H G (fits_nar_char v) W i hi hl))
theorem go_bastore {a : Addr} {k : ClassId} {z j v : Int32} {vs : List Value} {dv : Value} (i : Nat) (hd : decode bytes pc = .ok (.bastore, 1)) (hp : pc + 1 = pc') (F : Arv Z h a k .byte z vs dv) (hj : ¬ j < 0 ∧ j < z) (hi : j.toNatClampNeg = i) (hl : i < vs.length) (hm : a ∈ sf)
    (hr : ∀ h', Wr h h' a j.toNatClampNeg (.int v.toInt8.toInt32) → Arv Z h' a k .byte z (vs.set i (.int v.toInt8.toInt32)) dv → Go l Z a0 EL n0 R own bytes maxL ret nm Q h' sf ce sl pc' ls st) : Go l Z a0 EL n0 R own bytes maxL ret nm Q h sf ce sl pc ls (.int v :: .int j :: .ref a :: st) := by
  subst hp
  obtain ⟨cl, A, q1, S, q3, H, G⟩ := F
  exact go_write hm (fun {p e s m args below meth c T locs} X hx hby hnm eT hZ ho => stB X hx hZ eT A (inb_of S hj) (g := mkF m pc ls (.int v :: .int j :: .ref a :: st)) rfl rfl (Jvm.hb hby hd)) (fun h' W => hr h' W (Arv.set A q1 S q3 H G (fits_nar_byte v) W i hi hl))
theorem go_iastore {a : Addr} {k : ClassId} {z j v : Int32} {vs : List Value} {dv : Value} (i : Nat) (hd : decode bytes pc = .ok (.iastore, 1)) (hp : pc + 1 = pc') (F : Arv Z h a k .int z vs dv) (hj : ¬ j < 0 ∧ j < z) (hi : j.toNatClampNeg = i) (hl : i < vs.length) (hm : a ∈ sf)
    (hr : ∀ h', Wr h h' a j.toNatClampNeg (.int v) → Arv Z h' a k .int z (vs.set i (.int v)) dv → Go l Z a0 EL n0 R own bytes maxL ret nm Q h' sf ce sl pc' ls st) : Go l Z a0 EL n0 R own bytes maxL ret nm Q h sf ce sl pc ls (.int v :: .int j :: .ref a :: st) := by
  subst hp
  obtain ⟨cl, A, q1, S, q3, H, G⟩ := F
  exact go_write hm (fun {p e s m args below meth c T locs} X hx hby hnm eT hZ ho => stI X hx hZ eT A (inb_of S hj) (g := mkF m pc ls (.int v :: .int j :: .ref a :: st)) rfl rfl (Jvm.hb hby hd)) (fun h' W => hr h' W (Arv.set A q1 S q3 H G rfl W i hi hl))
theorem go_alen {a : Addr} {k : ClassId} {ty : FieldType} {z : Int32} {vs : List Value} {dv : Value} (hd : decode bytes pc = .ok (.arraylength, 1)) (hp : pc + 1 = pc') (F : Arv Z h a k ty z vs dv)
    (hr : Go l Z a0 EL n0 R own bytes maxL ret nm Q h sf ce sl pc' ls (.int z :: st)) : Go l Z a0 EL n0 R own bytes maxL ret nm Q h sf ce sl pc ls (.ref a :: st) := by
  subst hp
  obtain ⟨cl, A, q1, S, q3, H, G⟩ := F
  refine go_move hr fun {p e s m args below meth c T locs} X hx hby hml eT hZ ho hOld => ⟨T, X, eT, fun t kk => ?_⟩
  refine X.arraylength hx (by rw [eT]; exact A.1) (State.isArrayOf_alike hZ.alike A.2.1) (g := mkF m pc ls (.ref a :: st)) rfl rfl (Jvm.hb hby hd) t ?_
  rw [len_of S q3]
  exact kk
theorem go_caload {a : Addr} {k : ClassId} {z j : Int32} {vs : List Value} {dv v : Value} (i : Nat) (hd : decode bytes pc = .ok (.caload, 1)) (hp : pc + 1 = pc') (F : Arv Z h a k .char z vs dv) (hj : ¬ j < 0 ∧ j < z) (hi : j.toNatClampNeg = i) (hv : vs.getD i dv = v)
    (hr : Go l Z a0 EL n0 R own bytes maxL ret nm Q h sf ce sl pc' ls (v :: st)) : Go l Z a0 EL n0 R own bytes maxL ret nm Q h sf ce sl pc ls (.int j :: .ref a :: st) := by
  subst hp
  obtain ⟨cl, A, q1, S, q3, H, G⟩ := F
  exact go_move hr fun {p e s m args below meth c T locs} X hx hby hml eT hZ ho hOld => ⟨T, X, eT, fun t kk =>
    X.caload hx (by rw [eT]; exact A.1) (State.isArrayOf_alike hZ.alike A.2.1) A.2.2 (inb_of S hj) (H.at (inb_of S hj) (by rw [hi]; exact hv)) (g := mkF m pc ls (.int j :: .ref a :: st)) rfl rfl (Jvm.hb hby hd) t kk⟩
theorem go_iaload {a : Addr} {k : ClassId} {z j : Int32} {vs : List Value} {dv v : Value} (i : Nat) (hd : decode bytes pc = .ok (.iaload, 1)) (hp : pc + 1 = pc') (F : Arv Z h a k .int z vs dv) (hj : ¬ j < 0 ∧ j < z) (hi : j.toNatClampNeg = i) (hv : vs.getD i dv = v)
    (hr : Go l Z a0 EL n0 R own bytes maxL ret nm Q h sf ce sl pc' ls (v :: st)) : Go l Z a0 EL n0 R own bytes maxL ret nm Q h sf ce sl pc ls (.int j :: .ref a :: st) := by
  subst hp
  obtain ⟨cl, A, q1, S, q3, H, G⟩ := F
  exact go_move hr fun {p e s m args below meth c T locs} X hx hby hml eT hZ ho hOld => ⟨T, X, eT, fun t kk =>
    X.iaload hx (by rw [eT]; exact A.1) (State.isArrayOf_alike hZ.alike A.2.1) A.2.2 (inb_of S hj) (H.at (inb_of S hj) (by rw [hi]; exact hv)) (g := mkF m pc ls (.int j :: .ref a :: st)) rfl rfl (Jvm.hb hby hd) t kk⟩
theorem go_baload {a : Addr} {k : ClassId} {z j : Int32} {vs : List Value} {dv v : Value} (i : Nat) (hd : decode bytes pc = .ok (.baload, 1)) (hp : pc + 1 = pc') (F : Arv Z h a k .byte z vs dv) (hj : ¬ j < 0 ∧ j < z) (hi : j.toNatClampNeg = i) (hv : vs.getD i dv = v)
    (hr : Go l Z a0 EL n0 R own bytes maxL ret nm Q h sf ce sl pc' ls (v :: st)) : Go l Z a0 EL n0 R own bytes maxL ret nm Q h sf ce sl pc ls (.int j :: .ref a :: st) := by
  subst hp
  obtain ⟨cl, A, q1, S, q3, H, G⟩ := F
  exact go_move hr fun {p e s m args below meth c T locs} X hx hby hml eT hZ ho hOld => ⟨T, X, eT, fun t kk =>
    X.baloadBytes hx (by rw [eT]; exact A.1) (State.isArrayOf_alike hZ.alike A.2.1) A.2.2 (inb_of S hj) (H.at (inb_of S hj) (by rw [hi]; exact hv)) (g := mkF m pc ls (.int j :: .ref a :: st)) rfl rfl (Jvm.hb hby hd) t kk⟩
/-- returns -/
theorem go_ret (hd : decode bytes pc = .ok (.return_, 1)) (sf' : List Addr) (hret : ret = none) (hc : ce ≤ R.cells) (hs : sl ≤ R.slots) (hsub : ∀ x ∈ sf', x ∈ sf) (hq : Q none h sf') : Go l Z a0 EL n0 R own bytes maxL ret nm Q h sf ce sl pc ls [] :=
  go_out (fun _ => rfl) hc hs hsub (fun X hx hby hr hl => X.returnOut hx (hr.trans hret) (Jvm.hb hby hd) hl) hq
theorem go_retN {z : Int32} {t : FieldType} (hd : decode bytes pc = .ok (.ireturn, 1)) (sf' : List Addr) (hret : ret = some t) (ht : t = .boolean ∨ t = .byte ∨ t = .char ∨ t = .short) (hc : ce ≤ R.cells) (hs : sl ≤ R.slots) (hsub : ∀ x ∈ sf', x ∈ sf) (hq : Q (some (.int (nar t z))) h sf') : Go l Z a0 EL n0 R own bytes maxL ret nm Q h sf ce sl pc ls (.int z :: st) :=
  go_out (fun q => by rw [hret] at q; cases q) hc hs hsub (fun X hx hby hr hl => retN X hx (t := t) (hr.trans hret) ht (Jvm.hb hby hd) hl) hq
theorem go_retI {z : Int32} (hd : decode bytes pc = .ok (.ireturn, 1)) (sf' : List Addr) (hret : ret = some .int) (hc : ce ≤ R.cells) (hs : sl ≤ R.slots) (hsub : ∀ x ∈ sf', x ∈ sf) (hq : Q (some (.int z)) h sf') : Go l Z a0 EL n0 R own bytes maxL ret nm Q h sf ce sl pc ls (.int z :: st) :=
  go_out (fun q => by rw [hret] at q; cases q) hc hs hsub (fun X hx hby hr hl => retOut X hx (hr.trans hret) rfl (Or.inl ⟨rfl, Or.inl rfl, _, rfl⟩) (Jvm.hb hby hd) hl) hq
theorem go_retA {v : Value} {t : FieldType} (hd : decode bytes pc = .ok (.areturn, 1)) (sf' : List Addr) (hret : ret = some t) (ht : t.isReference = true) (hv : v.isRef = true) (hn : narrow t v = v) (hc : ce ≤ R.cells) (hs : sl ≤ R.slots) (hsub : ∀ x ∈ sf', x ∈ sf) (hq : Q (some v) h sf') : Go l Z a0 EL n0 R own bytes maxL ret nm Q h sf ce sl pc ls (v :: st) :=
  go_out (fun q => by rw [hret] at q; cases q) hc hs hsub (fun X hx hby hr hl => retOut X hx (hr.trans hret) hn (Or.inr (Or.inr (Or.inr (Or.inr ⟨rfl, ht, hv⟩)))) (Jvm.hb hby hd) hl) hq
theorem ext_of_keep {h0 h1 : Heap} (K : Keep h0 h1 []) : Ext h0 h1 := ⟨K.1, fun a c q => K.2.1 a c q nin0⟩
/-- more instructions: arrays of references, super calls, words from other words -/
theorem declares_of {y : MethodName} {bY : ByteArray} {mY : Nat} {rY : Option FieldType} (wi : (Jvm.Cond.instanceMethod y).before a0 Z = true) (wc : (Jvm.Cond.code y bY mY rY).before a0 Z = true) : (Jvm.Cond.declares y).before a0 Z = true := by
  obtain ⟨mk, me, h1, h2, h3, -⟩ := Cond.instanceMethod_spec wi
  obtain ⟨me', c', g1, -, -, -, -, -, -, g2⟩ := Cond.code_spec h1 wc
  cases h2.symm.trans g1
  simp [Cond.before, Cond.holds, Cond.value, h1, h2, h3, g2]
/-- a top of the stack, said otherwise -/
theorem go_eq {x y : Int32} (e : x = y) (hr : Go l Z a0 EL n0 R own bytes maxL ret nm Q h sf ce sl pc ls (.int y :: st)) : Go l Z a0 EL n0 R own bytes maxL ret nm Q h sf ce sl pc ls (.int x :: st) := by subst e; exact hr
theorem go_eqL {x y : Int64} (e : x = y) (hr : Go l Z a0 EL n0 R own bytes maxL ret nm Q h sf ce sl pc ls (.long y :: st)) : Go l Z a0 EL n0 R own bytes maxL ret nm Q h sf ce sl pc ls (.long x :: st) := by subst e; exact hr
theorem go_iincV {k : Nat} {cst : Int} {x : Int32} (v z : Int32) (hd : decode bytes pc = .ok (.iinc k cst, 3)) (hp : pc + 3 = pc') (ls' : Array Slot) (hv : Int32.ofInt cst = v) (hl : ls[k]? = some (.val (.int x))) (hz : x + v = z) (hl' : storeLocals ls k (.int z) = some ls') (hr : Go l Z a0 EL n0 R own bytes maxL ret nm Q h sf ce sl pc' ls' st) : Go l Z a0 EL n0 R own bytes maxL ret nm Q h sf ce sl pc ls st := by
  subst hz; exact go_iinc v hd hp ls' hv hl hl' hr
theorem go_idiv {x y : Int32} (hd : decode bytes pc = .ok (.idiv, 1)) (hp : pc + 1 = pc') (hy : y ≠ 0) (hr : Go l Z a0 EL n0 R own bytes maxL ret nm Q h sf ce sl pc' ls (.int (x / y) :: st)) : Go l Z a0 EL n0 R own bytes maxL ret nm Q h sf ce sl pc ls (.int y :: .int x :: st) := by
  subst hp
  exact go_step hr fun A hx hb kk => XS.idiv A hx rfl (Jvm.hb hb hd) rfl hy kk
theorem go_ldiv {x y : Int64} (hd : decode bytes pc = .ok (.ldiv, 1)) (hp : pc + 1 = pc') (hy : y ≠ 0) (hr : Go l Z a0 EL n0 R own bytes maxL ret nm Q h sf ce sl pc' ls (.long (x / y) :: st)) : Go l Z a0 EL n0 R own bytes maxL ret nm Q h sf ce sl pc ls (.long y :: .long x :: st) := by
  subst hp
  exact go_step hr fun A hx hb kk => XT.ldiv A hx rfl (Jvm.hb hb hd) rfl hy kk
theorem go_ladd {x y : Int64} (hd : decode bytes pc = .ok (.ladd, 1)) (hp : pc + 1 = pc') (hr : Go l Z a0 EL n0 R own bytes maxL ret nm Q h sf ce sl pc' ls (.long (x + y) :: st)) : Go l Z a0 EL n0 R own bytes maxL ret nm Q h sf ce sl pc ls (.long y :: .long x :: st) := by
  subst hp
  exact go_step hr fun A hx hb kk => XT.ladd A hx rfl (Jvm.hb hb hd) rfl kk
theorem go_lmul {x y : Int64} (hd : decode bytes pc = .ok (.lmul, 1)) (hp : pc + 1 = pc') (hr : Go l Z a0 EL n0 R own bytes maxL ret nm Q h sf ce sl pc' ls (.long (x * y) :: st)) : Go l Z a0 EL n0 R own bytes maxL ret nm Q h sf ce sl pc ls (.long y :: .long x :: st) := by
  subst hp
  exact go_step hr fun A hx hb kk => XT.lmul A hx rfl (Jvm.hb hb hd) rfl kk
theorem go_lcmp {x y : Int64} (hd : decode bytes pc = .ok (.lcmp, 1)) (hp : pc + 1 = pc') (hr : Go l Z a0 EL n0 R own bytes maxL ret nm Q h sf ce sl pc' ls (.int (XT.cmpL x y) :: st)) : Go l Z a0 EL n0 R own bytes maxL ret nm Q h sf ce sl pc ls (.long y :: .long x :: st) := by
  subst hp
  exact go_step hr fun A hx hb kk => XT.lcmp A hx rfl (Jvm.hb hb hd) rfl kk
theorem go_bastoreV {a : Addr} {k : ClassId} {z j v : Int32} {vs : List Value} {dv : Value} (i : Nat) (nv : Int32) (hd : decode bytes pc = .ok (.bastore, 1)) (hp : pc + 1 = pc') (hv : v.toInt8.toInt32 = nv) (F : Arv Z h a k .byte z vs dv) (hj : ¬ j < 0 ∧ j < z) (hi : j.toNatClampNeg = i) (hl : i < vs.length) (hm : a ∈ sf)
    (hr : ∀ h', Wr h h' a j.toNatClampNeg (.int nv) → Arv Z h' a k .byte z (vs.set i (.int nv)) dv → Go l Z a0 EL n0 R own bytes maxL ret nm Q h' sf ce sl pc' ls st) : Go l Z a0 EL n0 R own bytes maxL ret nm Q h sf ce sl pc ls (.int v :: .int j :: .ref a :: st) := by
  subst hv; exact go_bastore i hd hp F hj hi hl hm hr
/-- an array's values are of her component's kind -/
theorem fitC_of {a : Addr} {cl : Cell} {ty : FieldType} {vs : List Value} {dv : Value} (A : Arr Z h a cl ty) (H : Has cl vs dv) (G : ∀ i, i < cl.slots.size → fits ty (vs.getD i dv) = true) : FitC Z cl := fun i v hv => by
  have hi : i < cl.slots.size := (Array.getElem?_eq_some_iff.mp hv).1
  have e1 : v = vs.getD i dv := Option.some.inj (hv.symm.trans (H i hi))
  have q := G i hi
  obtain ⟨-, k, hk, comp, hkind⟩ := A.2.1
  rw [← e1] at q
  simp [State.fitsSlot, State.slotType?, hk, hkind, q]
/-- clone() of an array -/
theorem go_clone {a : Addr} {k : ClassId} {ty : FieldType} {z : Int32} {vs : List Value} {dv : Value} {ad : String} {idx : Nat} (cap W : Nat) (hd : decode bytes pc = .ok (.invokevirtual idx, 3)) (hp : pc + 3 = pc')
    (w1 : (Jvm.Cond.methodLink own idx ⟨ad, "clone", "()Ljava/lang/Object;"⟩).before a0 Z = true) (w2 : (Jvm.Cond.sameMethod ad "java/lang/Object" "clone" "()Ljava/lang/Object;").before a0 Z = true) (w3 : (Jvm.Cond.native ⟨"java/lang/Object", "clone", "()Ljava/lang/Object;"⟩).before a0 Z = true) (w4 : (Jvm.Cond.instanceMethod ⟨"java/lang/Object", "clone", "()Ljava/lang/Object;"⟩).before a0 Z = true)
    (w5 : (Jvm.Cond.selects ad ⟨ad, "clone", "()Ljava/lang/Object;"⟩ ⟨"java/lang/Object", "clone", "()Ljava/lang/Object;"⟩).before a0 Z = true) (w6 : (Jvm.Cond.castable ad "java/lang/Cloneable").before a0 Z = true)
    (A : Arv Z h a k ty z vs dv) (E : Exa Z h a ad) (hcap : z.toNatClampNeg ≤ cap) (hsz : ls.size = maxL) (hW : (st.map fun v => v.category).sum = W) (hf : 1 ≤ R.frames) (hl : W + 14 ≤ R.locals) (hc : ce + 1 ≤ R.cells) (hs : sl + cap ≤ R.slots)
    (hr : ∀ h' x, x = h.size → Ext h h' → (Exa Z h' x ad ∧ Arv Z h' x k ty z vs dv) → Go l Z a0 EL n0 R own bytes maxL ret nm Q h' (x :: sf) (ce + 1) (sl + cap) pc' ls (.ref x :: st)) : Go l Z a0 EL n0 R own bytes maxL ret nm Q h sf ce sl pc ls (.ref a :: st) := by
  subst hp
  refine go_make (P := fun h' x => Exa Z h' x ad ∧ Arv Z h' x k ty z vs dv) (fun {p e s m args below meth c T locs} X hx hby hml eT hZ ho => ?_) hr
  obtain ⟨cl, A1, e1, e2, e3, H, G⟩ := A
  obtain ⟨T', h', X', e', E', A', Ex', st'⟩ := cloneA X hx hZ ho w1 w2 w3 w4 w5 w6 eT A1 E (fitC_of A1 H G) (g := mkF m pc ls (.ref a :: st)) rfl (by rw [hml]; exact hsz) rfl (Jvm.hb hby hd) hf (W := W) (by show 2 * 0 + (st.map fun v => v.category).sum ≤ W; omega) hl (by rw [e2]; exact hcap) hc hs
  exact ⟨T', h', X', e', E', Ex'.lt, ⟨Ex', ⟨_, A', e1, e2, e3, H, G⟩⟩, st'⟩
/-- the array of a booked literal is a byte[] exactly -/
theorem exb {vm : Vm} {a b : Addr} {k : ClassId} {z : Int32} {vs : List Value} {dv : Value} (hal : Z.vm.Alike vm) (hne : ∀ x, Safe Z EL vm h x → x ≠ a ∧ x ≠ b) (A : Arv Z h b k .byte z vs dv) : Exa Z h b "[B" := by
  have hb : Bk Z EL vm h b := Classical.byContradiction fun q => (hne b q).2 rfl
  obtain ⟨p, -, u, a', -, q, -, F, e⟩ := hb
  obtain ⟨c, ⟨h1, ⟨hst, kk, hkk, comp, hkind⟩, -⟩, -⟩ := A
  obtain ⟨kk', hk', ek⟩ := hal.2.2 _ _ hkk
  rcases e with rfl | rfl
  · exfalso
    have e1 : c = q.sC := Option.some.inj (h1.symm.trans F.ha)
    obtain ⟨cS, ⟨-, -, hcS⟩, ⟨kS, k1, k2, -⟩, -, -⟩ := F
    have k1 : vm.classes[cS]? = some kS := k1
    rw [e1, hcS] at hk'
    have e2 : kk' = kS := Option.some.inj (hk'.symm.trans k1)
    rw [← e2, ek] at k2
    have k3 : kk.kind = .ordinary := k2
    rw [hkind] at k3; cases k3
  · have e1 : c = q.SA := Option.some.inj (h1.symm.trans F.hd)
    obtain ⟨cS, -, -, hB, -⟩ := F
    have hB : vm.findClass "[B" = some q.SA.cls := hB
    refine ⟨c, kk, h1, by rw [← hal.findClass, e1]; exact hB, hkk, ?_, fun ho => by rw [hkind] at ho; cases ho⟩
    cases hq : c.vm <;> first | rfl | exact absurd hq (hst _)
/-- ldc of a String constant of EL, read; its array's class too -/
theorem go_ldcB {idx : Nat} {text : String} (n : Nat) (z : Int32) (vs : List Value) (hd : decode bytes pc = .ok (.ldc idx, 2)) (hp : pc + 2 = pc') (w : (Jvm.Cond.stringLink own idx text).before a0 Z = true) (wS : ∀ a ∈ Bundle.stringAtoms, a.before a0 Z = true) (hmem : (own, idx) ∈ EL)
    (ht : (∀ c ∈ text.toList, c.toNat < 256) ∧ text.toList.map (fun c => Value.int (Jvm.Lit.byteI c.toNat.toUInt16)) = vs) (hz : ¬ z < 0) (hl : z.toNatClampNeg = vs.length) (hn : 4 * text.toList.length ≤ n) (hbig : n ≤ 536870912) (hc : ce + 2 ≤ R.cells) (hs : sl + (n + 4) ≤ R.slots)
    (hr : ∀ h' a b k, Ext h h' → Exa Z h' a "java/lang/String" → Fld Z h' a "java/lang/String" "coder" "B" (.int 0) → Fld Z h' a "java/lang/String" "value" "[B" (.ref b) → Arv Z h' b k .byte z vs (.int 0) → Exa Z h' b "[B" → (∀ x ∈ sf, x ≠ a ∧ x ≠ b) →
      Go l Z a0 EL n0 R own bytes maxL ret nm Q h' sf (ce + 2) (sl + (n + 4)) pc' ls (.ref a :: st)) : Go l Z a0 EL n0 R own bytes maxL ret nm Q h sf ce sl pc ls st := by
  subst hp
  intro p e s m args below meth c T W'
  obtain ⟨⟨hx, hby, hml, hret, hnm, hlk, hEL, hOld⟩, vm0, locs, k0, X, eT, hS, hk, hZ, hown, N, C, O⟩ := W'
  obtain ⟨a, T', h', k1, b, k, X', e', E, hS', hk', hZ', hown', f1, f2, f3, f4, -, -, ch, -, hne, st'⟩ := ldcCH X hx hZ hown w wS eT hS hk hEL hmem C.1 ht hz hl (g := mkF m pc ls st) rfl (Jvm.hb hby hd) hn hbig hc hs
  have O' := O.mv ch
  have hal : Z.vm.Alike T'.vm := (show Z.Warmed39 T'.vm from hZ').alike
  obtain ⟨t, o, h1, h2⟩ := hr h' a b k E f1 f2 f3 f4 (exb hal hne f4) (fun x q => hne x (O' x q).2.2) p e s m args below meth c T' ⟨⟨hx, hby, hml, hret, hnm, hlk, hEL, hOld.ext E⟩, T'.vm, locs, k1, X', e', hS', hk', hZ', hown', N, C.trans ch, O'⟩
  exact ⟨t, o, st' _ h1, h2⟩
/-- a body with an exception table, whose walk throws nothing: her contract -/
def ConH (l : Launch) (Z : State) (EL : List (String × Nat)) (n0 : Nat) (y : MethodName) (bytes : ByteArray) (maxL : Nat) (ret : Option FieldType) (hs : List (Nat × Nat × Nat × Nat)) (R : Room) (as : Array Value) (h : Heap) (sf : List Addr) (Q : Option Value → Heap → List Addr → Prop) : Prop :=
  MetFree l y (head1 [Jvm.Cond.codeWith y bytes maxL ret hs] R) (fun a U => a = as ∧ Z.Warmed39 U.vm ∧ U.heap = h ∧ CHv Z EL U.vm h ∧ OwnL Z EL n0 U.vm h sf ∧ Old Z n0 h) (fun _ _ _ _ _ => True)
    (fun _ U o U' => ∃ v L sf', o = .returned v ∧ Q v U'.heap sf' ∧ Fr n0 L ∧ CHr Z EL U.vm U.heap U'.vm U'.heap ∧ OwnL Z EL n0 U'.vm U'.heap sf' ∧ Old Z n0 U'.heap ∧ ReturnedEndW U o U' L R.cells R.slots)
theorem con_ofH {y : MethodName} {hs : List (Nat × Nat × Nat × Nat)} {as : Array Value} (hpl : plainFor y = true) (hEW : EW Z a0 EL) (hE : ∀ m, entryFrame m as maxL = mkF m 0 ls [])
    (hr : Go l Z a0 EL n0 R y.cls bytes maxL ret y.name Q h sf 0 0 0 ls []) : ConH l Z EL n0 y bytes maxL ret hs R as h sf Q := by
  refine MetFree.of_bodySF hpl hisWith ?_
  intro p e s m args below meth c s₁ Bd hml0 hP hK
  obtain ⟨rfl, hZ, hh, hC, hO, hOld⟩ := hP
  have X0 : Stand p l e R s m args below meth c s₁ [] 0 0 := Stand.of_body Bd
  have e0 : s₁.heap = h := by rw [← hh, Bd.state]; rfl
  subst hh
  obtain ⟨t, o, h1, h2⟩ := hr p e s m args below meth c s₁ ⟨⟨Bd.exec, Bd.bytes, hml0, Bd.returns, (name_of_methodNamed Bd.named Bd.method).1, Bd.notSynchronized, hEW, hOld⟩, s.vm, [], 0, X0, e0, (State.WarmedH.refl s).since 0, Nat.zero_le _, hZ, findClass_of_methodNamed Bd.named, Fr.nil n0, CHr.refl hC, hO⟩
  exact ⟨t, o, castTop (hE m) h1, h2⟩
/-- what a call of such a body leaves behind, for the caller's stand -/
theorem back_ofH {p : Program} {e : Env} {s : State} {args : Array Value} {below : List Frame} {vm0 : Vm} {R' : Room} {y : MethodName} {hs : List (Nat × Nat × Nat × Nat)} {as : Array Value} {len W : Nat}
    (hM : ConH l Z EL n0 y bytes maxL ret hs R' as h sf Q) (hZ : Z.Warmed39 vm0) (wc : (Jvm.Cond.codeWith y bytes maxL ret hs).before a0 Z = true) (wz : (Jvm.Cond.initialized y.cls).before a0 Z = true) (hf : R'.frames + 1 ≤ R.frames) (hl : W + (maxL + 11) + R'.locals ≤ R.locals) (hEL : EW Z a0 EL) (H : CHv Z EL vm0 h) (O : OwnL Z EL n0 vm0 h sf) (hOld : Old Z n0 h) :
    BackS l R p e below (s.setVm vm0) args y len W (fun A a => a = as ∧ A.U.heap = h ∧ A.cells + R'.cells ≤ R.cells ∧ A.slots + R'.slots ≤ R.slots)
      (fun A _ v B => ∃ L sf', Q v B.U.heap sf' ∧ Fr n0 L ∧ OwnL Z EL n0 B.U.vm B.U.heap sf' ∧ Old Z n0 B.U.heap ∧ B.locs = A.locs ++ L ∧ B.cells = A.cells + R'.cells ∧ B.slots = A.slots + R'.slots ∧ CHr Z EL vm0 h B.U.vm B.U.heap) := by
  intro m meth c A g ig mk a Y hg hsize hdg hW hn hp
  obtain ⟨U, Ls, c0, s0⟩ := A
  obtain ⟨rfl, hp2, hp3, hp4⟩ := hp
  dsimp only [Free.Pt.U, Free.Pt.locs, Free.Pt.cells, Free.Pt.slots] at Y hn hp2 hp3 hp4 ⊢
  have hU : Z.Warmed39 U.vm := wtrans (s := s.setVm vm0) hZ Y.warmed
  have cw : (Jvm.Cond.codeWith y bytes maxL ret hs).before a U = true := RoadKit.mv hU wc
  obtain ⟨mY, methY, cY, nY, hmY, hcY, -, hlY, -⟩ := Cond.codeWith_spec cw
  cases hn.symm.trans nY
  obtain ⟨kY, hkY, -⟩ := className_of_methodNamed hn
  have ini : kY.init = .initialized := Cond.initialized_spec (findClass_of_methodNamed hn) hkY (RoadKit.mv (args := a) hU wz)
  subst hg
  have at0 : At U g.method c below := Y.here
  have app : (head1 [Jvm.Cond.codeWith y bytes maxL ret hs] R').appliesLoose y e.platform (U.calling g mk a) = true :=
    Spec.appliesLoose_calling (g := g) at0 hdg hn hkY ini (Y.room_calling (g := g) (R' := R') hsize hmY hcY hf (by rw [hlY]; omega) hp3 hp4)
      (by show (Jvm.Cond.and _ .tt).before a U = true; rw [Cond.before_and, cw]; rfl)
  have C0 := CHv.at Y hZ hEL H
  obtain ⟨mid, hmid⟩ := at0.above
  have ft := State.frames_setTop' g at0.top
  obtain ⟨o, s₂, go, -, fin, hq⟩ := Steps.callFree hM p Y.admits Y.cas Y.clock (acts := []) (by rw [ft, hmid]; rfl : (U.setTop g).frames = (.java g :: mid) ++ below) app
    ⟨rfl, hU, hp2, C0.1, show OwnL Z EL n0 U.vm h sf from O.mv C0, hOld⟩ trivial
  obtain ⟨v, L, sf', rfl, q1, q2, q3, q4, q5, rw9⟩ := hq
  rw [ft] at fin
  obtain ⟨-, hW₂, hB₂, e2, r2⟩ := rw9
  have hW' : U.Warmed39 s₂.vm := hW₂
  obtain ⟨c₂, i₂, len₂, hc₂, hd₂, hf₂⟩ := fin
  have ec : c₂ = c := Option.some.inj (hc₂.symm.trans ((show s₂.code? g.method = U.code? g.method by rw [State.code?_eq, State.code?_eq, hW'.alike.method?]).trans at0.code))
  subst ec
  obtain ⟨-, rfl⟩ : i₂ = ig ∧ len₂ = len := by rw [hdg] at hd₂; cases hd₂; exact ⟨rfl, rfl⟩
  obtain ⟨g₀, hg0⟩ := Option.isSome_iff_exists.mp at0.top
  obtain ⟨r, hr⟩ := State.topJava?_eq_some.mp hg0
  let V : State := (({ U with heap := s₂.heap, slotsUsed := s₂.slotsUsed } : State).setVm s₂.vm)
  have es : s₂ = V.setTop { g with pc := g.pc + len₂, stack := v.toList ++ g.stack } := by
    have e3 : s₂ = ({ (U.calling g mk a).setFrames s₂.frames with heap := s₂.heap, slotsUsed := s₂.slotsUsed } : State).setVm s₂.vm := by
      have e4 : s₂ = ({ s₂ with vm := (U.calling g mk a).vm } : State).setVm s₂.vm := rfl
      have e5 : ({ s₂ with vm := (U.calling g mk a).vm } : State) = ({ (U.calling g mk a).setFrames s₂.frames with heap := s₂.heap, slotsUsed := s₂.slotsUsed } : State) := e2
      rw [e5] at e4
      exact e4
    have hrV : V.frames = .java g₀ :: r := hr
    refine e3.trans ?_
    rw [hf₂, State.calling_eq at0.top, State.setFrames_setFrames, State.setTop_of_frames _ hrV, hr]
    rfl
  have same : U.sameButNew ({ U with heap := s₂.heap, slotsUsed := s₂.slotsUsed } : State) L R'.cells R'.slots := by
    refine ⟨?_, r2⟩
    obtain ⟨t, ht, -⟩ := State.frames_cons hr
    show ({ U with heap := s₂.heap, slotsUsed := s₂.slotsUsed } : State) = { U.setFrames U.frames with heap := s₂.heap, slotsUsed := s₂.slotsUsed }
    rw [State.setFrames_self ht]
  obtain ⟨X', hS⟩ := Y.movedW (T₂ := V) ((Y.here.setHeapUsed s₂.heap s₂.slotsUsed).setVm hW'.alike) Y.tail rfl rfl hW' hB₂ same
  refine ⟨v, ⟨V, Ls ++ L, c0 + R'.cells, s0 + R'.slots⟩, X', hS, same.2.1, ⟨L, sf', q1, q2, q4, q5, rfl, rfl, rfl, C0.trans ?_⟩, by rw [← es]; exact go⟩
  rw [← hp2]; exact q3
/-- a call by what it leaves behind -/
theorem go_callB {R' : Room} {y : MethodName} {as : List Value} {QY : Option Value → Heap → List Addr → Prop} {len W : Nat}
    (hBk : ∀ {p : Program} {e : Env} {s : State} {args : Array Value} {below : List Frame} {vm0 : Vm}, Z.Warmed39 vm0 → EW Z a0 EL → CHv Z EL vm0 h → OwnL Z EL n0 vm0 h sf → Old Z n0 h →
      BackS l R p e below (s.setVm vm0) args y len W (fun A a => a = as.toArray ∧ A.U.heap = h ∧ A.cells + R'.cells ≤ R.cells ∧ A.slots + R'.slots ≤ R.slots)
        (fun A _ v B => ∃ L sf', QY v B.U.heap sf' ∧ Fr n0 L ∧ OwnL Z EL n0 B.U.vm B.U.heap sf' ∧ Old Z n0 B.U.heap ∧ B.locs = A.locs ++ L ∧ B.cells = A.cells + R'.cells ∧ B.slots = A.slots + R'.slots ∧ CHr Z EL vm0 h B.U.vm B.U.heap))
    (hc : ce + R'.cells ≤ R.cells) (hs : sl + R'.slots ≤ R.slots)
    (k : ∀ {p : Program} {e : Env} {s : State} {m : MethodId} {args : Array Value} {below : List Frame} {meth : Method} {c : Code} {T : State} {locs : List Loc} {Pre : Free.Pt → Array Value → Prop} {Post : Free.Pt → Array Value → Option Value → Free.Pt → Prop}, Stand p l e R s m args below meth c T locs ce sl → p.tables.exec = Jvm.exec → c.code = bytes → c.maxLocals = maxL → T.heap = h → Z.Warmed39 s.vm → s.vm.findClass own = some m.cls →
      BackS l R p e below s args y len W Pre Post → (∀ vm₁, s.WarmedH vm₁ → Pre ⟨T.setVm vm₁, locs, ce, sl⟩ as.toArray) →
      ∃ (v : Option Value) (vm₁ : Vm) (B : Free.Pt), s.WarmedH vm₁ ∧ Stand p l e R (s.setVm B.U.vm) m args below meth c B.U B.locs B.cells B.slots ∧ s.Since B.U.vm B.U.heap.size ∧ T.heap.size ≤ B.U.heap.size ∧ Post ⟨T.setVm vm₁, locs, ce, sl⟩ as.toArray v B ∧
        Steps p.tables e below (T.setTop (mkF m pc ls st)) (B.U.setTop (mkF m pc' ls (v.toList ++ rest))))
    (hr : ∀ v h' sf', QY v h' sf' → Go l Z a0 EL n0 R own bytes maxL ret nm Q h' (sf' ++ sf) (ce + R'.cells) (sl + R'.slots) pc' ls (v.toList ++ rest)) :
    Go l Z a0 EL n0 R own bytes maxL ret nm Q h sf ce sl pc ls st := by
  intro p e s m args below meth c T W'
  obtain ⟨⟨hx, hby, hml, hret, hnm, hlk, hEL, hOld⟩, vm0, locs, k0, X, eT, hS, hk, hZ, hown, N, C, O⟩ := W'
  obtain ⟨v, vm₁, ⟨U, Lc, kc, nc⟩, -, X', hS', hg, ⟨L, sf', q, fr, ow, ol, e1, e2, e3, ch⟩, st'⟩ := k (s := s.setVm vm0) X hx hby hml eT hZ hown (hBk (p := p) (e := e) (s := s) (args := args) (below := below) hZ hEL C.1 O hOld) (fun vm₁ _ => ⟨rfl, eT, hc, hs⟩)
  obtain ⟨X2, hS2, hZ2, hown2⟩ := rebS (own := own) (Z := Z) hS (Nat.le_trans hk (Nat.le_of_eq (by rw [eT]))) X' hS' hg hZ hown
  dsimp only [Free.Pt.U, Free.Pt.locs, Free.Pt.cells, Free.Pt.slots] at X2 hS2 hZ2 hown2 q ow ol e1 e2 e3 ch st'
  subst e1 e2 e3
  obtain ⟨t, o, h1, h2⟩ := hr v U.heap sf' q p e s m args below meth c U ⟨⟨hx, hby, hml, hret, hnm, hlk, hEL, ol⟩, U.vm, locs ++ L, U.heap.size, X2, rfl, hS2, Nat.le_refl _, hZ2, hown2, N.app fr, C.trans ch, ow.app (O.mv ch)⟩
  exact ⟨t, o, st'.trans h1, h2⟩
theorem go_staticH {R' : Room} {y : MethodName} {bY : ByteArray} {mY : Nat} {rY : Option FieldType} {hsY : List (Nat × Nat × Nat × Nat)} {sfY : List Addr} {QY : Option Value → Heap → List Addr → Prop} {idx : Nat} (as rest : List Value) (W : Nat)
    (hd : decode bytes pc = .ok (.invokestatic idx, 3)) (hp : pc + 3 = pc') (w1 : (Jvm.Cond.methodLink own idx y).before a0 Z = true) (w2 : (Jvm.Cond.static y).before a0 Z = true) (wz : (Jvm.Cond.initialized y.cls).before a0 Z = true) (wc : (Jvm.Cond.codeWith y bY mY rY hsY).before a0 Z = true)
    (hC : ConH l Z EL n0 y bY mY rY hsY R' as.toArray h sfY QY) (hsf : ∀ x ∈ sfY, x ∈ sf) (hlen : ∀ sig, parseMethodDescriptor y.desc = some sig → as.length = sig.parameters.length) (hst : st = as.reverse ++ rest) (hsz : ls.size = maxL) (hW : (rest.map fun v => v.category).sum = W)
    (hr : ∀ v h' sf', QY v h' sf' → Go l Z a0 EL n0 R own bytes maxL ret nm Q h' (sf' ++ sf) (ce + R'.cells) (sl + R'.slots) pc' ls (v.toList ++ rest)) (hy : y.cls ≠ "java/lang/invoke/MethodHandle" ∧ y.cls ≠ "java/lang/invoke/VarHandle" := by decide) (hf : R'.frames + 1 ≤ R.frames := by decide) (hl : W + (mY + 11) + R'.locals ≤ R.locals := by decide) (hc : ce + R'.cells ≤ R.cells := by decide) (hs : sl + R'.slots ≤ R.slots := by decide) :
    Go l Z a0 EL n0 R own bytes maxL ret nm Q h sf ce sl pc ls st := by
  subst hp hst
  exact go_callB (len := 3) (W := W) (fun hZ hEL H O hOld => back_ofH hC hZ wc wz hf hl hEL H (O.sub hsf) hOld) hc hs (fun {p e s m args below meth c T locs Pre Post} X hx hby hml eT hZ ho hK hpre => by
    obtain ⟨mk, methM, cM, hnamed, hmethM, -, -, -, -, -, -, hsig⟩ := Cond.codeWith_spec (mvT (args := args) hZ wc)
    exact X.staticBackS hx ho (mvT hZ w1) (mvT hZ w2) (mvT hZ wz) hnamed hmethM hsig hy hK (g := mkF m pc ls (as.reverse ++ rest)) rfl (by rw [hml]; exact hsz) (Steps.refl _) hlen rfl (by show 2 * 0 + (rest.map fun v => v.category).sum ≤ W; omega) (Jvm.hb hby hd) hpre) hr
theorem go_virtualH {R' : Room} {y z : MethodName} {bY : ByteArray} {mY : Nat} {rY : Option FieldType} {hsY : List (Nat × Nat × Nat × Nat)} {sfY : List Addr} {QY : Option Value → Heap → List Addr → Prop} {idx : Nat} {C : String} (a : Addr) (as rest : List Value) (W : Nat)
    (hd : decode bytes pc = .ok (.invokevirtual idx, 3)) (hp : pc + 3 = pc') (E : Exa Z h a C) (w1 : (Jvm.Cond.methodLink own idx y).before a0 Z = true) (w2 : (Jvm.Cond.declares y).before a0 Z = true) (hnf : ∀ {s : State}, Z.Warmed39 s.vm → NotFace s y) (w3 : (Jvm.Cond.selects C y z).before a0 Z = true) (w4 : (Jvm.Cond.instanceMethod z).before a0 Z = true) (wz : (Jvm.Cond.initialized z.cls).before a0 Z = true) (wc : (Jvm.Cond.codeWith z bY mY rY hsY).before a0 Z = true)
    (hC : ConH l Z EL n0 z bY mY rY hsY R' (.ref a :: as).toArray h sfY QY) (hsf : ∀ x ∈ sfY, x ∈ sf) (hlen : ∀ sig, parseMethodDescriptor y.desc = some sig → as.length = sig.parameters.length) (hst : st = as.reverse ++ .ref a :: rest) (hsz : ls.size = maxL) (hW : (rest.map fun v => v.category).sum = W)
    (hr : ∀ v h' sf', QY v h' sf' → Go l Z a0 EL n0 R own bytes maxL ret nm Q h' (sf' ++ sf) (ce + R'.cells) (sl + R'.slots) pc' ls (v.toList ++ rest)) (hy : y.cls ≠ "java/lang/invoke/MethodHandle" ∧ y.cls ≠ "java/lang/invoke/VarHandle" := by decide) (hf : R'.frames + 1 ≤ R.frames := by decide) (hl : W + (mY + 11) + R'.locals ≤ R.locals := by decide) (hc : ce + R'.cells ≤ R.cells := by decide) (hs : sl + R'.slots ≤ R.slots := by decide) :
    Go l Z a0 EL n0 R own bytes maxL ret nm Q h sf ce sl pc ls st := by
  subst hp hst
  exact go_callB (len := 3) (W := W) (as := .ref a :: as) (fun hZ hEL H O hOld => back_ofH hC hZ wc wz hf hl hEL H (O.sub hsf) hOld) hc hs (fun {p e s m args below meth c T locs Pre Post} X hx hby hml eT hZ ho hK hpre => by
    obtain ⟨cB, kB, q1, q2, q3⟩ := isOf hZ eT E
    exact Stand.virtualBackS X hx ho (mvT hZ w1) (mvT hZ w2) (hnf hZ) (mvT hZ w3) (mvT hZ w4) hy hK q1 q3 (g := mkF m pc ls (as.reverse ++ .ref a :: rest)) rfl (by rw [hml]; exact hsz) (Steps.refl _) hlen rfl (by show 2 * 0 + (rest.map fun v => v.category).sum ≤ W; omega) (Jvm.hb hby hd) hpre) hr
theorem declares_ofH {y : MethodName} {bY : ByteArray} {mY : Nat} {rY : Option FieldType} {hsY : List (Nat × Nat × Nat × Nat)} (wi : (Jvm.Cond.instanceMethod y).before a0 Z = true) (wc : (Jvm.Cond.codeWith y bY mY rY hsY).before a0 Z = true) : (Jvm.Cond.declares y).before a0 Z = true := by
  obtain ⟨mk, me, h1, h2, h3, -⟩ := Cond.instanceMethod_spec wi
  obtain ⟨mk', me', c', g0, g1, -, -, -, -, -, -, g2⟩ := Cond.codeWith_spec wc
  cases h1.symm.trans g0
  cases h2.symm.trans g1
  simp [Cond.before, Cond.holds, Cond.value, h1, h2, h3, g2]
end Walk
/-- an array that stood before the law, read -/
theorem HasL_toList (c : Cell) : ∀ (vs : List Value) (i : Nat), c.slots.toList.drop i = vs → HasL c i vs
  | [], _, _ => trivial
  | v :: r, i, e => by
    have h1 : c.slots.toList[i]? = some v := by
      have : (c.slots.toList.drop i)[0]? = some v := by rw [e]; rfl
      rwa [List.getElem?_drop, Nat.add_zero] at this
    refine ⟨by rw [← Array.getElem?_toList]; exact h1, HasL_toList c r (i + 1) ?_⟩
    rw [← List.drop_drop, e]; rfl
theorem arr_old {Z : State} {a0 args : Array Value} {t : Term} {a : Addr} {n : Int32} {ad : String} {ty : FieldType} (ev : t.eval args Z none [] Z = some (.ref a)) (E : Exa Z Z.heap a ad) (wB : (Jvm.Cond.arrayClass ty).before a0 Z = true) (had : "[" ++ ty.toString = ad) (hl : (Jvm.Cond.eq (Term.length t) (Term.int n)).value args Z none Z [] = some true) :
    ∃ c, Arr Z Z.heap a c ty ∧ c.slots.size < 2 ^ 31 ∧ c.slots.size.toInt32 = n := by
  have e1 := eqv_i (Term.int_eval n) hl
  obtain ⟨a', c, q1, q2, q3⟩ := Term.length_spec e1
  cases ev.symm.trans q1
  obtain ⟨g1, g2, g3, k, comp, ty', g4, g5⟩ := State.arrayAt?_spec q2
  obtain ⟨cl, k1, f1, f2, f3, -, -⟩ := E
  cases g1.symm.trans f1
  obtain ⟨c2, k2, cp2, w1, w2, w3⟩ := Cond.arrayClass_spec wB
  rw [had, f2] at w1
  cases w1
  cases w2.symm.trans g4
  have hs : c.slots.size < 2 ^ 31 := by
    simp only [Term.eval, q1, Option.bind_eq_bind, Option.bind_some, q2] at e1
    by_cases hlt : c.slots.size < 2 ^ 31
    · exact hlt
    · rw [if_neg hlt] at e1; cases e1
  exact ⟨c, ⟨g1, ⟨(fun q e => by rw [e] at g3; cases g3), k, w2, cp2, w3⟩, g2⟩, hs, (Value.int.inj q3).symm⟩
theorem arv_old {Z : State} {a : Addr} {c : Cell} {ty : FieldType} {n : Int32} (hf : Fit Z) (A : Arr Z Z.heap a c ty) (q : c.slots.size < 2 ^ 31) (e : c.slots.size.toInt32 = n) (hz : ¬ n < 0) (dv : Value) : Arv Z Z.heap a c.cls ty n c.slots.toList dv := by
  refine Arv.start hf A q e hz ?_ (HasL_toList c _ 0 rfl)
  rw [Array.length_toList, ← e]; simp only [Int32.toNatClampNeg, len_toInt q]; rfl

def fbL : List Int32 := [(-1 : Int32), (-1 : Int32), (-1 : Int32), (-1 : Int32), (-1 : Int32), (-1 : Int32), (-1 : Int32), (-1 : Int32), (-1 : Int32), (-1 : Int32), (-1 : Int32), (-1 : Int32), (-1 : Int32), (-1 : Int32), (-1 : Int32), (-1 : Int32), (-1 : Int32), (-1 : Int32), (-1 : Int32), (-1 : Int32), (-1 : Int32), (-1 : Int32), (-1 : Int32), (-1 : Int32), (-1 : Int32), (-1 : Int32), (-1 : Int32), (-1 : Int32), (-1 : Int32), (-1 : Int32), (-1 : Int32), (-1 : Int32), (-1 : Int32), (-1 : Int32), (-1 : Int32), (-1 : Int32), (-1 : Int32), (-1 : Int32), (-1 : Int32), (-1 : Int32), (-1 : Int32), (-1 : Int32), (-1 : Int32), (62 : Int32), (-1 : Int32), (-1 : Int32), (-1 : Int32), (63 : Int32), (52 : Int32), (53 : Int32), (54 : Int32), (55 : Int32), (56 : Int32), (57 : Int32), (58 : Int32), (59 : Int32), (60 : Int32), (61 : Int32), (-1 : Int32), (-1 : Int32), (-1 : Int32), (-2 : Int32), (-1 : Int32), (-1 : Int32), (-1 : Int32), (0 : Int32), (1 : Int32), (2 : Int32), (3 : Int32), (4 : Int32), (5 : Int32), (6 : Int32), (7 : Int32), (8 : Int32), (9 : Int32), (10 : Int32), (11 : Int32), (12 : Int32), (13 : Int32), (14 : Int32), (15 : Int32), (16 : Int32), (17 : Int32), (18 : Int32), (19 : Int32), (20 : Int32), (21 : Int32), (22 : Int32), (23 : Int32), (24 : Int32), (25 : Int32), (-1 : Int32), (-1 : Int32), (-1 : Int32), (-1 : Int32), (-1 : Int32), (-1 : Int32), (26 : Int32), (27 : Int32), (28 : Int32), (29 : Int32), (30 : Int32), (31 : Int32), (32 : Int32), (33 : Int32), (34 : Int32), (35 : Int32), (36 : Int32), (37 : Int32), (38 : Int32), (39 : Int32), (40 : Int32), (41 : Int32), (42 : Int32), (43 : Int32), (44 : Int32), (45 : Int32), (46 : Int32), (47 : Int32), (48 : Int32), (49 : Int32), (50 : Int32), (51 : Int32), (-1 : Int32), (-1 : Int32), (-1 : Int32), (-1 : Int32), (-1 : Int32), (-1 : Int32), (-1 : Int32), (-1 : Int32), (-1 : Int32), (-1 : Int32), (-1 : Int32), (-1 : Int32), (-1 : Int32), (-1 : Int32), (-1 : Int32), (-1 : Int32), (-1 : Int32), (-1 : Int32), (-1 : Int32), (-1 : Int32), (-1 : Int32), (-1 : Int32), (-1 : Int32), (-1 : Int32), (-1 : Int32), (-1 : Int32), (-1 : Int32), (-1 : Int32), (-1 : Int32), (-1 : Int32), (-1 : Int32), (-1 : Int32), (-1 : Int32), (-1 : Int32), (-1 : Int32), (-1 : Int32), (-1 : Int32), (-1 : Int32), (-1 : Int32), (-1 : Int32), (-1 : Int32), (-1 : Int32), (-1 : Int32), (-1 : Int32), (-1 : Int32), (-1 : Int32), (-1 : Int32), (-1 : Int32), (-1 : Int32), (-1 : Int32), (-1 : Int32), (-1 : Int32), (-1 : Int32), (-1 : Int32), (-1 : Int32), (-1 : Int32), (-1 : Int32), (-1 : Int32), (-1 : Int32), (-1 : Int32), (-1 : Int32), (-1 : Int32), (-1 : Int32), (-1 : Int32), (-1 : Int32), (-1 : Int32), (-1 : Int32), (-1 : Int32), (-1 : Int32), (-1 : Int32), (-1 : Int32), (-1 : Int32), (-1 : Int32), (-1 : Int32), (-1 : Int32), (-1 : Int32), (-1 : Int32), (-1 : Int32), (-1 : Int32), (-1 : Int32), (-1 : Int32), (-1 : Int32), (-1 : Int32), (-1 : Int32), (-1 : Int32), (-1 : Int32), (-1 : Int32), (-1 : Int32), (-1 : Int32), (-1 : Int32), (-1 : Int32), (-1 : Int32), (-1 : Int32), (-1 : Int32), (-1 : Int32), (-1 : Int32), (-1 : Int32), (-1 : Int32), (-1 : Int32), (-1 : Int32), (-1 : Int32), (-1 : Int32), (-1 : Int32), (-1 : Int32), (-1 : Int32), (-1 : Int32), (-1 : Int32), (-1 : Int32), (-1 : Int32), (-1 : Int32), (-1 : Int32), (-1 : Int32), (-1 : Int32), (-1 : Int32), (-1 : Int32), (-1 : Int32), (-1 : Int32), (-1 : Int32), (-1 : Int32), (-1 : Int32), (-1 : Int32), (-1 : Int32), (-1 : Int32), (-1 : Int32), (-1 : Int32), (-1 : Int32), (-1 : Int32), (-1 : Int32), (-1 : Int32), (-1 : Int32), (-1 : Int32), (-1 : Int32), (-1 : Int32)]
def tbL : List Int32 := [(65 : Int32), (66 : Int32), (67 : Int32), (68 : Int32), (69 : Int32), (70 : Int32), (71 : Int32), (72 : Int32), (73 : Int32), (74 : Int32), (75 : Int32), (76 : Int32), (77 : Int32), (78 : Int32), (79 : Int32), (80 : Int32), (81 : Int32), (82 : Int32), (83 : Int32), (84 : Int32), (85 : Int32), (86 : Int32), (87 : Int32), (88 : Int32), (89 : Int32), (90 : Int32), (97 : Int32), (98 : Int32), (99 : Int32), (100 : Int32), (101 : Int32), (102 : Int32), (103 : Int32), (104 : Int32), (105 : Int32), (106 : Int32), (107 : Int32), (108 : Int32), (109 : Int32), (110 : Int32), (111 : Int32), (112 : Int32), (113 : Int32), (114 : Int32), (115 : Int32), (116 : Int32), (117 : Int32), (118 : Int32), (119 : Int32), (120 : Int32), (121 : Int32), (122 : Int32), (48 : Int32), (49 : Int32), (50 : Int32), (51 : Int32), (52 : Int32), (53 : Int32), (54 : Int32), (55 : Int32), (56 : Int32), (57 : Int32), (43 : Int32), (47 : Int32)]
def fbV : List Value := fbL.map Value.int
def tbV : List Value := tbL.map Value.int
abbrev vr (a : Addr) : Slot := .val (.ref a)
abbrev vi (i : Int32) : Slot := .val (.int i)
abbrev lv (c : Int32) : Value := .int c.toInt8.toInt32
def ELc : List (String × Nat) := [("java/lang/String", 7)]
def Base (Z : State) (a0 : Array Value) : Prop := (∀ d ∈ tables_1, d.before a0 Z = true) ∧ EW Z a0 ELc ∧ (∃ cz, Sta Z Z.heap "java/lang/String" "COMPACT_STRINGS" "Z" (.int cz) ∧ ¬ cz = 0) ∧ (∃ fv, Sta Z Z.heap "jdk/internal/util/Preconditions" "SIOOBE_FORMATTER" "Ljava/util/function/BiFunction;" fv ∧ fv.isRef = true) ∧ (∃ dc, Sta Z Z.heap "java/util/Base64$Decoder" "RFC4648" "Ljava/util/Base64$Decoder;" (.ref dc) ∧ Exa Z Z.heap dc "java/util/Base64$Decoder" ∧ Fld Z Z.heap dc "java/util/Base64$Decoder" "isURL" "Z" (.int 0) ∧ Fld Z Z.heap dc "java/util/Base64$Decoder" "isMIME" "Z" (.int 0)) ∧ (∃ is, Sta Z Z.heap "sun/nio/cs/ISO_8859_1" "INSTANCE" "Lsun/nio/cs/ISO_8859_1;" (.ref is) ∧ Exa Z Z.heap is "sun/nio/cs/ISO_8859_1") ∧ (∃ ut, Sta Z Z.heap "sun/nio/cs/UTF_8" "INSTANCE" "Lsun/nio/cs/UTF_8;" (.ref ut) ∧ Exa Z Z.heap ut "sun/nio/cs/UTF_8") ∧ (∃ fb kf, Sta Z Z.heap "java/util/Base64$Decoder" "fromBase64" "[I" (.ref fb) ∧ Arv Z Z.heap fb kf .int 256 fbV (.int 0)) ∧ (∃ ec, Sta Z Z.heap "java/util/Base64$Encoder" "RFC4648" "Ljava/util/Base64$Encoder;" (.ref ec) ∧ Exa Z Z.heap ec "java/util/Base64$Encoder" ∧ Fld Z Z.heap ec "java/util/Base64$Encoder" "isURL" "Z" (.int 0) ∧ Fld Z Z.heap ec "java/util/Base64$Encoder" "linemax" "I" (.int (-1)) ∧ Fld Z Z.heap ec "java/util/Base64$Encoder" "doPadding" "Z" (.int 1)) ∧ (∃ tb kt, Sta Z Z.heap "java/util/Base64$Encoder" "toBase64" "[C" (.ref tb) ∧ Arv Z Z.heap tb kt .char 64 tbV (.int 0)) ∧ True
theorem wd {Z : State} {a0 : Array Value} {d : Jvm.Cond} (hB : Base Z a0) (k : Nat) (hk : tables_1[k]? = some d) : d.before a0 Z = true := hB.1 d (List.mem_of_getElem? hk)
theorem stA {Z : State} {a0 : Array Value} (hB : Base Z a0) : ∀ a ∈ Bundle.stringAtoms, a.before a0 Z = true := fun d hd => by
  simp only [Bundle.stringAtoms, List.mem_cons, List.not_mem_nil, or_false] at hd
  rcases hd with rfl | rfl | rfl | rfl | rfl | rfl | rfl
  · exact (wd hB 6 rfl)
  · exact (wd hB 5 rfl)
  · exact (wd hB 18 rfl)
  · exact (wd hB 19 rfl)
  · exact (wd hB 20 rfl)
  · exact (wd hB 21 rfl)
  · exact (wd hB 22 rfl)
theorem con_ofA {l : Launch} {Z : State} {a0 : Array Value} {n0 : Nat} {R : Room} {y : MethodName} {bytes : ByteArray} {maxL : Nat} {ret : Option FieldType} {Q : Option Value → Heap → List Addr → Prop} {h : Heap} {sf : List Addr} {ls : Array Slot} {ws : List Jvm.Cond} {as : Array Value} (hB : Base Z a0) (hE : ∀ m, entryFrame m as maxL = mkF m 0 ls []) (hr : Go l Z a0 ELc n0 R y.cls bytes maxL ret y.name Q h sf 0 0 0 ls []) (hpl : plainFor y = true := by first | exact plainFor_of_name (by decide +kernel) | decide +kernel) : Con l Z ELc n0 y bytes maxL ret ws R as h sf Q := con_of hpl hB.2.1 hE hr
theorem con_ofAH {l : Launch} {Z : State} {a0 : Array Value} {n0 : Nat} {R : Room} {y : MethodName} {bytes : ByteArray} {maxL : Nat} {ret : Option FieldType} {Q : Option Value → Heap → List Addr → Prop} {h : Heap} {sf : List Addr} {ls : Array Slot} {hs : List (Nat × Nat × Nat × Nat)} {as : Array Value} (hB : Base Z a0) (hE : ∀ m, entryFrame m as maxL = mkF m 0 ls []) (hr : Go l Z a0 ELc n0 R y.cls bytes maxL ret y.name Q h sf 0 0 0 ls []) (hpl : plainFor y = true := by first | exact plainFor_of_name (by decide +kernel) | decide +kernel) : ConH l Z ELc n0 y bytes maxL ret hs R as h sf Q := con_ofH hpl hB.2.1 hE hr
def IsDec (Z : State) (dc : Addr) : Prop := Exa Z Z.heap dc "java/util/Base64$Decoder" ∧ Fld Z Z.heap dc "java/util/Base64$Decoder" "isURL" "Z" (.int 0) ∧ Fld Z Z.heap dc "java/util/Base64$Decoder" "isMIME" "Z" (.int 0)
def IsEnc (Z : State) (ec : Addr) : Prop := Exa Z Z.heap ec "java/util/Base64$Encoder" ∧ Fld Z Z.heap ec "java/util/Base64$Encoder" "isURL" "Z" (.int 0) ∧ Fld Z Z.heap ec "java/util/Base64$Encoder" "linemax" "I" (.int (-1)) ∧ Fld Z Z.heap ec "java/util/Base64$Encoder" "doPadding" "Z" (.int 1)
theorem ofN_int {i : Nat} (h : i < 2147483648) : (Int32.ofNat i).toInt = i := Int32.toInt_ofNat_of_lt h
theorem ofN_lt {i n : Nat} (hi : i < n) (hn : n < 2147483648) : Int32.ofNat i < Int32.ofNat n := by
  rw [Int32.lt_iff_toInt_lt, ofN_int (by omega), ofN_int hn]; omega
theorem ofN_nlt {i n : Nat} (hi : n ≤ i) (hn : i < 2147483648) : ¬ Int32.ofNat i < Int32.ofNat n := by
  rw [Int32.lt_iff_toInt_lt, ofN_int hn, ofN_int (i := n) (by omega)]; omega
theorem ofN_nneg {i : Nat} (h : i < 2147483648) : ¬ Int32.ofNat i < 0 := by
  rw [Int32.lt_iff_toInt_lt, ofN_int h]; show ¬ (i : Int) < 0; omega
theorem ofN_cl {i : Nat} (h : i < 2147483648) : (Int32.ofNat i).toNatClampNeg = i := by
  have := ofN_int h; show (Int32.ofNat i).toInt.toNat = i; omega
theorem ofN_succ (i : Nat) : Int32.ofNat i + 1 = Int32.ofNat (i + 1) := by rw [Int32.ofNat_add]; rfl
theorem ofN_pos {i : Nat} (h0 : 0 < i) (h : i < 2147483648) : ¬ Int32.ofNat i = 0 := fun q => by
  have := ofN_int h; rw [q] at this; have h2 : (0 : Int32).toInt = 0 := rfl; omega
def lo8s (cs : List Int32) : List Value := cs.map fun c => Value.int c.toInt8.toInt32
theorem lo8s_len (cs : List Int32) : (lo8s cs).length = cs.length := by simp [lo8s]
theorem lo8s_set {cs : List Int32} {i j : Nat} {c : Int32} (hc : cs[i]? = some c) (hi : i + (j + 1) = cs.length) : (lo8s (cs.take i) ++ List.replicate (j + 1) (Value.int 0)).set i (Value.int c.toInt8.toInt32) = lo8s (cs.take (i + 1)) ++ List.replicate j (Value.int 0) := by
  have hl : (lo8s (cs.take i)).length = i := by rw [lo8s_len, List.length_take]; omega
  rw [List.set_append_right _ _ (by omega), hl, Nat.sub_self, List.replicate_succ, List.set_cons_zero, List.take_add_one, hc]
  simp [lo8s]
theorem map_at {cs : List Int32} {i : Nat} {c : Int32} (hc : cs[i]? = some c) : (cs.map Value.int).getD i (.int 0) = .int c := by simp [List.getD_eq_getElem?_getD, hc]
theorem at_of {cs : List Int32} {i : Nat} (h : i < cs.length) : ∃ c, cs[i]? = some c ∧ c ∈ cs := ⟨cs[i], List.getElem?_eq_getElem h, List.getElem_mem h⟩
theorem toBV_i8 (x : Int32) : x.toInt8.toInt32.toBitVec = (x.toBitVec.setWidth 8).signExtend 32 := by
  simp only [Int8.toBitVec_toInt32, Int32.toBitVec_toInt8]
  first | rw [BitVec.signExtend_eq_setWidth_of_le x.toBitVec (by omega)] | rw [BitVec.signExtend_eq_setWidth_of_lt x.toBitVec (by omega)] 
theorem sx8 (y : BitVec 8) : (y.signExtend 32).toNat % 256 = y.toNat := by
  rw [BitVec.toNat_signExtend]
  split <;> simp <;> omega
theorem lo8_and (x : Int32) : (x.toInt8.toInt32 &&& 255).toBitVec.toNat = x.toBitVec.toNat % 256 := by
  rw [Int32.toBitVec_and, BitVec.toNat_and]
  have e : (255 : Int32).toBitVec.toNat = 2 ^ 8 - 1 := by decide
  rw [e, Nat.and_two_pow_sub_one_eq_mod, toBV_i8]
  have := sx8 (x.toBitVec.setWidth 8)
  rw [BitVec.toNat_setWidth] at this
  exact this
theorem shl0 (c : Int32) : c <<< ((0 : Int32) &&& 31) = c := by
  have e : ((0 : Int32) &&& 31) = 0 := by decide
  rw [e]
  apply Int32.toBitVec_inj.mp
  rw [Int32.toBitVec_shiftLeft]
  have e1 : ((0 : Int32).toBitVec.smod 32) = 0#32 := by decide
  rw [e1]
  show c.toBitVec <<< (0#32).toNat = _
  simp
theorem nat_of_int {c : Int32} (h : 0 ≤ c.toInt) : c.toInt = (c.toBitVec.toNat : Int) := by
  have h1 : 0 ≤ c.toBitVec.toInt := h
  show c.toBitVec.toInt = _
  rw [BitVec.toInt_eq_toNat_cond] at h1 ⊢
  split at h1
  · rw [if_pos (by assumption)]
  · have := c.toBitVec.isLt; omega
theorem and_rng (x : Int32) {m : Int32} (hm : 0 ≤ m.toInt) : 0 ≤ (x &&& m).toInt ∧ (x &&& m).toInt ≤ m.toInt := by
  have h1 : (x &&& m).toBitVec.toNat ≤ m.toBitVec.toNat := by rw [Int32.toBitVec_and, BitVec.toNat_and]; exact Nat.and_le_right
  have h4 := nat_of_int hm
  have hb : m.toInt < 2147483648 := m.toInt_lt
  have h3 : (x &&& m).toInt = ((x &&& m).toBitVec.toNat : Int) := BitVec.toInt_eq_toNat_of_lt (by omega)
  omega
theorem rem_rng {x m : Int32} (hx : 0 ≤ x.toInt) (hm : 0 < m.toInt) : 0 ≤ (x % m).toInt ∧ (x % m).toInt < m.toInt := by
  rw [Int32.toInt_mod]
  exact ⟨Int.tmod_nonneg _ hx, Int.tmod_lt_of_pos _ hm⟩
theorem pd_0 : parseMethodDescriptor "([CI[BII)I" = some ⟨[(.array .char), .int, (.array .byte), .int, .int], (some .int)⟩ := by decide +kernel
theorem pd_1 : parseMethodDescriptor "([CII)[B" = some ⟨[(.array .char), .int, .int], (some (.array .byte))⟩ := by decide +kernel
theorem pd_2 : parseMethodDescriptor "([BI)B" = some ⟨[(.array .byte), .int], (some .byte)⟩ := by decide +kernel
theorem pd_3 : parseMethodDescriptor "([CIILjava/lang/Void;)V" = some ⟨[(.array .char), .int, .int, (.object "java/lang/Void")], none⟩ := by decide +kernel
theorem pd_4 : parseMethodDescriptor "(I)C" = some ⟨[.int], (some .char)⟩ := by decide +kernel
theorem pd_5 : parseMethodDescriptor "(B[BZ)[B" = some ⟨[.byte, (.array .byte), .boolean], (some (.array .byte))⟩ := by decide +kernel
theorem pd_6 : parseMethodDescriptor "(B[B)[B" = some ⟨[.byte, (.array .byte)], (some (.array .byte))⟩ := by decide +kernel
theorem pd_7 : parseMethodDescriptor "()B" = some ⟨[], (some .byte)⟩ := by decide +kernel
theorem pd_8 : parseMethodDescriptor "(Ljava/nio/charset/Charset;B[B)[B" = some ⟨[(.object "java/nio/charset/Charset"), .byte, (.array .byte)], (some (.array .byte))⟩ := by decide +kernel
theorem pd_9 : parseMethodDescriptor "([BII)I" = some ⟨[(.array .byte), .int, .int], (some .int)⟩ := by decide +kernel
theorem pd_10 : parseMethodDescriptor "([BII[B)I" = some ⟨[(.array .byte), .int, .int, (.array .byte)], (some .int)⟩ := by decide +kernel
theorem pd_11 : parseMethodDescriptor "(Ljava/nio/charset/Charset;)[B" = some ⟨[(.object "java/nio/charset/Charset")], (some (.array .byte))⟩ := by decide +kernel
theorem pd_12 : parseMethodDescriptor "([B)[B" = some ⟨[(.array .byte)], (some (.array .byte))⟩ := by decide +kernel
theorem pd_13 : parseMethodDescriptor "([BII[BIZZ)I" = some ⟨[(.array .byte), .int, .int, (.array .byte), .int, .boolean, .boolean], (some .int)⟩ := by decide +kernel
theorem pd_14 : parseMethodDescriptor "(IIILjava/util/function/BiFunction;)I" = some ⟨[.int, .int, .int, (.object "java/util/function/BiFunction")], (some .int)⟩ := by decide +kernel
theorem pd_15 : parseMethodDescriptor "(III)I" = some ⟨[.int, .int, .int], (some .int)⟩ := by decide +kernel
theorem pd_16 : parseMethodDescriptor "([BII)[B" = some ⟨[(.array .byte), .int, .int], (some (.array .byte))⟩ := by decide +kernel
theorem pd_17 : parseMethodDescriptor "([B[B)Z" = some ⟨[(.array .byte), (.array .byte)], (some .boolean)⟩ := by decide +kernel
theorem pd_18 : parseMethodDescriptor "(II)I" = some ⟨[.int, .int], (some .int)⟩ := by decide +kernel
theorem pd_19 : parseMethodDescriptor "(IZ)I" = some ⟨[.int, .boolean], (some .int)⟩ := by decide +kernel
theorem pd_20 : parseMethodDescriptor "([BIII)V" = some ⟨[(.array .byte), .int, .int, .int], none⟩ := by decide +kernel
theorem pd_21 : parseMethodDescriptor "()Ljava/util/Base64$Encoder;" = some ⟨[], (some (.object "java/util/Base64$Encoder"))⟩ := by decide +kernel
theorem pd_22 : parseMethodDescriptor "([B)Ljava/lang/String;" = some ⟨[(.array .byte)], (some (.object "java/lang/String"))⟩ := by decide +kernel
theorem pd_23 : parseMethodDescriptor "()Ljava/util/Base64$Decoder;" = some ⟨[], (some (.object "java/util/Base64$Decoder"))⟩ := by decide +kernel
theorem pd_24 : parseMethodDescriptor "(Ljava/lang/String;)[B" = some ⟨[(.object "java/lang/String")], (some (.array .byte))⟩ := by decide +kernel
theorem pd_25 : parseMethodDescriptor "(Ljava/lang/Object;)Z" = some ⟨[(.object "java/lang/Object")], (some .boolean)⟩ := by decide +kernel
theorem pd_26 : parseMethodDescriptor "([BII[BIZ)V" = some ⟨[(.array .byte), .int, .int, (.array .byte), .int, .boolean], none⟩ := by decide +kernel
theorem pd_27 : parseMethodDescriptor "([C)V" = some ⟨[(.array .char)], none⟩ := by decide +kernel
theorem pd_28 : parseMethodDescriptor "([B[III)Z" = some ⟨[(.array .byte), (.array .int), .int, .int], (some .boolean)⟩ := by decide +kernel
theorem pd_29 : parseMethodDescriptor "([III[CI)V" = some ⟨[(.array .int), .int, .int, (.array .char), .int], none⟩ := by decide +kernel
abbrev kb30 : ByteArray := jdk_52_method_21_code
theorem d30_0 : decode kb30 0 = .ok (.iconst 0, 1) := by decide +kernel
theorem d30_1 : decode kb30 1 = .ok (.istore 5, 2) := by decide +kernel
theorem d30_3 : decode kb30 3 = .ok (.iload 5, 2) := by decide +kernel
theorem d30_5 : decode kb30 5 = .ok (.iload 4, 2) := by decide +kernel
theorem d30_7 : decode kb30 7 = .ok (.if_icmp .ge 37, 3) := by decide +kernel
theorem d30_10 : decode kb30 10 = .ok (.aload_n 0, 1) := by decide +kernel
theorem d30_11 : decode kb30 11 = .ok (.iload_n 1, 1) := by decide +kernel
theorem d30_12 : decode kb30 12 = .ok (.caload, 1) := by decide +kernel
theorem d30_13 : decode kb30 13 = .ok (.istore 6, 2) := by decide +kernel
theorem d30_15 : decode kb30 15 = .ok (.iload 6, 2) := by decide +kernel
theorem d30_17 : decode kb30 17 = .ok (.sipush 255, 3) := by decide +kernel
theorem d30_20 : decode kb30 20 = .ok (.if_icmp .le 6, 3) := by decide +kernel
theorem d30_26 : decode kb30 26 = .ok (.aload_n 2, 1) := by decide +kernel
theorem d30_27 : decode kb30 27 = .ok (.iload_n 3, 1) := by decide +kernel
theorem d30_28 : decode kb30 28 = .ok (.iload 6, 2) := by decide +kernel
theorem d30_30 : decode kb30 30 = .ok (.i2b, 1) := by decide +kernel
theorem d30_31 : decode kb30 31 = .ok (.bastore, 1) := by decide +kernel
theorem d30_32 : decode kb30 32 = .ok (.iinc 1 1, 3) := by decide +kernel
theorem d30_35 : decode kb30 35 = .ok (.iinc 3 1, 3) := by decide +kernel
theorem d30_38 : decode kb30 38 = .ok (.iinc 5 1, 3) := by decide +kernel
theorem d30_41 : decode kb30 41 = .ok (.goto (-38), 3) := by decide +kernel
theorem d30_44 : decode kb30 44 = .ok (.iload 4, 2) := by decide +kernel
theorem d30_46 : decode kb30 46 = .ok (.ireturn, 1) := by decide +kernel
abbrev kb31 : ByteArray := jdk_52_method_15_code
theorem d31_0 : decode kb31 0 = .ok (.iload_n 1, 1) := by decide +kernel
theorem d31_1 : decode kb31 1 = .ok (.aload_n 0, 1) := by decide +kernel
theorem d31_2 : decode kb31 2 = .ok (.arraylength, 1) := by decide +kernel
theorem d31_3 : decode kb31 3 = .ok (.isub, 1) := by decide +kernel
theorem d31_4 : decode kb31 4 = .ok (.bipush 31, 2) := by decide +kernel
theorem d31_6 : decode kb31 6 = .ok (.iushr, 1) := by decide +kernel
theorem d31_7 : decode kb31 7 = .ok (.i2b, 1) := by decide +kernel
theorem d31_8 : decode kb31 8 = .ok (.ireturn, 1) := by decide +kernel
abbrev kb29 : ByteArray := jdk_52_method_16_code
theorem d29_0 : decode kb29 0 = .ok (.iload_n 2, 1) := by decide +kernel
theorem d29_1 : decode kb29 1 = .ok (.newarray .byte, 2) := by decide +kernel
theorem d29_3 : decode kb29 3 = .ok (.astore_n 3, 1) := by decide +kernel
theorem d29_4 : decode kb29 4 = .ok (.aload_n 0, 1) := by decide +kernel
theorem d29_5 : decode kb29 5 = .ok (.iload_n 1, 1) := by decide +kernel
theorem d29_6 : decode kb29 6 = .ok (.aload_n 3, 1) := by decide +kernel
theorem d29_7 : decode kb29 7 = .ok (.iconst 0, 1) := by decide +kernel
theorem d29_8 : decode kb29 8 = .ok (.iload_n 2, 1) := by decide +kernel
theorem d29_9 : decode kb29 9 = .ok (.invokestatic 115, 3) := by decide +kernel
theorem d29_12 : decode kb29 12 = .ok (.istore 4, 2) := by decide +kernel
theorem d29_14 : decode kb29 14 = .ok (.iload 4, 2) := by decide +kernel
theorem d29_16 : decode kb29 16 = .ok (.iload_n 2, 1) := by decide +kernel
theorem d29_17 : decode kb29 17 = .ok (.if_icmp .eq 40, 3) := by decide +kernel
theorem d29_57 : decode kb29 57 = .ok (.aload_n 3, 1) := by decide +kernel
theorem d29_58 : decode kb29 58 = .ok (.areturn, 1) := by decide +kernel
abbrev kb2 : ByteArray := jdk_42_method_149_code
theorem d2_0 : decode kb2 0 = .ok (.aload_n 0, 1) := by decide +kernel
theorem d2_1 : decode kb2 1 = .ok (.invokespecial 1, 3) := by decide +kernel
theorem d2_4 : decode kb2 4 = .ok (.iload_n 3, 1) := by decide +kernel
theorem d2_5 : decode kb2 5 = .ok (.ifCond .ne 22, 3) := by decide +kernel
theorem d2_8 : decode kb2 8 = .ok (.aload_n 0, 1) := by decide +kernel
theorem d2_9 : decode kb2 9 = .ok (.ldc 7, 2) := by decide +kernel
theorem d2_11 : decode kb2 11 = .ok (.getfield 9, 3) := by decide +kernel
theorem d2_14 : decode kb2 14 = .ok (.putfield 9, 3) := by decide +kernel
theorem d2_17 : decode kb2 17 = .ok (.aload_n 0, 1) := by decide +kernel
theorem d2_18 : decode kb2 18 = .ok (.ldc 7, 2) := by decide +kernel
theorem d2_20 : decode kb2 20 = .ok (.getfield 15, 3) := by decide +kernel
theorem d2_23 : decode kb2 23 = .ok (.putfield 15, 3) := by decide +kernel
theorem d2_26 : decode kb2 26 = .ok (.return_, 1) := by decide +kernel
theorem d2_27 : decode kb2 27 = .ok (.getstatic 38, 3) := by decide +kernel
theorem d2_30 : decode kb2 30 = .ok (.ifCond .eq 28, 3) := by decide +kernel
theorem d2_33 : decode kb2 33 = .ok (.aload_n 1, 1) := by decide +kernel
theorem d2_34 : decode kb2 34 = .ok (.iload_n 2, 1) := by decide +kernel
theorem d2_35 : decode kb2 35 = .ok (.iload_n 3, 1) := by decide +kernel
theorem d2_36 : decode kb2 36 = .ok (.invokestatic 177, 3) := by decide +kernel
theorem d2_39 : decode kb2 39 = .ok (.astore 5, 2) := by decide +kernel
theorem d2_41 : decode kb2 41 = .ok (.aload_n 0, 1) := by decide +kernel
theorem d2_42 : decode kb2 42 = .ok (.aload 5, 2) := by decide +kernel
theorem d2_44 : decode kb2 44 = .ok (.iload_n 3, 1) := by decide +kernel
theorem d2_45 : decode kb2 45 = .ok (.invokestatic 47, 3) := by decide +kernel
theorem d2_48 : decode kb2 48 = .ok (.putfield 15, 3) := by decide +kernel
theorem d2_51 : decode kb2 51 = .ok (.aload_n 0, 1) := by decide +kernel
theorem d2_52 : decode kb2 52 = .ok (.aload 5, 2) := by decide +kernel
theorem d2_54 : decode kb2 54 = .ok (.putfield 9, 3) := by decide +kernel
theorem d2_57 : decode kb2 57 = .ok (.return_, 1) := by decide +kernel
abbrev kb1 : ByteArray := jdk_42_method_3_code
theorem d1_0 : decode kb1 0 = .ok (.aload_n 0, 1) := by decide +kernel
theorem d1_1 : decode kb1 1 = .ok (.aload_n 1, 1) := by decide +kernel
theorem d1_2 : decode kb1 2 = .ok (.iconst 0, 1) := by decide +kernel
theorem d1_3 : decode kb1 3 = .ok (.aload_n 1, 1) := by decide +kernel
theorem d1_4 : decode kb1 4 = .ok (.arraylength, 1) := by decide +kernel
theorem d1_5 : decode kb1 5 = .ok (.aconst_null, 1) := by decide +kernel
theorem d1_6 : decode kb1 6 = .ok (.invokespecial 27, 3) := by decide +kernel
theorem d1_9 : decode kb1 9 = .ok (.return_, 1) := by decide +kernel
abbrev kb28 : ByteArray := method_2_code
theorem d28_0 : decode kb28 0 = .ok (.iload_n 0, 1) := by decide +kernel
theorem d28_1 : decode kb28 1 = .ok (.bipush 63, 2) := by decide +kernel
theorem d28_3 : decode kb28 3 = .ok (.iand, 1) := by decide +kernel
theorem d28_4 : decode kb28 4 = .ok (.istore_n 1, 1) := by decide +kernel
theorem d28_5 : decode kb28 5 = .ok (.iload_n 1, 1) := by decide +kernel
theorem d28_6 : decode kb28 6 = .ok (.bipush 26, 2) := by decide +kernel
theorem d28_8 : decode kb28 8 = .ok (.if_icmp .ge 9, 3) := by decide +kernel
theorem d28_11 : decode kb28 11 = .ok (.bipush 65, 2) := by decide +kernel
theorem d28_13 : decode kb28 13 = .ok (.iload_n 1, 1) := by decide +kernel
theorem d28_14 : decode kb28 14 = .ok (.iadd, 1) := by decide +kernel
theorem d28_15 : decode kb28 15 = .ok (.i2c, 1) := by decide +kernel
theorem d28_16 : decode kb28 16 = .ok (.ireturn, 1) := by decide +kernel
theorem d28_17 : decode kb28 17 = .ok (.iload_n 1, 1) := by decide +kernel
theorem d28_18 : decode kb28 18 = .ok (.bipush 52, 2) := by decide +kernel
theorem d28_20 : decode kb28 20 = .ok (.if_icmp .ge 12, 3) := by decide +kernel
theorem d28_23 : decode kb28 23 = .ok (.bipush 97, 2) := by decide +kernel
theorem d28_25 : decode kb28 25 = .ok (.iload_n 1, 1) := by decide +kernel
theorem d28_26 : decode kb28 26 = .ok (.bipush 26, 2) := by decide +kernel
theorem d28_28 : decode kb28 28 = .ok (.isub, 1) := by decide +kernel
theorem d28_29 : decode kb28 29 = .ok (.iadd, 1) := by decide +kernel
theorem d28_30 : decode kb28 30 = .ok (.i2c, 1) := by decide +kernel
theorem d28_31 : decode kb28 31 = .ok (.ireturn, 1) := by decide +kernel
theorem d28_32 : decode kb28 32 = .ok (.iload_n 1, 1) := by decide +kernel
theorem d28_33 : decode kb28 33 = .ok (.bipush 62, 2) := by decide +kernel
theorem d28_35 : decode kb28 35 = .ok (.if_icmp .ge 12, 3) := by decide +kernel
theorem d28_38 : decode kb28 38 = .ok (.bipush 48, 2) := by decide +kernel
theorem d28_40 : decode kb28 40 = .ok (.iload_n 1, 1) := by decide +kernel
theorem d28_41 : decode kb28 41 = .ok (.bipush 52, 2) := by decide +kernel
theorem d28_43 : decode kb28 43 = .ok (.isub, 1) := by decide +kernel
theorem d28_44 : decode kb28 44 = .ok (.iadd, 1) := by decide +kernel
theorem d28_45 : decode kb28 45 = .ok (.i2c, 1) := by decide +kernel
theorem d28_46 : decode kb28 46 = .ok (.ireturn, 1) := by decide +kernel
theorem d28_47 : decode kb28 47 = .ok (.iload_n 1, 1) := by decide +kernel
theorem d28_48 : decode kb28 48 = .ok (.bipush 62, 2) := by decide +kernel
theorem d28_50 : decode kb28 50 = .ok (.if_icmp .ne 6, 3) := by decide +kernel
theorem d28_53 : decode kb28 53 = .ok (.bipush 43, 2) := by decide +kernel
theorem d28_55 : decode kb28 55 = .ok (.ireturn, 1) := by decide +kernel
theorem d28_56 : decode kb28 56 = .ok (.bipush 47, 2) := by decide +kernel
theorem d28_58 : decode kb28 58 = .ok (.ireturn, 1) := by decide +kernel
abbrev kb27 : ByteArray := method_3_code
theorem d27_0 : decode kb27 0 = .ok (.aload_n 0, 1) := by decide +kernel
theorem d27_1 : decode kb27 1 = .ok (.iload_n 1, 1) := by decide +kernel
theorem d27_2 : decode kb27 2 = .ok (.iaload, 1) := by decide +kernel
theorem d27_3 : decode kb27 3 = .ok (.istore 5, 2) := by decide +kernel
theorem d27_5 : decode kb27 5 = .ok (.iload_n 2, 1) := by decide +kernel
theorem d27_6 : decode kb27 6 = .ok (.iconst 1, 1) := by decide +kernel
theorem d27_7 : decode kb27 7 = .ok (.if_icmp .le 11, 3) := by decide +kernel
theorem d27_10 : decode kb27 10 = .ok (.aload_n 0, 1) := by decide +kernel
theorem d27_11 : decode kb27 11 = .ok (.iload_n 1, 1) := by decide +kernel
theorem d27_12 : decode kb27 12 = .ok (.iconst 1, 1) := by decide +kernel
theorem d27_13 : decode kb27 13 = .ok (.iadd, 1) := by decide +kernel
theorem d27_14 : decode kb27 14 = .ok (.iaload, 1) := by decide +kernel
theorem d27_15 : decode kb27 15 = .ok (.goto 4, 3) := by decide +kernel
theorem d27_18 : decode kb27 18 = .ok (.iconst 0, 1) := by decide +kernel
theorem d27_19 : decode kb27 19 = .ok (.istore 6, 2) := by decide +kernel
theorem d27_21 : decode kb27 21 = .ok (.iload_n 2, 1) := by decide +kernel
theorem d27_22 : decode kb27 22 = .ok (.iconst 2, 1) := by decide +kernel
theorem d27_23 : decode kb27 23 = .ok (.if_icmp .le 11, 3) := by decide +kernel
theorem d27_26 : decode kb27 26 = .ok (.aload_n 0, 1) := by decide +kernel
theorem d27_27 : decode kb27 27 = .ok (.iload_n 1, 1) := by decide +kernel
theorem d27_28 : decode kb27 28 = .ok (.iconst 2, 1) := by decide +kernel
theorem d27_29 : decode kb27 29 = .ok (.iadd, 1) := by decide +kernel
theorem d27_30 : decode kb27 30 = .ok (.iaload, 1) := by decide +kernel
theorem d27_31 : decode kb27 31 = .ok (.goto 4, 3) := by decide +kernel
theorem d27_34 : decode kb27 34 = .ok (.iconst 0, 1) := by decide +kernel
theorem d27_35 : decode kb27 35 = .ok (.istore 7, 2) := by decide +kernel
theorem d27_37 : decode kb27 37 = .ok (.iload 5, 2) := by decide +kernel
theorem d27_39 : decode kb27 39 = .ok (.bipush 16, 2) := by decide +kernel
theorem d27_41 : decode kb27 41 = .ok (.ishl, 1) := by decide +kernel
theorem d27_42 : decode kb27 42 = .ok (.iload 6, 2) := by decide +kernel
theorem d27_44 : decode kb27 44 = .ok (.bipush 8, 2) := by decide +kernel
theorem d27_46 : decode kb27 46 = .ok (.ishl, 1) := by decide +kernel
theorem d27_47 : decode kb27 47 = .ok (.ior, 1) := by decide +kernel
theorem d27_48 : decode kb27 48 = .ok (.iload 7, 2) := by decide +kernel
theorem d27_50 : decode kb27 50 = .ok (.ior, 1) := by decide +kernel
theorem d27_51 : decode kb27 51 = .ok (.istore 8, 2) := by decide +kernel
theorem d27_53 : decode kb27 53 = .ok (.aload_n 3, 1) := by decide +kernel
theorem d27_54 : decode kb27 54 = .ok (.iload 4, 2) := by decide +kernel
theorem d27_56 : decode kb27 56 = .ok (.iload 8, 2) := by decide +kernel
theorem d27_58 : decode kb27 58 = .ok (.bipush 18, 2) := by decide +kernel
theorem d27_60 : decode kb27 60 = .ok (.iushr, 1) := by decide +kernel
theorem d27_61 : decode kb27 61 = .ok (.invokestatic 7, 3) := by decide +kernel
theorem d27_64 : decode kb27 64 = .ok (.castore, 1) := by decide +kernel
theorem d27_65 : decode kb27 65 = .ok (.aload_n 3, 1) := by decide +kernel
theorem d27_66 : decode kb27 66 = .ok (.iload 4, 2) := by decide +kernel
theorem d27_68 : decode kb27 68 = .ok (.iconst 1, 1) := by decide +kernel
theorem d27_69 : decode kb27 69 = .ok (.iadd, 1) := by decide +kernel
theorem d27_70 : decode kb27 70 = .ok (.iload 8, 2) := by decide +kernel
theorem d27_72 : decode kb27 72 = .ok (.bipush 12, 2) := by decide +kernel
theorem d27_74 : decode kb27 74 = .ok (.iushr, 1) := by decide +kernel
theorem d27_75 : decode kb27 75 = .ok (.invokestatic 7, 3) := by decide +kernel
theorem d27_78 : decode kb27 78 = .ok (.castore, 1) := by decide +kernel
theorem d27_79 : decode kb27 79 = .ok (.aload_n 3, 1) := by decide +kernel
theorem d27_80 : decode kb27 80 = .ok (.iload 4, 2) := by decide +kernel
theorem d27_82 : decode kb27 82 = .ok (.iconst 2, 1) := by decide +kernel
theorem d27_83 : decode kb27 83 = .ok (.iadd, 1) := by decide +kernel
theorem d27_84 : decode kb27 84 = .ok (.iload_n 2, 1) := by decide +kernel
theorem d27_85 : decode kb27 85 = .ok (.iconst 1, 1) := by decide +kernel
theorem d27_86 : decode kb27 86 = .ok (.if_icmp .le 14, 3) := by decide +kernel
theorem d27_89 : decode kb27 89 = .ok (.iload 8, 2) := by decide +kernel
theorem d27_91 : decode kb27 91 = .ok (.bipush 6, 2) := by decide +kernel
theorem d27_93 : decode kb27 93 = .ok (.iushr, 1) := by decide +kernel
theorem d27_94 : decode kb27 94 = .ok (.invokestatic 7, 3) := by decide +kernel
theorem d27_97 : decode kb27 97 = .ok (.goto 5, 3) := by decide +kernel
theorem d27_100 : decode kb27 100 = .ok (.bipush 61, 2) := by decide +kernel
theorem d27_102 : decode kb27 102 = .ok (.castore, 1) := by decide +kernel
theorem d27_103 : decode kb27 103 = .ok (.aload_n 3, 1) := by decide +kernel
theorem d27_104 : decode kb27 104 = .ok (.iload 4, 2) := by decide +kernel
theorem d27_106 : decode kb27 106 = .ok (.iconst 3, 1) := by decide +kernel
theorem d27_107 : decode kb27 107 = .ok (.iadd, 1) := by decide +kernel
theorem d27_108 : decode kb27 108 = .ok (.iload_n 2, 1) := by decide +kernel
theorem d27_109 : decode kb27 109 = .ok (.iconst 2, 1) := by decide +kernel
theorem d27_110 : decode kb27 110 = .ok (.if_icmp .le 11, 3) := by decide +kernel
theorem d27_113 : decode kb27 113 = .ok (.iload 8, 2) := by decide +kernel
theorem d27_115 : decode kb27 115 = .ok (.invokestatic 7, 3) := by decide +kernel
theorem d27_118 : decode kb27 118 = .ok (.goto 5, 3) := by decide +kernel
theorem d27_121 : decode kb27 121 = .ok (.bipush 61, 2) := by decide +kernel
theorem d27_123 : decode kb27 123 = .ok (.castore, 1) := by decide +kernel
theorem d27_124 : decode kb27 124 = .ok (.return_, 1) := by decide +kernel
abbrev kb26 : ByteArray := method_4_code
theorem d26_0 : decode kb26 0 = .ok (.iload_n 2, 1) := by decide +kernel
theorem d26_1 : decode kb26 1 = .ok (.iload_n 3, 1) := by decide +kernel
theorem d26_2 : decode kb26 2 = .ok (.if_icmp .ge 16, 3) := by decide +kernel
theorem d26_5 : decode kb26 5 = .ok (.aload_n 0, 1) := by decide +kernel
theorem d26_6 : decode kb26 6 = .ok (.iload_n 2, 1) := by decide +kernel
theorem d26_7 : decode kb26 7 = .ok (.baload, 1) := by decide +kernel
theorem d26_8 : decode kb26 8 = .ok (.sipush 255, 3) := by decide +kernel
theorem d26_11 : decode kb26 11 = .ok (.iand, 1) := by decide +kernel
theorem d26_12 : decode kb26 12 = .ok (.aload_n 1, 1) := by decide +kernel
theorem d26_13 : decode kb26 13 = .ok (.iload_n 2, 1) := by decide +kernel
theorem d26_14 : decode kb26 14 = .ok (.iaload, 1) := by decide +kernel
theorem d26_15 : decode kb26 15 = .ok (.if_icmp .ne 7, 3) := by decide +kernel
theorem d26_18 : decode kb26 18 = .ok (.iconst 1, 1) := by decide +kernel
theorem d26_19 : decode kb26 19 = .ok (.goto 4, 3) := by decide +kernel
theorem d26_23 : decode kb26 23 = .ok (.ireturn, 1) := by decide +kernel
abbrev kb7 : ByteArray := jdk_42_method_152_code
theorem d7_0 : decode kb7 0 = .ok (.getstatic 38, 3) := by decide +kernel
theorem d7_3 : decode kb7 3 = .ok (.ifCond .eq 10, 3) := by decide +kernel
theorem d7_6 : decode kb7 6 = .ok (.aload_n 0, 1) := by decide +kernel
theorem d7_7 : decode kb7 7 = .ok (.getfield 15, 3) := by decide +kernel
theorem d7_10 : decode kb7 10 = .ok (.goto 4, 3) := by decide +kernel
theorem d7_14 : decode kb7 14 = .ok (.ireturn, 1) := by decide +kernel
abbrev kb10 : ByteArray := jdk_42_method_27_code
theorem d10_0 : decode kb10 0 = .ok (.iload_n 0, 1) := by decide +kernel
theorem d10_1 : decode kb10 1 = .ok (.ifCond .ne 11, 3) := by decide +kernel
theorem d10_4 : decode kb10 4 = .ok (.aload_n 1, 1) := by decide +kernel
theorem d10_5 : decode kb10 5 = .ok (.invokevirtual 279, 3) := by decide +kernel
theorem d10_8 : decode kb10 8 = .ok (.checkcast 280, 3) := by decide +kernel
theorem d10_11 : decode kb10 11 = .ok (.areturn, 1) := by decide +kernel
abbrev kb9 : ByteArray := jdk_42_method_26_code
theorem d9_0 : decode kb9 0 = .ok (.iload_n 0, 1) := by decide +kernel
theorem d9_1 : decode kb9 1 = .ok (.aload_n 1, 1) := by decide +kernel
theorem d9_2 : decode kb9 2 = .ok (.iconst 1, 1) := by decide +kernel
theorem d9_3 : decode kb9 3 = .ok (.invokestatic 351, 3) := by decide +kernel
theorem d9_6 : decode kb9 6 = .ok (.areturn, 1) := by decide +kernel
abbrev kb8 : ByteArray := jdk_42_method_18_code
theorem d8_0 : decode kb8 0 = .ok (.aload_n 0, 1) := by decide +kernel
theorem d8_1 : decode kb8 1 = .ok (.getstatic 86, 3) := by decide +kernel
theorem d8_4 : decode kb8 4 = .ok (.if_acmp .ne 10, 3) := by decide +kernel
theorem d8_14 : decode kb8 14 = .ok (.aload_n 0, 1) := by decide +kernel
theorem d8_15 : decode kb8 15 = .ok (.getstatic 116, 3) := by decide +kernel
theorem d8_18 : decode kb8 18 = .ok (.if_acmp .ne 9, 3) := by decide +kernel
theorem d8_21 : decode kb8 21 = .ok (.iload_n 1, 1) := by decide +kernel
theorem d8_22 : decode kb8 22 = .ok (.aload_n 2, 1) := by decide +kernel
theorem d8_23 : decode kb8 23 = .ok (.invokestatic 256, 3) := by decide +kernel
theorem d8_26 : decode kb8 26 = .ok (.areturn, 1) := by decide +kernel
abbrev kb6 : ByteArray := jdk_42_method_64_code
theorem d6_0 : decode kb6 0 = .ok (.aload_n 1, 1) := by decide +kernel
theorem d6_1 : decode kb6 1 = .ok (.ifnonnull 11, 3) := by decide +kernel
theorem d6_12 : decode kb6 12 = .ok (.aload_n 1, 1) := by decide +kernel
theorem d6_13 : decode kb6 13 = .ok (.aload_n 0, 1) := by decide +kernel
theorem d6_14 : decode kb6 14 = .ok (.invokevirtual 335, 3) := by decide +kernel
theorem d6_17 : decode kb6 17 = .ok (.aload_n 0, 1) := by decide +kernel
theorem d6_18 : decode kb6 18 = .ok (.getfield 9, 3) := by decide +kernel
theorem d6_21 : decode kb6 21 = .ok (.invokestatic 535, 3) := by decide +kernel
theorem d6_24 : decode kb6 24 = .ok (.areturn, 1) := by decide +kernel
abbrev kb4 : ByteArray := jdk_2448_method_6_code
theorem d4_0 : decode kb4 0 = .ok (.getstatic 57, 3) := by decide +kernel
theorem d4_3 : decode kb4 3 = .ok (.areturn, 1) := by decide +kernel
abbrev kb15 : ByteArray := jdk_2448_method_2_code
theorem d15_0 : decode kb15 0 = .ok (.getstatic 7, 3) := by decide +kernel
theorem d15_3 : decode kb15 3 = .ok (.areturn, 1) := by decide +kernel
abbrev kb12 : ByteArray := jdk_2450_method_7_code
theorem d12_0 : decode kb12 0 = .ok (.aload_n 0, 1) := by decide +kernel
theorem d12_1 : decode kb12 1 = .ok (.getfield 7, 3) := by decide +kernel
theorem d12_4 : decode kb12 4 = .ok (.ifCond .eq 9, 3) := by decide +kernel
theorem d12_13 : decode kb12 13 = .ok (.getstatic 99, 3) := by decide +kernel
theorem d12_16 : decode kb12 16 = .ok (.astore 4, 2) := by decide +kernel
theorem d12_18 : decode kb12 18 = .ok (.iconst 0, 1) := by decide +kernel
theorem d12_19 : decode kb12 19 = .ok (.istore 5, 2) := by decide +kernel
theorem d12_21 : decode kb12 21 = .ok (.iload_n 3, 1) := by decide +kernel
theorem d12_22 : decode kb12 22 = .ok (.iload_n 2, 1) := by decide +kernel
theorem d12_23 : decode kb12 23 = .ok (.isub, 1) := by decide +kernel
theorem d12_24 : decode kb12 24 = .ok (.istore 6, 2) := by decide +kernel
theorem d12_26 : decode kb12 26 = .ok (.iload 6, 2) := by decide +kernel
theorem d12_28 : decode kb12 28 = .ok (.ifCond .ne 5, 3) := by decide +kernel
theorem d12_31 : decode kb12 31 = .ok (.iconst 0, 1) := by decide +kernel
theorem d12_32 : decode kb12 32 = .ok (.ireturn, 1) := by decide +kernel
theorem d12_33 : decode kb12 33 = .ok (.iload 6, 2) := by decide +kernel
theorem d12_35 : decode kb12 35 = .ok (.iconst 2, 1) := by decide +kernel
theorem d12_36 : decode kb12 36 = .ok (.if_icmp .ge 30, 3) := by decide +kernel
theorem d12_66 : decode kb12 66 = .ok (.aload_n 0, 1) := by decide +kernel
theorem d12_67 : decode kb12 67 = .ok (.getfield 13, 3) := by decide +kernel
theorem d12_70 : decode kb12 70 = .ok (.ifCond .eq 71, 3) := by decide +kernel
theorem d12_141 : decode kb12 141 = .ok (.aload_n 1, 1) := by decide +kernel
theorem d12_142 : decode kb12 142 = .ok (.iload_n 3, 1) := by decide +kernel
theorem d12_143 : decode kb12 143 = .ok (.iconst 1, 1) := by decide +kernel
theorem d12_144 : decode kb12 144 = .ok (.isub, 1) := by decide +kernel
theorem d12_145 : decode kb12 145 = .ok (.baload, 1) := by decide +kernel
theorem d12_146 : decode kb12 146 = .ok (.bipush 61, 2) := by decide +kernel
theorem d12_148 : decode kb12 148 = .ok (.if_icmp .ne 19, 3) := by decide +kernel
theorem d12_151 : decode kb12 151 = .ok (.iinc 5 1, 3) := by decide +kernel
theorem d12_154 : decode kb12 154 = .ok (.aload_n 1, 1) := by decide +kernel
theorem d12_155 : decode kb12 155 = .ok (.iload_n 3, 1) := by decide +kernel
theorem d12_156 : decode kb12 156 = .ok (.iconst 2, 1) := by decide +kernel
theorem d12_157 : decode kb12 157 = .ok (.isub, 1) := by decide +kernel
theorem d12_158 : decode kb12 158 = .ok (.baload, 1) := by decide +kernel
theorem d12_159 : decode kb12 159 = .ok (.bipush 61, 2) := by decide +kernel
theorem d12_161 : decode kb12 161 = .ok (.if_icmp .ne 6, 3) := by decide +kernel
theorem d12_164 : decode kb12 164 = .ok (.iinc 5 1, 3) := by decide +kernel
theorem d12_167 : decode kb12 167 = .ok (.iload 5, 2) := by decide +kernel
theorem d12_169 : decode kb12 169 = .ok (.ifCond .ne 18, 3) := by decide +kernel
theorem d12_172 : decode kb12 172 = .ok (.iload 6, 2) := by decide +kernel
theorem d12_174 : decode kb12 174 = .ok (.iconst 3, 1) := by decide +kernel
theorem d12_175 : decode kb12 175 = .ok (.iand, 1) := by decide +kernel
theorem d12_176 : decode kb12 176 = .ok (.ifCond .eq 11, 3) := by decide +kernel
theorem d12_187 : decode kb12 187 = .ok (.iconst 3, 1) := by decide +kernel
theorem d12_188 : decode kb12 188 = .ok (.iload 6, 2) := by decide +kernel
theorem d12_190 : decode kb12 190 = .ok (.i2l, 1) := by decide +kernel
theorem d12_191 : decode kb12 191 = .ok (.ldc2_w 107, 3) := by decide +kernel
theorem d12_194 : decode kb12 194 = .ok (.ladd, 1) := by decide +kernel
theorem d12_195 : decode kb12 195 = .ok (.ldc2_w 109, 3) := by decide +kernel
theorem d12_198 : decode kb12 198 = .ok (.ldiv, 1) := by decide +kernel
theorem d12_199 : decode kb12 199 = .ok (.l2i, 1) := by decide +kernel
theorem d12_200 : decode kb12 200 = .ok (.imul, 1) := by decide +kernel
theorem d12_201 : decode kb12 201 = .ok (.iload 5, 2) := by decide +kernel
theorem d12_203 : decode kb12 203 = .ok (.isub, 1) := by decide +kernel
theorem d12_204 : decode kb12 204 = .ok (.ireturn, 1) := by decide +kernel
abbrev kb13 : ByteArray := jdk_2450_method_9_code
theorem d13_0 : decode kb13 0 = .ok (.aload_n 0, 1) := by decide +kernel
theorem d13_1 : decode kb13 1 = .ok (.getfield 7, 3) := by decide +kernel
theorem d13_4 : decode kb13 4 = .ok (.ifCond .eq 9, 3) := by decide +kernel
theorem d13_13 : decode kb13 13 = .ok (.getstatic 99, 3) := by decide +kernel
theorem d13_16 : decode kb13 16 = .ok (.astore 5, 2) := by decide +kernel
theorem d13_18 : decode kb13 18 = .ok (.iconst 0, 1) := by decide +kernel
theorem d13_19 : decode kb13 19 = .ok (.istore 6, 2) := by decide +kernel
theorem d13_21 : decode kb13 21 = .ok (.iconst 0, 1) := by decide +kernel
theorem d13_22 : decode kb13 22 = .ok (.istore 7, 2) := by decide +kernel
theorem d13_24 : decode kb13 24 = .ok (.bipush 18, 2) := by decide +kernel
theorem d13_26 : decode kb13 26 = .ok (.istore 8, 2) := by decide +kernel
theorem d13_28 : decode kb13 28 = .ok (.iload_n 2, 1) := by decide +kernel
theorem d13_29 : decode kb13 29 = .ok (.iload_n 3, 1) := by decide +kernel
theorem d13_30 : decode kb13 30 = .ok (.if_icmp .ge 251, 3) := by decide +kernel
theorem d13_33 : decode kb13 33 = .ok (.iload 8, 2) := by decide +kernel
theorem d13_35 : decode kb13 35 = .ok (.bipush 18, 2) := by decide +kernel
theorem d13_37 : decode kb13 37 = .ok (.if_icmp .ne 53, 3) := by decide +kernel
theorem d13_40 : decode kb13 40 = .ok (.iload_n 2, 1) := by decide +kernel
theorem d13_41 : decode kb13 41 = .ok (.iload_n 3, 1) := by decide +kernel
theorem d13_42 : decode kb13 42 = .ok (.iconst 4, 1) := by decide +kernel
theorem d13_43 : decode kb13 43 = .ok (.isub, 1) := by decide +kernel
theorem d13_44 : decode kb13 44 = .ok (.if_icmp .ge 46, 3) := by decide +kernel
theorem d13_47 : decode kb13 47 = .ok (.aload_n 0, 1) := by decide +kernel
theorem d13_48 : decode kb13 48 = .ok (.aload_n 1, 1) := by decide +kernel
theorem d13_49 : decode kb13 49 = .ok (.iload_n 2, 1) := by decide +kernel
theorem d13_50 : decode kb13 50 = .ok (.iload_n 3, 1) := by decide +kernel
theorem d13_51 : decode kb13 51 = .ok (.aload 4, 2) := by decide +kernel
theorem d13_53 : decode kb13 53 = .ok (.iload 6, 2) := by decide +kernel
theorem d13_55 : decode kb13 55 = .ok (.aload_n 0, 1) := by decide +kernel
theorem d13_56 : decode kb13 56 = .ok (.getfield 7, 3) := by decide +kernel
theorem d13_59 : decode kb13 59 = .ok (.aload_n 0, 1) := by decide +kernel
theorem d13_60 : decode kb13 60 = .ok (.getfield 13, 3) := by decide +kernel
theorem d13_63 : decode kb13 63 = .ok (.invokevirtual 111, 3) := by decide +kernel
theorem d13_66 : decode kb13 66 = .ok (.istore 9, 2) := by decide +kernel
theorem d13_68 : decode kb13 68 = .ok (.iload 9, 2) := by decide +kernel
theorem d13_70 : decode kb13 70 = .ok (.iconst 2, 1) := by decide +kernel
theorem d13_71 : decode kb13 71 = .ok (.iadd, 1) := by decide +kernel
theorem d13_72 : decode kb13 72 = .ok (.iconst 3, 1) := by decide +kernel
theorem d13_73 : decode kb13 73 = .ok (.idiv, 1) := by decide +kernel
theorem d13_74 : decode kb13 74 = .ok (.iconst 4, 1) := by decide +kernel
theorem d13_75 : decode kb13 75 = .ok (.imul, 1) := by decide +kernel
theorem d13_76 : decode kb13 76 = .ok (.istore 10, 2) := by decide +kernel
theorem d13_78 : decode kb13 78 = .ok (.iload_n 2, 1) := by decide +kernel
theorem d13_79 : decode kb13 79 = .ok (.iload 10, 2) := by decide +kernel
theorem d13_81 : decode kb13 81 = .ok (.iadd, 1) := by decide +kernel
theorem d13_82 : decode kb13 82 = .ok (.istore_n 2, 1) := by decide +kernel
theorem d13_83 : decode kb13 83 = .ok (.iload 6, 2) := by decide +kernel
theorem d13_85 : decode kb13 85 = .ok (.iload 9, 2) := by decide +kernel
theorem d13_87 : decode kb13 87 = .ok (.iadd, 1) := by decide +kernel
theorem d13_88 : decode kb13 88 = .ok (.istore 6, 2) := by decide +kernel
theorem d13_90 : decode kb13 90 = .ok (.iload_n 2, 1) := by decide +kernel
theorem d13_91 : decode kb13 91 = .ok (.iload_n 3, 1) := by decide +kernel
theorem d13_92 : decode kb13 92 = .ok (.if_icmp .lt 6, 3) := by decide +kernel
theorem d13_95 : decode kb13 95 = .ok (.goto 186, 3) := by decide +kernel
theorem d13_98 : decode kb13 98 = .ok (.aload_n 1, 1) := by decide +kernel
theorem d13_99 : decode kb13 99 = .ok (.iload_n 2, 1) := by decide +kernel
theorem d13_100 : decode kb13 100 = .ok (.iinc 2 1, 3) := by decide +kernel
theorem d13_103 : decode kb13 103 = .ok (.baload, 1) := by decide +kernel
theorem d13_104 : decode kb13 104 = .ok (.sipush 255, 3) := by decide +kernel
theorem d13_107 : decode kb13 107 = .ok (.iand, 1) := by decide +kernel
theorem d13_108 : decode kb13 108 = .ok (.istore 9, 2) := by decide +kernel
theorem d13_110 : decode kb13 110 = .ok (.aload 5, 2) := by decide +kernel
theorem d13_112 : decode kb13 112 = .ok (.iload 9, 2) := by decide +kernel
theorem d13_114 : decode kb13 114 = .ok (.iaload, 1) := by decide +kernel
theorem d13_115 : decode kb13 115 = .ok (.dup, 1) := by decide +kernel
theorem d13_116 : decode kb13 116 = .ok (.istore 9, 2) := by decide +kernel
theorem d13_118 : decode kb13 118 = .ok (.ifCond .ge 96, 3) := by decide +kernel
theorem d13_121 : decode kb13 121 = .ok (.iload 9, 2) := by decide +kernel
theorem d13_123 : decode kb13 123 = .ok (.bipush (-2), 2) := by decide +kernel
theorem d13_125 : decode kb13 125 = .ok (.if_icmp .ne 43, 3) := by decide +kernel
theorem d13_128 : decode kb13 128 = .ok (.iload 8, 2) := by decide +kernel
theorem d13_130 : decode kb13 130 = .ok (.bipush 6, 2) := by decide +kernel
theorem d13_132 : decode kb13 132 = .ok (.if_icmp .ne 19, 3) := by decide +kernel
theorem d13_135 : decode kb13 135 = .ok (.iload_n 2, 1) := by decide +kernel
theorem d13_136 : decode kb13 136 = .ok (.iload_n 3, 1) := by decide +kernel
theorem d13_137 : decode kb13 137 = .ok (.if_icmp .eq 21, 3) := by decide +kernel
theorem d13_140 : decode kb13 140 = .ok (.aload_n 1, 1) := by decide +kernel
theorem d13_141 : decode kb13 141 = .ok (.iload_n 2, 1) := by decide +kernel
theorem d13_142 : decode kb13 142 = .ok (.iinc 2 1, 3) := by decide +kernel
theorem d13_145 : decode kb13 145 = .ok (.baload, 1) := by decide +kernel
theorem d13_146 : decode kb13 146 = .ok (.bipush 61, 2) := by decide +kernel
theorem d13_148 : decode kb13 148 = .ok (.if_icmp .ne 10, 3) := by decide +kernel
theorem d13_151 : decode kb13 151 = .ok (.iload 8, 2) := by decide +kernel
theorem d13_153 : decode kb13 153 = .ok (.bipush 18, 2) := by decide +kernel
theorem d13_155 : decode kb13 155 = .ok (.if_icmp .ne 126, 3) := by decide +kernel
theorem d13_214 : decode kb13 214 = .ok (.iload 7, 2) := by decide +kernel
theorem d13_216 : decode kb13 216 = .ok (.iload 9, 2) := by decide +kernel
theorem d13_218 : decode kb13 218 = .ok (.iload 8, 2) := by decide +kernel
theorem d13_220 : decode kb13 220 = .ok (.ishl, 1) := by decide +kernel
theorem d13_221 : decode kb13 221 = .ok (.ior, 1) := by decide +kernel
theorem d13_222 : decode kb13 222 = .ok (.istore 7, 2) := by decide +kernel
theorem d13_224 : decode kb13 224 = .ok (.iinc 8 (-6), 3) := by decide +kernel
theorem d13_227 : decode kb13 227 = .ok (.iload 8, 2) := by decide +kernel
theorem d13_229 : decode kb13 229 = .ok (.ifCond .ge 49, 3) := by decide +kernel
theorem d13_232 : decode kb13 232 = .ok (.aload 4, 2) := by decide +kernel
theorem d13_234 : decode kb13 234 = .ok (.iload 6, 2) := by decide +kernel
theorem d13_236 : decode kb13 236 = .ok (.iinc 6 1, 3) := by decide +kernel
theorem d13_239 : decode kb13 239 = .ok (.iload 7, 2) := by decide +kernel
theorem d13_241 : decode kb13 241 = .ok (.bipush 16, 2) := by decide +kernel
theorem d13_243 : decode kb13 243 = .ok (.ishr, 1) := by decide +kernel
theorem d13_244 : decode kb13 244 = .ok (.i2b, 1) := by decide +kernel
theorem d13_245 : decode kb13 245 = .ok (.bastore, 1) := by decide +kernel
theorem d13_246 : decode kb13 246 = .ok (.aload 4, 2) := by decide +kernel
theorem d13_248 : decode kb13 248 = .ok (.iload 6, 2) := by decide +kernel
theorem d13_250 : decode kb13 250 = .ok (.iinc 6 1, 3) := by decide +kernel
theorem d13_253 : decode kb13 253 = .ok (.iload 7, 2) := by decide +kernel
theorem d13_255 : decode kb13 255 = .ok (.bipush 8, 2) := by decide +kernel
theorem d13_257 : decode kb13 257 = .ok (.ishr, 1) := by decide +kernel
theorem d13_258 : decode kb13 258 = .ok (.i2b, 1) := by decide +kernel
theorem d13_259 : decode kb13 259 = .ok (.bastore, 1) := by decide +kernel
theorem d13_260 : decode kb13 260 = .ok (.aload 4, 2) := by decide +kernel
theorem d13_262 : decode kb13 262 = .ok (.iload 6, 2) := by decide +kernel
theorem d13_264 : decode kb13 264 = .ok (.iinc 6 1, 3) := by decide +kernel
theorem d13_267 : decode kb13 267 = .ok (.iload 7, 2) := by decide +kernel
theorem d13_269 : decode kb13 269 = .ok (.i2b, 1) := by decide +kernel
theorem d13_270 : decode kb13 270 = .ok (.bastore, 1) := by decide +kernel
theorem d13_271 : decode kb13 271 = .ok (.bipush 18, 2) := by decide +kernel
theorem d13_273 : decode kb13 273 = .ok (.istore 8, 2) := by decide +kernel
theorem d13_275 : decode kb13 275 = .ok (.iconst 0, 1) := by decide +kernel
theorem d13_276 : decode kb13 276 = .ok (.istore 7, 2) := by decide +kernel
theorem d13_278 : decode kb13 278 = .ok (.goto (-250), 3) := by decide +kernel
theorem d13_281 : decode kb13 281 = .ok (.iload 8, 2) := by decide +kernel
theorem d13_283 : decode kb13 283 = .ok (.bipush 6, 2) := by decide +kernel
theorem d13_285 : decode kb13 285 = .ok (.if_icmp .ne 20, 3) := by decide +kernel
theorem d13_288 : decode kb13 288 = .ok (.aload 4, 2) := by decide +kernel
theorem d13_290 : decode kb13 290 = .ok (.iload 6, 2) := by decide +kernel
theorem d13_292 : decode kb13 292 = .ok (.iinc 6 1, 3) := by decide +kernel
theorem d13_295 : decode kb13 295 = .ok (.iload 7, 2) := by decide +kernel
theorem d13_297 : decode kb13 297 = .ok (.bipush 16, 2) := by decide +kernel
theorem d13_299 : decode kb13 299 = .ok (.ishr, 1) := by decide +kernel
theorem d13_300 : decode kb13 300 = .ok (.i2b, 1) := by decide +kernel
theorem d13_301 : decode kb13 301 = .ok (.bastore, 1) := by decide +kernel
theorem d13_302 : decode kb13 302 = .ok (.goto 56, 3) := by decide +kernel
theorem d13_305 : decode kb13 305 = .ok (.iload 8, 2) := by decide +kernel
theorem d13_307 : decode kb13 307 = .ok (.ifCond .ne 34, 3) := by decide +kernel
theorem d13_310 : decode kb13 310 = .ok (.aload 4, 2) := by decide +kernel
theorem d13_312 : decode kb13 312 = .ok (.iload 6, 2) := by decide +kernel
theorem d13_314 : decode kb13 314 = .ok (.iinc 6 1, 3) := by decide +kernel
theorem d13_317 : decode kb13 317 = .ok (.iload 7, 2) := by decide +kernel
theorem d13_319 : decode kb13 319 = .ok (.bipush 16, 2) := by decide +kernel
theorem d13_321 : decode kb13 321 = .ok (.ishr, 1) := by decide +kernel
theorem d13_322 : decode kb13 322 = .ok (.i2b, 1) := by decide +kernel
theorem d13_323 : decode kb13 323 = .ok (.bastore, 1) := by decide +kernel
theorem d13_324 : decode kb13 324 = .ok (.aload 4, 2) := by decide +kernel
theorem d13_326 : decode kb13 326 = .ok (.iload 6, 2) := by decide +kernel
theorem d13_328 : decode kb13 328 = .ok (.iinc 6 1, 3) := by decide +kernel
theorem d13_331 : decode kb13 331 = .ok (.iload 7, 2) := by decide +kernel
theorem d13_333 : decode kb13 333 = .ok (.bipush 8, 2) := by decide +kernel
theorem d13_335 : decode kb13 335 = .ok (.ishr, 1) := by decide +kernel
theorem d13_336 : decode kb13 336 = .ok (.i2b, 1) := by decide +kernel
theorem d13_337 : decode kb13 337 = .ok (.bastore, 1) := by decide +kernel
theorem d13_338 : decode kb13 338 = .ok (.goto 20, 3) := by decide +kernel
theorem d13_341 : decode kb13 341 = .ok (.iload 8, 2) := by decide +kernel
theorem d13_343 : decode kb13 343 = .ok (.bipush 12, 2) := by decide +kernel
theorem d13_345 : decode kb13 345 = .ok (.if_icmp .ne 13, 3) := by decide +kernel
theorem d13_358 : decode kb13 358 = .ok (.iload_n 2, 1) := by decide +kernel
theorem d13_359 : decode kb13 359 = .ok (.iload_n 3, 1) := by decide +kernel
theorem d13_360 : decode kb13 360 = .ok (.if_icmp .ge 56, 3) := by decide +kernel
theorem d13_416 : decode kb13 416 = .ok (.iload 6, 2) := by decide +kernel
theorem d13_418 : decode kb13 418 = .ok (.ireturn, 1) := by decide +kernel
abbrev kb11 : ByteArray := jdk_2450_method_2_code
theorem d11_0 : decode kb11 0 = .ok (.aload_n 0, 1) := by decide +kernel
theorem d11_1 : decode kb11 1 = .ok (.aload_n 1, 1) := by decide +kernel
theorem d11_2 : decode kb11 2 = .ok (.iconst 0, 1) := by decide +kernel
theorem d11_3 : decode kb11 3 = .ok (.aload_n 1, 1) := by decide +kernel
theorem d11_4 : decode kb11 4 = .ok (.arraylength, 1) := by decide +kernel
theorem d11_5 : decode kb11 5 = .ok (.invokevirtual 16, 3) := by decide +kernel
theorem d11_8 : decode kb11 8 = .ok (.newarray .byte, 2) := by decide +kernel
theorem d11_10 : decode kb11 10 = .ok (.astore_n 2, 1) := by decide +kernel
theorem d11_11 : decode kb11 11 = .ok (.aload_n 0, 1) := by decide +kernel
theorem d11_12 : decode kb11 12 = .ok (.aload_n 1, 1) := by decide +kernel
theorem d11_13 : decode kb11 13 = .ok (.iconst 0, 1) := by decide +kernel
theorem d11_14 : decode kb11 14 = .ok (.aload_n 1, 1) := by decide +kernel
theorem d11_15 : decode kb11 15 = .ok (.arraylength, 1) := by decide +kernel
theorem d11_16 : decode kb11 16 = .ok (.aload_n 2, 1) := by decide +kernel
theorem d11_17 : decode kb11 17 = .ok (.invokevirtual 20, 3) := by decide +kernel
theorem d11_20 : decode kb11 20 = .ok (.istore_n 3, 1) := by decide +kernel
theorem d11_21 : decode kb11 21 = .ok (.iload_n 3, 1) := by decide +kernel
theorem d11_22 : decode kb11 22 = .ok (.aload_n 2, 1) := by decide +kernel
theorem d11_23 : decode kb11 23 = .ok (.arraylength, 1) := by decide +kernel
theorem d11_24 : decode kb11 24 = .ok (.if_icmp .eq 9, 3) := by decide +kernel
theorem d11_33 : decode kb11 33 = .ok (.aload_n 2, 1) := by decide +kernel
theorem d11_34 : decode kb11 34 = .ok (.areturn, 1) := by decide +kernel
abbrev kb5 : ByteArray := jdk_2450_method_3_code
theorem d5_0 : decode kb5 0 = .ok (.aload_n 0, 1) := by decide +kernel
theorem d5_1 : decode kb5 1 = .ok (.aload_n 1, 1) := by decide +kernel
theorem d5_2 : decode kb5 2 = .ok (.getstatic 30, 3) := by decide +kernel
theorem d5_5 : decode kb5 5 = .ok (.invokevirtual 36, 3) := by decide +kernel
theorem d5_8 : decode kb5 8 = .ok (.invokevirtual 42, 3) := by decide +kernel
theorem d5_11 : decode kb5 11 = .ok (.areturn, 1) := by decide +kernel
abbrev kb33 : ByteArray := jdk_2450_method_8_code
theorem d33_0 : decode kb33 0 = .ok (.iload 6, 2) := by decide +kernel
theorem d33_2 : decode kb33 2 = .ok (.ifCond .eq 9, 3) := by decide +kernel
theorem d33_11 : decode kb33 11 = .ok (.getstatic 99, 3) := by decide +kernel
theorem d33_14 : decode kb33 14 = .ok (.astore 8, 2) := by decide +kernel
theorem d33_16 : decode kb33 16 = .ok (.iload_n 2, 1) := by decide +kernel
theorem d33_17 : decode kb33 17 = .ok (.iload_n 3, 1) := by decide +kernel
theorem d33_18 : decode kb33 18 = .ok (.iload_n 2, 1) := by decide +kernel
theorem d33_19 : decode kb33 19 = .ok (.isub, 1) := by decide +kernel
theorem d33_20 : decode kb33 20 = .ok (.bipush (-4), 2) := by decide +kernel
theorem d33_22 : decode kb33 22 = .ok (.iand, 1) := by decide +kernel
theorem d33_23 : decode kb33 23 = .ok (.iadd, 1) := by decide +kernel
theorem d33_24 : decode kb33 24 = .ok (.istore 9, 2) := by decide +kernel
theorem d33_26 : decode kb33 26 = .ok (.iload 5, 2) := by decide +kernel
theorem d33_28 : decode kb33 28 = .ok (.istore 10, 2) := by decide +kernel
theorem d33_30 : decode kb33 30 = .ok (.iload_n 2, 1) := by decide +kernel
theorem d33_31 : decode kb33 31 = .ok (.iload 9, 2) := by decide +kernel
theorem d33_33 : decode kb33 33 = .ok (.if_icmp .ge 147, 3) := by decide +kernel
theorem d33_36 : decode kb33 36 = .ok (.aload 8, 2) := by decide +kernel
theorem d33_38 : decode kb33 38 = .ok (.aload_n 1, 1) := by decide +kernel
theorem d33_39 : decode kb33 39 = .ok (.iload_n 2, 1) := by decide +kernel
theorem d33_40 : decode kb33 40 = .ok (.iinc 2 1, 3) := by decide +kernel
theorem d33_43 : decode kb33 43 = .ok (.baload, 1) := by decide +kernel
theorem d33_44 : decode kb33 44 = .ok (.sipush 255, 3) := by decide +kernel
theorem d33_47 : decode kb33 47 = .ok (.iand, 1) := by decide +kernel
theorem d33_48 : decode kb33 48 = .ok (.iaload, 1) := by decide +kernel
theorem d33_49 : decode kb33 49 = .ok (.istore 11, 2) := by decide +kernel
theorem d33_51 : decode kb33 51 = .ok (.aload 8, 2) := by decide +kernel
theorem d33_53 : decode kb33 53 = .ok (.aload_n 1, 1) := by decide +kernel
theorem d33_54 : decode kb33 54 = .ok (.iload_n 2, 1) := by decide +kernel
theorem d33_55 : decode kb33 55 = .ok (.iinc 2 1, 3) := by decide +kernel
theorem d33_58 : decode kb33 58 = .ok (.baload, 1) := by decide +kernel
theorem d33_59 : decode kb33 59 = .ok (.sipush 255, 3) := by decide +kernel
theorem d33_62 : decode kb33 62 = .ok (.iand, 1) := by decide +kernel
theorem d33_63 : decode kb33 63 = .ok (.iaload, 1) := by decide +kernel
theorem d33_64 : decode kb33 64 = .ok (.istore 12, 2) := by decide +kernel
theorem d33_66 : decode kb33 66 = .ok (.aload 8, 2) := by decide +kernel
theorem d33_68 : decode kb33 68 = .ok (.aload_n 1, 1) := by decide +kernel
theorem d33_69 : decode kb33 69 = .ok (.iload_n 2, 1) := by decide +kernel
theorem d33_70 : decode kb33 70 = .ok (.iinc 2 1, 3) := by decide +kernel
theorem d33_73 : decode kb33 73 = .ok (.baload, 1) := by decide +kernel
theorem d33_74 : decode kb33 74 = .ok (.sipush 255, 3) := by decide +kernel
theorem d33_77 : decode kb33 77 = .ok (.iand, 1) := by decide +kernel
theorem d33_78 : decode kb33 78 = .ok (.iaload, 1) := by decide +kernel
theorem d33_79 : decode kb33 79 = .ok (.istore 13, 2) := by decide +kernel
theorem d33_81 : decode kb33 81 = .ok (.aload 8, 2) := by decide +kernel
theorem d33_83 : decode kb33 83 = .ok (.aload_n 1, 1) := by decide +kernel
theorem d33_84 : decode kb33 84 = .ok (.iload_n 2, 1) := by decide +kernel
theorem d33_85 : decode kb33 85 = .ok (.iinc 2 1, 3) := by decide +kernel
theorem d33_88 : decode kb33 88 = .ok (.baload, 1) := by decide +kernel
theorem d33_89 : decode kb33 89 = .ok (.sipush 255, 3) := by decide +kernel
theorem d33_92 : decode kb33 92 = .ok (.iand, 1) := by decide +kernel
theorem d33_93 : decode kb33 93 = .ok (.iaload, 1) := by decide +kernel
theorem d33_94 : decode kb33 94 = .ok (.istore 14, 2) := by decide +kernel
theorem d33_96 : decode kb33 96 = .ok (.iload 11, 2) := by decide +kernel
theorem d33_98 : decode kb33 98 = .ok (.iload 12, 2) := by decide +kernel
theorem d33_100 : decode kb33 100 = .ok (.ior, 1) := by decide +kernel
theorem d33_101 : decode kb33 101 = .ok (.iload 13, 2) := by decide +kernel
theorem d33_103 : decode kb33 103 = .ok (.ior, 1) := by decide +kernel
theorem d33_104 : decode kb33 104 = .ok (.iload 14, 2) := by decide +kernel
theorem d33_106 : decode kb33 106 = .ok (.ior, 1) := by decide +kernel
theorem d33_107 : decode kb33 107 = .ok (.ifCond .ge 9, 3) := by decide +kernel
theorem d33_110 : decode kb33 110 = .ok (.iload 10, 2) := by decide +kernel
theorem d33_112 : decode kb33 112 = .ok (.iload 5, 2) := by decide +kernel
theorem d33_114 : decode kb33 114 = .ok (.isub, 1) := by decide +kernel
theorem d33_115 : decode kb33 115 = .ok (.ireturn, 1) := by decide +kernel
theorem d33_116 : decode kb33 116 = .ok (.iload 11, 2) := by decide +kernel
theorem d33_118 : decode kb33 118 = .ok (.bipush 18, 2) := by decide +kernel
theorem d33_120 : decode kb33 120 = .ok (.ishl, 1) := by decide +kernel
theorem d33_121 : decode kb33 121 = .ok (.iload 12, 2) := by decide +kernel
theorem d33_123 : decode kb33 123 = .ok (.bipush 12, 2) := by decide +kernel
theorem d33_125 : decode kb33 125 = .ok (.ishl, 1) := by decide +kernel
theorem d33_126 : decode kb33 126 = .ok (.ior, 1) := by decide +kernel
theorem d33_127 : decode kb33 127 = .ok (.iload 13, 2) := by decide +kernel
theorem d33_129 : decode kb33 129 = .ok (.bipush 6, 2) := by decide +kernel
theorem d33_131 : decode kb33 131 = .ok (.ishl, 1) := by decide +kernel
theorem d33_132 : decode kb33 132 = .ok (.ior, 1) := by decide +kernel
theorem d33_133 : decode kb33 133 = .ok (.iload 14, 2) := by decide +kernel
theorem d33_135 : decode kb33 135 = .ok (.ior, 1) := by decide +kernel
theorem d33_136 : decode kb33 136 = .ok (.istore 15, 2) := by decide +kernel
theorem d33_138 : decode kb33 138 = .ok (.aload 4, 2) := by decide +kernel
theorem d33_140 : decode kb33 140 = .ok (.iload 10, 2) := by decide +kernel
theorem d33_142 : decode kb33 142 = .ok (.iinc 10 1, 3) := by decide +kernel
theorem d33_145 : decode kb33 145 = .ok (.iload 15, 2) := by decide +kernel
theorem d33_147 : decode kb33 147 = .ok (.bipush 16, 2) := by decide +kernel
theorem d33_149 : decode kb33 149 = .ok (.ishr, 1) := by decide +kernel
theorem d33_150 : decode kb33 150 = .ok (.i2b, 1) := by decide +kernel
theorem d33_151 : decode kb33 151 = .ok (.bastore, 1) := by decide +kernel
theorem d33_152 : decode kb33 152 = .ok (.aload 4, 2) := by decide +kernel
theorem d33_154 : decode kb33 154 = .ok (.iload 10, 2) := by decide +kernel
theorem d33_156 : decode kb33 156 = .ok (.iinc 10 1, 3) := by decide +kernel
theorem d33_159 : decode kb33 159 = .ok (.iload 15, 2) := by decide +kernel
theorem d33_161 : decode kb33 161 = .ok (.bipush 8, 2) := by decide +kernel
theorem d33_163 : decode kb33 163 = .ok (.ishr, 1) := by decide +kernel
theorem d33_164 : decode kb33 164 = .ok (.i2b, 1) := by decide +kernel
theorem d33_165 : decode kb33 165 = .ok (.bastore, 1) := by decide +kernel
theorem d33_166 : decode kb33 166 = .ok (.aload 4, 2) := by decide +kernel
theorem d33_168 : decode kb33 168 = .ok (.iload 10, 2) := by decide +kernel
theorem d33_170 : decode kb33 170 = .ok (.iinc 10 1, 3) := by decide +kernel
theorem d33_173 : decode kb33 173 = .ok (.iload 15, 2) := by decide +kernel
theorem d33_175 : decode kb33 175 = .ok (.i2b, 1) := by decide +kernel
theorem d33_176 : decode kb33 176 = .ok (.bastore, 1) := by decide +kernel
theorem d33_177 : decode kb33 177 = .ok (.goto (-147), 3) := by decide +kernel
theorem d33_180 : decode kb33 180 = .ok (.iload 10, 2) := by decide +kernel
theorem d33_182 : decode kb33 182 = .ok (.iload 5, 2) := by decide +kernel
theorem d33_184 : decode kb33 184 = .ok (.isub, 1) := by decide +kernel
theorem d33_185 : decode kb33 185 = .ok (.ireturn, 1) := by decide +kernel
abbrev kb23 : ByteArray := jdk_41_method_13_code
theorem d23_0 : decode kb23 0 = .ok (.iload_n 2, 1) := by decide +kernel
theorem d23_1 : decode kb23 1 = .ok (.iload_n 0, 1) := by decide +kernel
theorem d23_2 : decode kb23 2 = .ok (.ior, 1) := by decide +kernel
theorem d23_3 : decode kb23 3 = .ok (.iload_n 1, 1) := by decide +kernel
theorem d23_4 : decode kb23 4 = .ok (.ior, 1) := by decide +kernel
theorem d23_5 : decode kb23 5 = .ok (.ifCond .lt 10, 3) := by decide +kernel
theorem d23_8 : decode kb23 8 = .ok (.iload_n 1, 1) := by decide +kernel
theorem d23_9 : decode kb23 9 = .ok (.iload_n 2, 1) := by decide +kernel
theorem d23_10 : decode kb23 10 = .ok (.iload_n 0, 1) := by decide +kernel
theorem d23_11 : decode kb23 11 = .ok (.isub, 1) := by decide +kernel
theorem d23_12 : decode kb23 12 = .ok (.if_icmp .le 11, 3) := by decide +kernel
theorem d23_23 : decode kb23 23 = .ok (.iload_n 0, 1) := by decide +kernel
theorem d23_24 : decode kb23 24 = .ok (.ireturn, 1) := by decide +kernel
abbrev kb22 : ByteArray := jdk_42_method_157_code
theorem d22_0 : decode kb22 0 = .ok (.iload_n 0, 1) := by decide +kernel
theorem d22_1 : decode kb22 1 = .ok (.iload_n 1, 1) := by decide +kernel
theorem d22_2 : decode kb22 2 = .ok (.iload_n 2, 1) := by decide +kernel
theorem d22_3 : decode kb22 3 = .ok (.getstatic 1053, 3) := by decide +kernel
theorem d22_6 : decode kb22 6 = .ok (.invokestatic 1065, 3) := by decide +kernel
theorem d22_9 : decode kb22 9 = .ok (.ireturn, 1) := by decide +kernel
abbrev kb32 : ByteArray := jdk_65_method_132_code
theorem d32_0 : decode kb32 0 = .ok (.iload_n 1, 1) := by decide +kernel
theorem d32_1 : decode kb32 1 = .ok (.ifCond .ne 9, 3) := by decide +kernel
theorem d32_4 : decode kb32 4 = .ok (.iload_n 2, 1) := by decide +kernel
theorem d32_5 : decode kb32 5 = .ok (.aload_n 0, 1) := by decide +kernel
theorem d32_6 : decode kb32 6 = .ok (.arraylength, 1) := by decide +kernel
theorem d32_7 : decode kb32 7 = .ok (.if_icmp .eq 10, 3) := by decide +kernel
theorem d32_17 : decode kb32 17 = .ok (.aload_n 0, 1) := by decide +kernel
theorem d32_18 : decode kb32 18 = .ok (.invokevirtual 310, 3) := by decide +kernel
theorem d32_21 : decode kb32 21 = .ok (.checkcast 311, 3) := by decide +kernel
theorem d32_24 : decode kb32 24 = .ok (.areturn, 1) := by decide +kernel
abbrev kb21 : ByteArray := jdk_42_method_7_code
theorem d21_0 : decode kb21 0 = .ok (.aload_n 0, 1) := by decide +kernel
theorem d21_1 : decode kb21 1 = .ok (.invokespecial 1, 3) := by decide +kernel
theorem d21_4 : decode kb21 4 = .ok (.iload_n 3, 1) := by decide +kernel
theorem d21_5 : decode kb21 5 = .ok (.iload 4, 2) := by decide +kernel
theorem d21_7 : decode kb21 7 = .ok (.aload_n 1, 1) := by decide +kernel
theorem d21_8 : decode kb21 8 = .ok (.arraylength, 1) := by decide +kernel
theorem d21_9 : decode kb21 9 = .ok (.invokestatic 34, 3) := by decide +kernel
theorem d21_12 : decode kb21 12 = .ok (.pop, 1) := by decide +kernel
theorem d21_13 : decode kb21 13 = .ok (.iload 4, 2) := by decide +kernel
theorem d21_15 : decode kb21 15 = .ok (.ifCond .ne 22, 3) := by decide +kernel
theorem d21_18 : decode kb21 18 = .ok (.aload_n 0, 1) := by decide +kernel
theorem d21_19 : decode kb21 19 = .ok (.ldc 7, 2) := by decide +kernel
theorem d21_21 : decode kb21 21 = .ok (.getfield 9, 3) := by decide +kernel
theorem d21_24 : decode kb21 24 = .ok (.putfield 9, 3) := by decide +kernel
theorem d21_27 : decode kb21 27 = .ok (.aload_n 0, 1) := by decide +kernel
theorem d21_28 : decode kb21 28 = .ok (.ldc 7, 2) := by decide +kernel
theorem d21_30 : decode kb21 30 = .ok (.getfield 15, 3) := by decide +kernel
theorem d21_33 : decode kb21 33 = .ok (.putfield 15, 3) := by decide +kernel
theorem d21_36 : decode kb21 36 = .ok (.return_, 1) := by decide +kernel
theorem d21_37 : decode kb21 37 = .ok (.getstatic 38, 3) := by decide +kernel
theorem d21_40 : decode kb21 40 = .ok (.ifCond .eq 29, 3) := by decide +kernel
theorem d21_43 : decode kb21 43 = .ok (.iload_n 2, 1) := by decide +kernel
theorem d21_44 : decode kb21 44 = .ok (.i2b, 1) := by decide +kernel
theorem d21_45 : decode kb21 45 = .ok (.ifCond .ne 24, 3) := by decide +kernel
theorem d21_48 : decode kb21 48 = .ok (.aload_n 0, 1) := by decide +kernel
theorem d21_49 : decode kb21 49 = .ok (.aload_n 1, 1) := by decide +kernel
theorem d21_50 : decode kb21 50 = .ok (.iload_n 3, 1) := by decide +kernel
theorem d21_51 : decode kb21 51 = .ok (.iload_n 3, 1) := by decide +kernel
theorem d21_52 : decode kb21 52 = .ok (.iload 4, 2) := by decide +kernel
theorem d21_54 : decode kb21 54 = .ok (.iadd, 1) := by decide +kernel
theorem d21_55 : decode kb21 55 = .ok (.invokestatic 54, 3) := by decide +kernel
theorem d21_58 : decode kb21 58 = .ok (.putfield 9, 3) := by decide +kernel
theorem d21_61 : decode kb21 61 = .ok (.aload_n 0, 1) := by decide +kernel
theorem d21_62 : decode kb21 62 = .ok (.iconst 0, 1) := by decide +kernel
theorem d21_63 : decode kb21 63 = .ok (.putfield 15, 3) := by decide +kernel
theorem d21_66 : decode kb21 66 = .ok (.goto 61, 3) := by decide +kernel
theorem d21_127 : decode kb21 127 = .ok (.return_, 1) := by decide +kernel
abbrev kb25 : ByteArray := jdk_43_method_13_code
theorem d25_0 : decode kb25 0 = .ok (.aload_n 0, 1) := by decide +kernel
theorem d25_1 : decode kb25 1 = .ok (.arraylength, 1) := by decide +kernel
theorem d25_2 : decode kb25 2 = .ok (.aload_n 1, 1) := by decide +kernel
theorem d25_3 : decode kb25 3 = .ok (.arraylength, 1) := by decide +kernel
theorem d25_4 : decode kb25 4 = .ok (.if_icmp .ne 30, 3) := by decide +kernel
theorem d25_7 : decode kb25 7 = .ok (.iconst 0, 1) := by decide +kernel
theorem d25_8 : decode kb25 8 = .ok (.istore_n 2, 1) := by decide +kernel
theorem d25_9 : decode kb25 9 = .ok (.iload_n 2, 1) := by decide +kernel
theorem d25_10 : decode kb25 10 = .ok (.aload_n 0, 1) := by decide +kernel
theorem d25_11 : decode kb25 11 = .ok (.arraylength, 1) := by decide +kernel
theorem d25_12 : decode kb25 12 = .ok (.if_icmp .ge 20, 3) := by decide +kernel
theorem d25_15 : decode kb25 15 = .ok (.aload_n 0, 1) := by decide +kernel
theorem d25_16 : decode kb25 16 = .ok (.iload_n 2, 1) := by decide +kernel
theorem d25_17 : decode kb25 17 = .ok (.baload, 1) := by decide +kernel
theorem d25_18 : decode kb25 18 = .ok (.aload_n 1, 1) := by decide +kernel
theorem d25_19 : decode kb25 19 = .ok (.iload_n 2, 1) := by decide +kernel
theorem d25_20 : decode kb25 20 = .ok (.baload, 1) := by decide +kernel
theorem d25_21 : decode kb25 21 = .ok (.if_icmp .eq 5, 3) := by decide +kernel
theorem d25_26 : decode kb25 26 = .ok (.iinc 2 1, 3) := by decide +kernel
theorem d25_29 : decode kb25 29 = .ok (.goto (-20), 3) := by decide +kernel
theorem d25_32 : decode kb25 32 = .ok (.iconst 1, 1) := by decide +kernel
theorem d25_33 : decode kb25 33 = .ok (.ireturn, 1) := by decide +kernel
abbrev kb24 : ByteArray := jdk_42_method_66_code
theorem d24_0 : decode kb24 0 = .ok (.aload_n 0, 1) := by decide +kernel
theorem d24_1 : decode kb24 1 = .ok (.aload_n 1, 1) := by decide +kernel
theorem d24_2 : decode kb24 2 = .ok (.if_acmp .ne 5, 3) := by decide +kernel
theorem d24_7 : decode kb24 7 = .ok (.aload_n 1, 1) := by decide +kernel
theorem d24_8 : decode kb24 8 = .ok (.instanceof 10, 3) := by decide +kernel
theorem d24_11 : decode kb24 11 = .ok (.ifCond .eq 43, 3) := by decide +kernel
theorem d24_14 : decode kb24 14 = .ok (.aload_n 1, 1) := by decide +kernel
theorem d24_15 : decode kb24 15 = .ok (.checkcast 10, 3) := by decide +kernel
theorem d24_18 : decode kb24 18 = .ok (.astore_n 2, 1) := by decide +kernel
theorem d24_19 : decode kb24 19 = .ok (.getstatic 38, 3) := by decide +kernel
theorem d24_22 : decode kb24 22 = .ok (.ifCond .eq 14, 3) := by decide +kernel
theorem d24_25 : decode kb24 25 = .ok (.aload_n 0, 1) := by decide +kernel
theorem d24_26 : decode kb24 26 = .ok (.getfield 15, 3) := by decide +kernel
theorem d24_29 : decode kb24 29 = .ok (.aload_n 2, 1) := by decide +kernel
theorem d24_30 : decode kb24 30 = .ok (.getfield 15, 3) := by decide +kernel
theorem d24_33 : decode kb24 33 = .ok (.if_icmp .ne 21, 3) := by decide +kernel
theorem d24_36 : decode kb24 36 = .ok (.aload_n 0, 1) := by decide +kernel
theorem d24_37 : decode kb24 37 = .ok (.getfield 9, 3) := by decide +kernel
theorem d24_40 : decode kb24 40 = .ok (.aload_n 2, 1) := by decide +kernel
theorem d24_41 : decode kb24 41 = .ok (.getfield 9, 3) := by decide +kernel
theorem d24_44 : decode kb24 44 = .ok (.invokestatic 541, 3) := by decide +kernel
theorem d24_47 : decode kb24 47 = .ok (.ifCond .eq 7, 3) := by decide +kernel
theorem d24_50 : decode kb24 50 = .ok (.iconst 1, 1) := by decide +kernel
theorem d24_51 : decode kb24 51 = .ok (.goto 4, 3) := by decide +kernel
theorem d24_55 : decode kb24 55 = .ok (.ireturn, 1) := by decide +kernel
abbrev kb18 : ByteArray := jdk_29_method_24_code
theorem d18_0 : decode kb18 0 = .ok (.iload_n 0, 1) := by decide +kernel
theorem d18_1 : decode kb18 1 = .ok (.iload_n 1, 1) := by decide +kernel
theorem d18_2 : decode kb18 2 = .ok (.iadd, 1) := by decide +kernel
theorem d18_3 : decode kb18 3 = .ok (.istore_n 2, 1) := by decide +kernel
theorem d18_4 : decode kb18 4 = .ok (.iload_n 0, 1) := by decide +kernel
theorem d18_5 : decode kb18 5 = .ok (.iload_n 2, 1) := by decide +kernel
theorem d18_6 : decode kb18 6 = .ok (.ixor, 1) := by decide +kernel
theorem d18_7 : decode kb18 7 = .ok (.iload_n 1, 1) := by decide +kernel
theorem d18_8 : decode kb18 8 = .ok (.iload_n 2, 1) := by decide +kernel
theorem d18_9 : decode kb18 9 = .ok (.ixor, 1) := by decide +kernel
theorem d18_10 : decode kb18 10 = .ok (.iand, 1) := by decide +kernel
theorem d18_11 : decode kb18 11 = .ok (.ifCond .ge 13, 3) := by decide +kernel
theorem d18_24 : decode kb18 24 = .ok (.iload_n 2, 1) := by decide +kernel
theorem d18_25 : decode kb18 25 = .ok (.ireturn, 1) := by decide +kernel
abbrev kb19 : ByteArray := jdk_29_method_28_code
theorem d19_0 : decode kb19 0 = .ok (.iload_n 0, 1) := by decide +kernel
theorem d19_1 : decode kb19 1 = .ok (.i2l, 1) := by decide +kernel
theorem d19_2 : decode kb19 2 = .ok (.iload_n 1, 1) := by decide +kernel
theorem d19_3 : decode kb19 3 = .ok (.i2l, 1) := by decide +kernel
theorem d19_4 : decode kb19 4 = .ok (.lmul, 1) := by decide +kernel
theorem d19_5 : decode kb19 5 = .ok (.lstore_n 2, 1) := by decide +kernel
theorem d19_6 : decode kb19 6 = .ok (.lload_n 2, 1) := by decide +kernel
theorem d19_7 : decode kb19 7 = .ok (.l2i, 1) := by decide +kernel
theorem d19_8 : decode kb19 8 = .ok (.i2l, 1) := by decide +kernel
theorem d19_9 : decode kb19 9 = .ok (.lload_n 2, 1) := by decide +kernel
theorem d19_10 : decode kb19 10 = .ok (.lcmp, 1) := by decide +kernel
theorem d19_11 : decode kb19 11 = .ok (.ifCond .eq 13, 3) := by decide +kernel
theorem d19_24 : decode kb19 24 = .ok (.lload_n 2, 1) := by decide +kernel
theorem d19_25 : decode kb19 25 = .ok (.l2i, 1) := by decide +kernel
theorem d19_26 : decode kb19 26 = .ok (.ireturn, 1) := by decide +kernel
abbrev kbx2 : ByteArray := jdk_2452_method_2_code
theorem dx2_0 : decode kbx2 0 = .ok (.iconst 0, 1) := by decide +kernel
theorem dx2_1 : decode kbx2 1 = .ok (.istore_n 3, 1) := by decide +kernel
theorem dx2_2 : decode kbx2 2 = .ok (.aload_n 0, 1) := by decide +kernel
theorem dx2_3 : decode kbx2 3 = .ok (.getfield 21, 3) := by decide +kernel
theorem dx2_6 : decode kbx2 6 = .ok (.ifCond .eq 18, 3) := by decide +kernel
theorem dx2_9 : decode kbx2 9 = .ok (.iconst 4, 1) := by decide +kernel
theorem dx2_10 : decode kbx2 10 = .ok (.iload_n 1, 1) := by decide +kernel
theorem dx2_11 : decode kbx2 11 = .ok (.iconst 2, 1) := by decide +kernel
theorem dx2_12 : decode kbx2 12 = .ok (.invokestatic 24, 3) := by decide +kernel
theorem dx2_15 : decode kbx2 15 = .ok (.iconst 3, 1) := by decide +kernel
theorem dx2_16 : decode kbx2 16 = .ok (.idiv, 1) := by decide +kernel
theorem dx2_17 : decode kbx2 17 = .ok (.invokestatic 30, 3) := by decide +kernel
theorem dx2_20 : decode kbx2 20 = .ok (.istore_n 3, 1) := by decide +kernel
theorem dx2_21 : decode kbx2 21 = .ok (.goto 32, 3) := by decide +kernel
theorem dx2_53 : decode kbx2 53 = .ok (.aload_n 0, 1) := by decide +kernel
theorem dx2_54 : decode kbx2 54 = .ok (.getfield 17, 3) := by decide +kernel
theorem dx2_57 : decode kbx2 57 = .ok (.ifCond .le 22, 3) := by decide +kernel
theorem dx2_79 : decode kbx2 79 = .ok (.goto 21, 3) := by decide +kernel
theorem dx2_100 : decode kbx2 100 = .ok (.iload_n 3, 1) := by decide +kernel
theorem dx2_101 : decode kbx2 101 = .ok (.ireturn, 1) := by decide +kernel
abbrev kb20 : ByteArray := jdk_2452_method_10_code
theorem d20_0 : decode kb20 0 = .ok (.aload_n 0, 1) := by decide +kernel
theorem d20_1 : decode kb20 1 = .ok (.getfield 7, 3) := by decide +kernel
theorem d20_4 : decode kb20 4 = .ok (.ifCond .eq 9, 3) := by decide +kernel
theorem d20_13 : decode kb20 13 = .ok (.getstatic 115, 3) := by decide +kernel
theorem d20_16 : decode kb20 16 = .ok (.astore 5, 2) := by decide +kernel
theorem d20_18 : decode kb20 18 = .ok (.iload_n 2, 1) := by decide +kernel
theorem d20_19 : decode kb20 19 = .ok (.istore 6, 2) := by decide +kernel
theorem d20_21 : decode kb20 21 = .ok (.iload_n 3, 1) := by decide +kernel
theorem d20_22 : decode kb20 22 = .ok (.iload_n 2, 1) := by decide +kernel
theorem d20_23 : decode kb20 23 = .ok (.isub, 1) := by decide +kernel
theorem d20_24 : decode kb20 24 = .ok (.iconst 3, 1) := by decide +kernel
theorem d20_25 : decode kb20 25 = .ok (.idiv, 1) := by decide +kernel
theorem d20_26 : decode kb20 26 = .ok (.iconst 3, 1) := by decide +kernel
theorem d20_27 : decode kb20 27 = .ok (.imul, 1) := by decide +kernel
theorem d20_28 : decode kb20 28 = .ok (.istore 7, 2) := by decide +kernel
theorem d20_30 : decode kb20 30 = .ok (.iload_n 2, 1) := by decide +kernel
theorem d20_31 : decode kb20 31 = .ok (.iload 7, 2) := by decide +kernel
theorem d20_33 : decode kb20 33 = .ok (.iadd, 1) := by decide +kernel
theorem d20_34 : decode kb20 34 = .ok (.istore 8, 2) := by decide +kernel
theorem d20_36 : decode kb20 36 = .ok (.aload_n 0, 1) := by decide +kernel
theorem d20_37 : decode kb20 37 = .ok (.getfield 17, 3) := by decide +kernel
theorem d20_40 : decode kb20 40 = .ok (.ifCond .le 26, 3) := by decide +kernel
theorem d20_66 : decode kb20 66 = .ok (.iconst 0, 1) := by decide +kernel
theorem d20_67 : decode kb20 67 = .ok (.istore 9, 2) := by decide +kernel
theorem d20_69 : decode kb20 69 = .ok (.iload 6, 2) := by decide +kernel
theorem d20_71 : decode kb20 71 = .ok (.iload 8, 2) := by decide +kernel
theorem d20_73 : decode kb20 73 = .ok (.if_icmp .ge 116, 3) := by decide +kernel
theorem d20_76 : decode kb20 76 = .ok (.iload 6, 2) := by decide +kernel
theorem d20_78 : decode kb20 78 = .ok (.iload 7, 2) := by decide +kernel
theorem d20_80 : decode kb20 80 = .ok (.iadd, 1) := by decide +kernel
theorem d20_81 : decode kb20 81 = .ok (.iload 8, 2) := by decide +kernel
theorem d20_83 : decode kb20 83 = .ok (.invokestatic 124, 3) := by decide +kernel
theorem d20_86 : decode kb20 86 = .ok (.istore 10, 2) := by decide +kernel
theorem d20_88 : decode kb20 88 = .ok (.aload_n 0, 1) := by decide +kernel
theorem d20_89 : decode kb20 89 = .ok (.aload_n 1, 1) := by decide +kernel
theorem d20_90 : decode kb20 90 = .ok (.iload 6, 2) := by decide +kernel
theorem d20_92 : decode kb20 92 = .ok (.iload 10, 2) := by decide +kernel
theorem d20_94 : decode kb20 94 = .ok (.aload 4, 2) := by decide +kernel
theorem d20_96 : decode kb20 96 = .ok (.iload 9, 2) := by decide +kernel
theorem d20_98 : decode kb20 98 = .ok (.aload_n 0, 1) := by decide +kernel
theorem d20_99 : decode kb20 99 = .ok (.getfield 7, 3) := by decide +kernel
theorem d20_102 : decode kb20 102 = .ok (.invokevirtual 127, 3) := by decide +kernel
theorem d20_105 : decode kb20 105 = .ok (.iload 10, 2) := by decide +kernel
theorem d20_107 : decode kb20 107 = .ok (.iload 6, 2) := by decide +kernel
theorem d20_109 : decode kb20 109 = .ok (.isub, 1) := by decide +kernel
theorem d20_110 : decode kb20 110 = .ok (.iconst 3, 1) := by decide +kernel
theorem d20_111 : decode kb20 111 = .ok (.idiv, 1) := by decide +kernel
theorem d20_112 : decode kb20 112 = .ok (.iconst 4, 1) := by decide +kernel
theorem d20_113 : decode kb20 113 = .ok (.imul, 1) := by decide +kernel
theorem d20_114 : decode kb20 114 = .ok (.istore 11, 2) := by decide +kernel
theorem d20_116 : decode kb20 116 = .ok (.iload 9, 2) := by decide +kernel
theorem d20_118 : decode kb20 118 = .ok (.iload 11, 2) := by decide +kernel
theorem d20_120 : decode kb20 120 = .ok (.iadd, 1) := by decide +kernel
theorem d20_121 : decode kb20 121 = .ok (.istore 9, 2) := by decide +kernel
theorem d20_123 : decode kb20 123 = .ok (.iload 10, 2) := by decide +kernel
theorem d20_125 : decode kb20 125 = .ok (.istore 6, 2) := by decide +kernel
theorem d20_127 : decode kb20 127 = .ok (.iload 11, 2) := by decide +kernel
theorem d20_129 : decode kb20 129 = .ok (.aload_n 0, 1) := by decide +kernel
theorem d20_130 : decode kb20 130 = .ok (.getfield 17, 3) := by decide +kernel
theorem d20_133 : decode kb20 133 = .ok (.if_icmp .ne 53, 3) := by decide +kernel
theorem d20_186 : decode kb20 186 = .ok (.goto (-117), 3) := by decide +kernel
theorem d20_189 : decode kb20 189 = .ok (.iload 6, 2) := by decide +kernel
theorem d20_191 : decode kb20 191 = .ok (.iload_n 3, 1) := by decide +kernel
theorem d20_192 : decode kb20 192 = .ok (.if_icmp .ge 160, 3) := by decide +kernel
theorem d20_195 : decode kb20 195 = .ok (.aload_n 1, 1) := by decide +kernel
theorem d20_196 : decode kb20 196 = .ok (.iload 6, 2) := by decide +kernel
theorem d20_198 : decode kb20 198 = .ok (.iinc 6 1, 3) := by decide +kernel
theorem d20_201 : decode kb20 201 = .ok (.baload, 1) := by decide +kernel
theorem d20_202 : decode kb20 202 = .ok (.sipush 255, 3) := by decide +kernel
theorem d20_205 : decode kb20 205 = .ok (.iand, 1) := by decide +kernel
theorem d20_206 : decode kb20 206 = .ok (.istore 10, 2) := by decide +kernel
theorem d20_208 : decode kb20 208 = .ok (.aload 4, 2) := by decide +kernel
theorem d20_210 : decode kb20 210 = .ok (.iload 9, 2) := by decide +kernel
theorem d20_212 : decode kb20 212 = .ok (.iinc 9 1, 3) := by decide +kernel
theorem d20_215 : decode kb20 215 = .ok (.aload 5, 2) := by decide +kernel
theorem d20_217 : decode kb20 217 = .ok (.iload 10, 2) := by decide +kernel
theorem d20_219 : decode kb20 219 = .ok (.iconst 2, 1) := by decide +kernel
theorem d20_220 : decode kb20 220 = .ok (.ishr, 1) := by decide +kernel
theorem d20_221 : decode kb20 221 = .ok (.caload, 1) := by decide +kernel
theorem d20_222 : decode kb20 222 = .ok (.i2b, 1) := by decide +kernel
theorem d20_223 : decode kb20 223 = .ok (.bastore, 1) := by decide +kernel
theorem d20_224 : decode kb20 224 = .ok (.iload 6, 2) := by decide +kernel
theorem d20_226 : decode kb20 226 = .ok (.iload_n 3, 1) := by decide +kernel
theorem d20_227 : decode kb20 227 = .ok (.if_icmp .ne 52, 3) := by decide +kernel
theorem d20_230 : decode kb20 230 = .ok (.aload 4, 2) := by decide +kernel
theorem d20_232 : decode kb20 232 = .ok (.iload 9, 2) := by decide +kernel
theorem d20_234 : decode kb20 234 = .ok (.iinc 9 1, 3) := by decide +kernel
theorem d20_237 : decode kb20 237 = .ok (.aload 5, 2) := by decide +kernel
theorem d20_239 : decode kb20 239 = .ok (.iload 10, 2) := by decide +kernel
theorem d20_241 : decode kb20 241 = .ok (.iconst 4, 1) := by decide +kernel
theorem d20_242 : decode kb20 242 = .ok (.ishl, 1) := by decide +kernel
theorem d20_243 : decode kb20 243 = .ok (.bipush 63, 2) := by decide +kernel
theorem d20_245 : decode kb20 245 = .ok (.iand, 1) := by decide +kernel
theorem d20_246 : decode kb20 246 = .ok (.caload, 1) := by decide +kernel
theorem d20_247 : decode kb20 247 = .ok (.i2b, 1) := by decide +kernel
theorem d20_248 : decode kb20 248 = .ok (.bastore, 1) := by decide +kernel
theorem d20_249 : decode kb20 249 = .ok (.aload_n 0, 1) := by decide +kernel
theorem d20_250 : decode kb20 250 = .ok (.getfield 21, 3) := by decide +kernel
theorem d20_253 : decode kb20 253 = .ok (.ifCond .eq 99, 3) := by decide +kernel
theorem d20_256 : decode kb20 256 = .ok (.aload 4, 2) := by decide +kernel
theorem d20_258 : decode kb20 258 = .ok (.iload 9, 2) := by decide +kernel
theorem d20_260 : decode kb20 260 = .ok (.iinc 9 1, 3) := by decide +kernel
theorem d20_263 : decode kb20 263 = .ok (.bipush 61, 2) := by decide +kernel
theorem d20_265 : decode kb20 265 = .ok (.bastore, 1) := by decide +kernel
theorem d20_266 : decode kb20 266 = .ok (.aload 4, 2) := by decide +kernel
theorem d20_268 : decode kb20 268 = .ok (.iload 9, 2) := by decide +kernel
theorem d20_270 : decode kb20 270 = .ok (.iinc 9 1, 3) := by decide +kernel
theorem d20_273 : decode kb20 273 = .ok (.bipush 61, 2) := by decide +kernel
theorem d20_275 : decode kb20 275 = .ok (.bastore, 1) := by decide +kernel
theorem d20_276 : decode kb20 276 = .ok (.goto 76, 3) := by decide +kernel
theorem d20_279 : decode kb20 279 = .ok (.aload_n 1, 1) := by decide +kernel
theorem d20_280 : decode kb20 280 = .ok (.iload 6, 2) := by decide +kernel
theorem d20_282 : decode kb20 282 = .ok (.iinc 6 1, 3) := by decide +kernel
theorem d20_285 : decode kb20 285 = .ok (.baload, 1) := by decide +kernel
theorem d20_286 : decode kb20 286 = .ok (.sipush 255, 3) := by decide +kernel
theorem d20_289 : decode kb20 289 = .ok (.iand, 1) := by decide +kernel
theorem d20_290 : decode kb20 290 = .ok (.istore 11, 2) := by decide +kernel
theorem d20_292 : decode kb20 292 = .ok (.aload 4, 2) := by decide +kernel
theorem d20_294 : decode kb20 294 = .ok (.iload 9, 2) := by decide +kernel
theorem d20_296 : decode kb20 296 = .ok (.iinc 9 1, 3) := by decide +kernel
theorem d20_299 : decode kb20 299 = .ok (.aload 5, 2) := by decide +kernel
theorem d20_301 : decode kb20 301 = .ok (.iload 10, 2) := by decide +kernel
theorem d20_303 : decode kb20 303 = .ok (.iconst 4, 1) := by decide +kernel
theorem d20_304 : decode kb20 304 = .ok (.ishl, 1) := by decide +kernel
theorem d20_305 : decode kb20 305 = .ok (.bipush 63, 2) := by decide +kernel
theorem d20_307 : decode kb20 307 = .ok (.iand, 1) := by decide +kernel
theorem d20_308 : decode kb20 308 = .ok (.iload 11, 2) := by decide +kernel
theorem d20_310 : decode kb20 310 = .ok (.iconst 4, 1) := by decide +kernel
theorem d20_311 : decode kb20 311 = .ok (.ishr, 1) := by decide +kernel
theorem d20_312 : decode kb20 312 = .ok (.ior, 1) := by decide +kernel
theorem d20_313 : decode kb20 313 = .ok (.caload, 1) := by decide +kernel
theorem d20_314 : decode kb20 314 = .ok (.i2b, 1) := by decide +kernel
theorem d20_315 : decode kb20 315 = .ok (.bastore, 1) := by decide +kernel
theorem d20_316 : decode kb20 316 = .ok (.aload 4, 2) := by decide +kernel
theorem d20_318 : decode kb20 318 = .ok (.iload 9, 2) := by decide +kernel
theorem d20_320 : decode kb20 320 = .ok (.iinc 9 1, 3) := by decide +kernel
theorem d20_323 : decode kb20 323 = .ok (.aload 5, 2) := by decide +kernel
theorem d20_325 : decode kb20 325 = .ok (.iload 11, 2) := by decide +kernel
theorem d20_327 : decode kb20 327 = .ok (.iconst 2, 1) := by decide +kernel
theorem d20_328 : decode kb20 328 = .ok (.ishl, 1) := by decide +kernel
theorem d20_329 : decode kb20 329 = .ok (.bipush 63, 2) := by decide +kernel
theorem d20_331 : decode kb20 331 = .ok (.iand, 1) := by decide +kernel
theorem d20_332 : decode kb20 332 = .ok (.caload, 1) := by decide +kernel
theorem d20_333 : decode kb20 333 = .ok (.i2b, 1) := by decide +kernel
theorem d20_334 : decode kb20 334 = .ok (.bastore, 1) := by decide +kernel
theorem d20_335 : decode kb20 335 = .ok (.aload_n 0, 1) := by decide +kernel
theorem d20_336 : decode kb20 336 = .ok (.getfield 21, 3) := by decide +kernel
theorem d20_339 : decode kb20 339 = .ok (.ifCond .eq 13, 3) := by decide +kernel
theorem d20_342 : decode kb20 342 = .ok (.aload 4, 2) := by decide +kernel
theorem d20_344 : decode kb20 344 = .ok (.iload 9, 2) := by decide +kernel
theorem d20_346 : decode kb20 346 = .ok (.iinc 9 1, 3) := by decide +kernel
theorem d20_349 : decode kb20 349 = .ok (.bipush 61, 2) := by decide +kernel
theorem d20_351 : decode kb20 351 = .ok (.bastore, 1) := by decide +kernel
theorem d20_352 : decode kb20 352 = .ok (.iload 9, 2) := by decide +kernel
theorem d20_354 : decode kb20 354 = .ok (.ireturn, 1) := by decide +kernel
abbrev kb17 : ByteArray := jdk_2452_method_3_code
theorem d17_0 : decode kb17 0 = .ok (.aload_n 0, 1) := by decide +kernel
theorem d17_1 : decode kb17 1 = .ok (.aload_n 1, 1) := by decide +kernel
theorem d17_2 : decode kb17 2 = .ok (.arraylength, 1) := by decide +kernel
theorem d17_3 : decode kb17 3 = .ok (.iconst 1, 1) := by decide +kernel
theorem d17_4 : decode kb17 4 = .ok (.invokevirtual 42, 3) := by decide +kernel
theorem d17_7 : decode kb17 7 = .ok (.istore_n 2, 1) := by decide +kernel
theorem d17_8 : decode kb17 8 = .ok (.iload_n 2, 1) := by decide +kernel
theorem d17_9 : decode kb17 9 = .ok (.newarray .byte, 2) := by decide +kernel
theorem d17_11 : decode kb17 11 = .ok (.astore_n 3, 1) := by decide +kernel
theorem d17_12 : decode kb17 12 = .ok (.aload_n 0, 1) := by decide +kernel
theorem d17_13 : decode kb17 13 = .ok (.aload_n 1, 1) := by decide +kernel
theorem d17_14 : decode kb17 14 = .ok (.iconst 0, 1) := by decide +kernel
theorem d17_15 : decode kb17 15 = .ok (.aload_n 1, 1) := by decide +kernel
theorem d17_16 : decode kb17 16 = .ok (.arraylength, 1) := by decide +kernel
theorem d17_17 : decode kb17 17 = .ok (.aload_n 3, 1) := by decide +kernel
theorem d17_18 : decode kb17 18 = .ok (.invokevirtual 46, 3) := by decide +kernel
theorem d17_21 : decode kb17 21 = .ok (.istore 4, 2) := by decide +kernel
theorem d17_23 : decode kb17 23 = .ok (.iload 4, 2) := by decide +kernel
theorem d17_25 : decode kb17 25 = .ok (.aload_n 3, 1) := by decide +kernel
theorem d17_26 : decode kb17 26 = .ok (.arraylength, 1) := by decide +kernel
theorem d17_27 : decode kb17 27 = .ok (.if_icmp .eq 10, 3) := by decide +kernel
theorem d17_37 : decode kb17 37 = .ok (.aload_n 3, 1) := by decide +kernel
theorem d17_38 : decode kb17 38 = .ok (.areturn, 1) := by decide +kernel
abbrev kb16 : ByteArray := jdk_2452_method_5_code
theorem d16_0 : decode kb16 0 = .ok (.aload_n 0, 1) := by decide +kernel
theorem d16_1 : decode kb16 1 = .ok (.aload_n 1, 1) := by decide +kernel
theorem d16_2 : decode kb16 2 = .ok (.invokevirtual 61, 3) := by decide +kernel
theorem d16_5 : decode kb16 5 = .ok (.astore_n 2, 1) := by decide +kernel
theorem d16_6 : decode kb16 6 = .ok (.new 65, 3) := by decide +kernel
theorem d16_9 : decode kb16 9 = .ok (.dup, 1) := by decide +kernel
theorem d16_10 : decode kb16 10 = .ok (.aload_n 2, 1) := by decide +kernel
theorem d16_11 : decode kb16 11 = .ok (.iconst 0, 1) := by decide +kernel
theorem d16_12 : decode kb16 12 = .ok (.iconst 0, 1) := by decide +kernel
theorem d16_13 : decode kb16 13 = .ok (.aload_n 2, 1) := by decide +kernel
theorem d16_14 : decode kb16 14 = .ok (.arraylength, 1) := by decide +kernel
theorem d16_15 : decode kb16 15 = .ok (.invokespecial 67, 3) := by decide +kernel
theorem d16_18 : decode kb16 18 = .ok (.areturn, 1) := by decide +kernel
abbrev kb14 : ByteArray := prog_2_method_2_code
theorem d14_0 : decode kb14 0 = .ok (.invokestatic 7, 3) := by decide +kernel
theorem d14_3 : decode kb14 3 = .ok (.aload_n 0, 1) := by decide +kernel
theorem d14_4 : decode kb14 4 = .ok (.invokevirtual 13, 3) := by decide +kernel
theorem d14_7 : decode kb14 7 = .ok (.areturn, 1) := by decide +kernel
abbrev kbx1 : ByteArray := prog_2_method_3_code
theorem dx1_0 : decode kbx1 0 = .ok (.invokestatic 19, 3) := by decide +kernel
theorem dx1_3 : decode kbx1 3 = .ok (.aload_n 0, 1) := by decide +kernel
theorem dx1_4 : decode kbx1 4 = .ok (.invokevirtual 23, 3) := by decide +kernel
theorem dx1_7 : decode kbx1 7 = .ok (.astore_n 1, 1) := by decide +kernel
theorem dx1_8 : decode kbx1 8 = .ok (.goto 14, 3) := by decide +kernel
theorem dx1_22 : decode kbx1 22 = .ok (.aload_n 1, 1) := by decide +kernel
theorem dx1_23 : decode kbx1 23 = .ok (.invokestatic 36, 3) := by decide +kernel
theorem dx1_26 : decode kbx1 26 = .ok (.aload_n 0, 1) := by decide +kernel
theorem dx1_27 : decode kbx1 27 = .ok (.invokevirtual 41, 3) := by decide +kernel
theorem dx1_30 : decode kbx1 30 = .ok (.ifCond .ne 13, 3) := by decide +kernel
theorem dx1_43 : decode kbx1 43 = .ok (.aload_n 1, 1) := by decide +kernel
theorem dx1_44 : decode kbx1 44 = .ok (.areturn, 1) := by decide +kernel
abbrev kb35 : ByteArray := jdk_2452_method_9_code
theorem d35_0 : decode kb35 0 = .ok (.iload 6, 2) := by decide +kernel
theorem d35_2 : decode kb35 2 = .ok (.ifCond .eq 9, 3) := by decide +kernel
theorem d35_11 : decode kb35 11 = .ok (.getstatic 115, 3) := by decide +kernel
theorem d35_14 : decode kb35 14 = .ok (.astore 7, 2) := by decide +kernel
theorem d35_16 : decode kb35 16 = .ok (.iload_n 2, 1) := by decide +kernel
theorem d35_17 : decode kb35 17 = .ok (.istore 8, 2) := by decide +kernel
theorem d35_19 : decode kb35 19 = .ok (.iload 5, 2) := by decide +kernel
theorem d35_21 : decode kb35 21 = .ok (.istore 9, 2) := by decide +kernel
theorem d35_23 : decode kb35 23 = .ok (.iload 8, 2) := by decide +kernel
theorem d35_25 : decode kb35 25 = .ok (.iload_n 3, 1) := by decide +kernel
theorem d35_26 : decode kb35 26 = .ok (.if_icmp .ge 126, 3) := by decide +kernel
theorem d35_29 : decode kb35 29 = .ok (.aload_n 1, 1) := by decide +kernel
theorem d35_30 : decode kb35 30 = .ok (.iload 8, 2) := by decide +kernel
theorem d35_32 : decode kb35 32 = .ok (.iinc 8 1, 3) := by decide +kernel
theorem d35_35 : decode kb35 35 = .ok (.baload, 1) := by decide +kernel
theorem d35_36 : decode kb35 36 = .ok (.sipush 255, 3) := by decide +kernel
theorem d35_39 : decode kb35 39 = .ok (.iand, 1) := by decide +kernel
theorem d35_40 : decode kb35 40 = .ok (.bipush 16, 2) := by decide +kernel
theorem d35_42 : decode kb35 42 = .ok (.ishl, 1) := by decide +kernel
theorem d35_43 : decode kb35 43 = .ok (.aload_n 1, 1) := by decide +kernel
theorem d35_44 : decode kb35 44 = .ok (.iload 8, 2) := by decide +kernel
theorem d35_46 : decode kb35 46 = .ok (.iinc 8 1, 3) := by decide +kernel
theorem d35_49 : decode kb35 49 = .ok (.baload, 1) := by decide +kernel
theorem d35_50 : decode kb35 50 = .ok (.sipush 255, 3) := by decide +kernel
theorem d35_53 : decode kb35 53 = .ok (.iand, 1) := by decide +kernel
theorem d35_54 : decode kb35 54 = .ok (.bipush 8, 2) := by decide +kernel
theorem d35_56 : decode kb35 56 = .ok (.ishl, 1) := by decide +kernel
theorem d35_57 : decode kb35 57 = .ok (.ior, 1) := by decide +kernel
theorem d35_58 : decode kb35 58 = .ok (.aload_n 1, 1) := by decide +kernel
theorem d35_59 : decode kb35 59 = .ok (.iload 8, 2) := by decide +kernel
theorem d35_61 : decode kb35 61 = .ok (.iinc 8 1, 3) := by decide +kernel
theorem d35_64 : decode kb35 64 = .ok (.baload, 1) := by decide +kernel
theorem d35_65 : decode kb35 65 = .ok (.sipush 255, 3) := by decide +kernel
theorem d35_68 : decode kb35 68 = .ok (.iand, 1) := by decide +kernel
theorem d35_69 : decode kb35 69 = .ok (.ior, 1) := by decide +kernel
theorem d35_70 : decode kb35 70 = .ok (.istore 10, 2) := by decide +kernel
theorem d35_72 : decode kb35 72 = .ok (.aload 4, 2) := by decide +kernel
theorem d35_74 : decode kb35 74 = .ok (.iload 9, 2) := by decide +kernel
theorem d35_76 : decode kb35 76 = .ok (.iinc 9 1, 3) := by decide +kernel
theorem d35_79 : decode kb35 79 = .ok (.aload 7, 2) := by decide +kernel
theorem d35_81 : decode kb35 81 = .ok (.iload 10, 2) := by decide +kernel
theorem d35_83 : decode kb35 83 = .ok (.bipush 18, 2) := by decide +kernel
theorem d35_85 : decode kb35 85 = .ok (.iushr, 1) := by decide +kernel
theorem d35_86 : decode kb35 86 = .ok (.bipush 63, 2) := by decide +kernel
theorem d35_88 : decode kb35 88 = .ok (.iand, 1) := by decide +kernel
theorem d35_89 : decode kb35 89 = .ok (.caload, 1) := by decide +kernel
theorem d35_90 : decode kb35 90 = .ok (.i2b, 1) := by decide +kernel
theorem d35_91 : decode kb35 91 = .ok (.bastore, 1) := by decide +kernel
theorem d35_92 : decode kb35 92 = .ok (.aload 4, 2) := by decide +kernel
theorem d35_94 : decode kb35 94 = .ok (.iload 9, 2) := by decide +kernel
theorem d35_96 : decode kb35 96 = .ok (.iinc 9 1, 3) := by decide +kernel
theorem d35_99 : decode kb35 99 = .ok (.aload 7, 2) := by decide +kernel
theorem d35_101 : decode kb35 101 = .ok (.iload 10, 2) := by decide +kernel
theorem d35_103 : decode kb35 103 = .ok (.bipush 12, 2) := by decide +kernel
theorem d35_105 : decode kb35 105 = .ok (.iushr, 1) := by decide +kernel
theorem d35_106 : decode kb35 106 = .ok (.bipush 63, 2) := by decide +kernel
theorem d35_108 : decode kb35 108 = .ok (.iand, 1) := by decide +kernel
theorem d35_109 : decode kb35 109 = .ok (.caload, 1) := by decide +kernel
theorem d35_110 : decode kb35 110 = .ok (.i2b, 1) := by decide +kernel
theorem d35_111 : decode kb35 111 = .ok (.bastore, 1) := by decide +kernel
theorem d35_112 : decode kb35 112 = .ok (.aload 4, 2) := by decide +kernel
theorem d35_114 : decode kb35 114 = .ok (.iload 9, 2) := by decide +kernel
theorem d35_116 : decode kb35 116 = .ok (.iinc 9 1, 3) := by decide +kernel
theorem d35_119 : decode kb35 119 = .ok (.aload 7, 2) := by decide +kernel
theorem d35_121 : decode kb35 121 = .ok (.iload 10, 2) := by decide +kernel
theorem d35_123 : decode kb35 123 = .ok (.bipush 6, 2) := by decide +kernel
theorem d35_125 : decode kb35 125 = .ok (.iushr, 1) := by decide +kernel
theorem d35_126 : decode kb35 126 = .ok (.bipush 63, 2) := by decide +kernel
theorem d35_128 : decode kb35 128 = .ok (.iand, 1) := by decide +kernel
theorem d35_129 : decode kb35 129 = .ok (.caload, 1) := by decide +kernel
theorem d35_130 : decode kb35 130 = .ok (.i2b, 1) := by decide +kernel
theorem d35_131 : decode kb35 131 = .ok (.bastore, 1) := by decide +kernel
theorem d35_132 : decode kb35 132 = .ok (.aload 4, 2) := by decide +kernel
theorem d35_134 : decode kb35 134 = .ok (.iload 9, 2) := by decide +kernel
theorem d35_136 : decode kb35 136 = .ok (.iinc 9 1, 3) := by decide +kernel
theorem d35_139 : decode kb35 139 = .ok (.aload 7, 2) := by decide +kernel
theorem d35_141 : decode kb35 141 = .ok (.iload 10, 2) := by decide +kernel
theorem d35_143 : decode kb35 143 = .ok (.bipush 63, 2) := by decide +kernel
theorem d35_145 : decode kb35 145 = .ok (.iand, 1) := by decide +kernel
theorem d35_146 : decode kb35 146 = .ok (.caload, 1) := by decide +kernel
theorem d35_147 : decode kb35 147 = .ok (.i2b, 1) := by decide +kernel
theorem d35_148 : decode kb35 148 = .ok (.bastore, 1) := by decide +kernel
theorem d35_149 : decode kb35 149 = .ok (.goto (-126), 3) := by decide +kernel
theorem d35_152 : decode kb35 152 = .ok (.return_, 1) := by decide +kernel
abbrev kb34 : ByteArray := jdk_29_method_69_code
theorem d34_0 : decode kb34 0 = .ok (.iload_n 0, 1) := by decide +kernel
theorem d34_1 : decode kb34 1 = .ok (.iload_n 1, 1) := by decide +kernel
theorem d34_2 : decode kb34 2 = .ok (.if_icmp .gt 7, 3) := by decide +kernel
theorem d34_5 : decode kb34 5 = .ok (.iload_n 0, 1) := by decide +kernel
theorem d34_6 : decode kb34 6 = .ok (.goto 4, 3) := by decide +kernel
theorem d34_10 : decode kb34 10 = .ok (.ireturn, 1) := by decide +kernel
variable {l : Launch} {Z : State} {a0 : Array Value} {n0 : Nat}
def isC (c : Int32) : Prop := 0 ≤ c.toInt ∧ c.toInt ≤ 255
theorem isC.le {c : Int32} (h : isC c) : ¬ (255 : Int32) < c := fun q => by rw [Int32.lt_iff_toInt_lt] at q; have := h.2; have e : (255 : Int32).toInt = 255 := rfl; omega
theorem isC.nat {c : Int32} (h : isC c) : c.toBitVec.toNat < 256 := by have := nat_of_int h.1; have := h.2; omega
theorem isC.nar {c : Int32} (h : isC c) : nar .char c = c := by
  have h2 := h.nat
  apply Int32.toBitVec_inj.mp
  apply BitVec.eq_of_toNat_eq
  show c.toUInt32.toUInt16.toUInt32.toNat = _
  rw [UInt16.toNat_toUInt32, UInt32.toNat_toUInt16]
  show c.toBitVec.toNat % 2 ^ 16 = _
  omega
theorem isC.back {c : Int32} (h : isC c) : c.toInt8.toInt32 &&& 255 = c := by
  apply Int32.toBitVec_inj.mp
  apply BitVec.eq_of_toNat_eq
  rw [lo8_and]; have := h.nat; omega

theorem nat_ofN {i : Nat} (h : i < 2147483648) : (Int32.ofNat i).toBitVec.toNat = i := by show (BitVec.ofNat 32 i).toNat = i; rw [BitVec.toNat_ofNat]; omega
theorem eq_ofN {x : Int32} {i : Nat} (h : i < 2147483648) (e : x.toBitVec.toNat = i) : x = Int32.ofNat i := by
  apply Int32.toBitVec_inj.mp; apply BitVec.eq_of_toNat_eq; rw [e, nat_ofN h]
theorem shlE {a k m : Nat} {s : Int32} (hs : (s &&& 31).toBitVec.smod 32 = BitVec.ofNat 32 k) (hk : k < 32) (ha : a < 2147483648) (hm : a * 2 ^ k = m) (h : m < 2147483648) : Int32.ofNat a <<< (s &&& 31) = Int32.ofNat m := by
  apply eq_ofN h
  rw [Int32.toBitVec_shiftLeft, hs]
  show ((Int32.ofNat a).toBitVec <<< (BitVec.ofNat 32 k).toNat).toNat = _
  rw [BitVec.toNat_shiftLeft, nat_ofN ha, BitVec.toNat_ofNat, Nat.mod_eq_of_lt (show k < 2 ^ 32 by omega), Nat.shiftLeft_eq, hm, Nat.mod_eq_of_lt (by omega)]
theorem shrE {a k m : Nat} {s : Int32} (hs : (s &&& 31).toBitVec.smod 32 = BitVec.ofNat 32 k) (hk : k < 32) (ha : a < 2147483648) (hm : a / 2 ^ k = m) : Int32.ofNat a >>> (s &&& 31) = Int32.ofNat m := by
  have hd : m < 2147483648 := hm ▸ Nat.lt_of_le_of_lt (Nat.div_le_self _ _) ha
  apply eq_ofN hd
  have hb : (Int32.ofNat a).toBitVec.msb = false := by rw [BitVec.msb_eq_decide, nat_ofN ha]; simp; omega
  rw [Int32.toBitVec_shiftRight, hs]
  show ((Int32.ofNat a).toBitVec.sshiftRight (BitVec.ofNat 32 k).toNat).toNat = _
  rw [BitVec.sshiftRight_eq_of_msb_false hb, BitVec.toNat_ushiftRight, nat_ofN ha, BitVec.toNat_ofNat, Nat.mod_eq_of_lt (show k < 2 ^ 32 by omega), Nat.shiftRight_eq_div_pow, hm]
theorem ushrE {a k m : Nat} {s : Int32} (hs : (s &&& 31).toUInt32 = UInt32.ofNat k) (hk : k < 32) (ha : a < 2147483648) (hm : a / 2 ^ k = m) : XT.ushr (Int32.ofNat a) s = Int32.ofNat m := by
  have hd : m < 2147483648 := hm ▸ Nat.lt_of_le_of_lt (Nat.div_le_self _ _) ha
  apply eq_ofN hd
  show ((Int32.ofNat a).toUInt32 >>> (s &&& 31).toUInt32).toNat = _
  rw [hs, UInt32.toNat_shiftRight]
  have e : (Int32.ofNat a).toUInt32.toNat = a := nat_ofN ha
  have e2 : (UInt32.ofNat k).toNat % 32 = k := by show (BitVec.ofNat 32 k).toNat % 32 = k; rw [BitVec.toNat_ofNat]; omega
  rw [e, e2, Nat.shiftRight_eq_div_pow, hm]
theorem and63 {a m : Nat} (ha : a < 2147483648) (hm : a % 64 = m) : Int32.ofNat a &&& 63 = Int32.ofNat m := by
  apply eq_ofN (by omega)
  rw [Int32.toBitVec_and, BitVec.toNat_and, nat_ofN ha, show (63 : Int32).toBitVec.toNat = 2 ^ 6 - 1 from by decide, Nat.and_two_pow_sub_one_eq_mod]; exact hm
theorem orE {a b k m : Nat} (ha : a % 2 ^ k = 0) (hb : b < 2 ^ k) (hm : a + b = m) (h : m < 2147483648) : Int32.ofNat a ||| Int32.ofNat b = Int32.ofNat m := by
  apply eq_ofN h
  rw [Int32.toBitVec_or, BitVec.toNat_or, nat_ofN (by omega), nat_ofN (by omega)]
  obtain ⟨c, rfl⟩ := Nat.dvd_of_mod_eq_zero ha
  rw [← Nat.two_pow_add_eq_or_of_lt hb]; exact hm
theorem by8 {a b : Nat} (h : a % 256 = b) : (Int32.ofNat a).toInt8.toInt32 = (Int32.ofNat b).toInt8.toInt32 := by
  have : (Int32.ofNat a).toInt8 = (Int32.ofNat b).toInt8 := by
    apply Int8.toBitVec_inj.mp
    apply BitVec.eq_of_toNat_eq
    rw [Int32.toBitVec_toInt8, Int32.toBitVec_toInt8]
    show ((BitVec.ofNat 32 a).signExtend 8).toNat = ((BitVec.ofNat 32 b).signExtend 8).toNat
    rw [BitVec.signExtend_eq_setWidth_of_le _ (by omega), BitVec.signExtend_eq_setWidth_of_le _ (by omega), BitVec.toNat_setWidth, BitVec.toNat_setWidth, BitVec.toNat_ofNat, BitVec.toNat_ofNat]
    omega
  rw [this]
theorem i8i8 (x : Int32) : x.toInt8.toInt32.toInt8.toInt32 = x.toInt8.toInt32 := by simp
theorem or_neg (x : Int32) : (x ||| (-2 : Int32)) < 0 := by
  have h : (x ||| (-2 : Int32)).toBitVec.msb = true := by
    rw [Int32.toBitVec_or, BitVec.msb_or, show (-2 : Int32).toBitVec.msb = true from by decide, Bool.or_true]
  rw [BitVec.msb_eq_toInt] at h
  rw [Int32.lt_iff_toInt_lt]
  exact of_decide_eq_true h
theorem or_nn {x y : Int32} (hx : ¬ x < 0) (hy : ¬ y < 0) : ¬ (x ||| y) < 0 := by
  have f : ∀ {z : Int32}, ¬ z < 0 ↔ z.toBitVec.msb = false := fun {z} => by
    rw [BitVec.msb_eq_toInt, Int32.lt_iff_toInt_lt]; show ¬ z.toBitVec.toInt < 0 ↔ _; simp
  rw [f] at hx hy ⊢
  rw [Int32.toBitVec_or, BitVec.msb_or, hx, hy]; rfl
def X0 (a : Nat) : Nat := a / 4
def X1 (a b : Nat) : Nat := a % 4 * 16 + b / 16
def X2 (b c : Nat) : Nat := b % 16 * 4 + c / 64
def X3 (c : Nat) : Nat := c % 64
theorem x0_lt {a : Nat} (ha : a < 256) : X0 a < 64 := by unfold X0; omega
theorem x1_lt {a b : Nat} (ha : a < 256) (hb : b < 256) : X1 a b < 64 := by unfold X1; omega
theorem x2_lt {b c : Nat} (hb : b < 256) (hc : c < 256) : X2 b c < 64 := by unfold X2; omega
theorem x3_lt {c : Nat} (hc : c < 256) : X3 c < 64 := by unfold X3; omega
def tbN (m : Nat) : Nat := ([65,66,67,68,69,70,71,72,73,74,75,76,77,78,79,80,81,82,83,84,85,86,87,88,89,90,97,98,99,100,101,102,103,104,105,106,107,108,109,110,111,112,113,114,115,116,117,118,119,120,121,122,48,49,50,51,52,53,54,55,56,57,43,47] : List Nat).getD m 0
def T (m : Nat) : Int32 := Int32.ofNat (tbN m)
theorem tbN_lt {m : Nat} (h : m < 64) : tbN m < 128 ∧ tbN m ≠ 61 := (by decide : ∀ m, m < 64 → tbN m < 128 ∧ tbN m ≠ 61) m h
theorem T_isC {m : Nat} (h : m < 64) : isC (T m) := by
  have := (tbN_lt h).1
  unfold isC T; rw [ofN_int (by omega)]; omega
theorem T_ne61 {m : Nat} (h : m < 64) : ¬ (T m).toInt8.toInt32 = 61 := (by decide : ∀ m, m < 64 → ¬ (T m).toInt8.toInt32 = 61) m h
theorem l_byte (x : Int64) : ∃ b : Nat, b < 256 ∧ (x &&& 255).toInt32 = Int32.ofNat b := by
  refine ⟨(x &&& 255).toBitVec.toNat, ?_, ?_⟩
  · rw [Int64.toBitVec_and, BitVec.toNat_and]
    have : (255 : Int64).toBitVec.toNat = 255 := by decide
    rw [this]; exact Nat.lt_of_le_of_lt Nat.and_le_right (by decide)
  · have hb : (x &&& 255).toBitVec.toNat < 256 := by
      rw [Int64.toBitVec_and, BitVec.toNat_and]
      have : (255 : Int64).toBitVec.toNat = 255 := by decide
      rw [this]; exact Nat.lt_of_le_of_lt Nat.and_le_right (by decide)
    apply eq_ofN (by omega)
    rw [Int64.toBitVec_toInt32, BitVec.signExtend_eq_setWidth_of_le _ (by omega), BitVec.toNat_setWidth]
    omega
theorem sym_a {m : Nat} (h : m < 64) : (Int32.ofNat m < 26) → (65 + Int32.ofNat m).toUInt32.toUInt16.toUInt32.toInt32 = T m := (by decide : ∀ m, m < 64 → (Int32.ofNat m < 26) → (65 + Int32.ofNat m).toUInt32.toUInt16.toUInt32.toInt32 = T m) m h
theorem sym_b {m : Nat} (h : m < 64) : ¬ (Int32.ofNat m < 26) → (Int32.ofNat m < 52) → (97 + (Int32.ofNat m - 26)).toUInt32.toUInt16.toUInt32.toInt32 = T m := (by decide : ∀ m, m < 64 → ¬ (Int32.ofNat m < 26) → (Int32.ofNat m < 52) → (97 + (Int32.ofNat m - 26)).toUInt32.toUInt16.toUInt32.toInt32 = T m) m h
theorem sym_c {m : Nat} (h : m < 64) : ¬ (Int32.ofNat m < 52) → (Int32.ofNat m < 62) → (48 + (Int32.ofNat m - 52)).toUInt32.toUInt16.toUInt32.toInt32 = T m := (by decide : ∀ m, m < 64 → ¬ (Int32.ofNat m < 52) → (Int32.ofNat m < 62) → (48 + (Int32.ofNat m - 52)).toUInt32.toUInt16.toUInt32.toInt32 = T m) m h
theorem sym_d {m : Nat} (h : m < 64) : Int32.ofNat m = 62 → 43 = T m := (by decide : ∀ m, m < 64 → Int32.ofNat m = 62 → 43 = T m) m h
theorem sym_e {m : Nat} (h : m < 64) : ¬ (Int32.ofNat m < 62) → ¬ Int32.ofNat m = 62 → 47 = T m := (by decide : ∀ m, m < 64 → ¬ (Int32.ofNat m < 62) → ¬ Int32.ofNat m = 62 → 47 = T m) m h
theorem B_isC {b : Nat} (h : b < 256) : isC (Int32.ofNat b) := by unfold isC; rw [ofN_int (by omega)]; omega
theorem T_cl {m : Nat} (h : m < 64) : (T m).toNatClampNeg = tbN m := by have := (tbN_lt h).1; exact ofN_cl (by omega)
theorem T_in {m : Nat} (h : m < 64) : ¬ T m < 0 ∧ T m < 256 := by have := (tbN_lt h).1; exact ⟨ofN_nneg (by omega), ofN_lt (n := 256) (by omega) (by decide)⟩
theorem N_cl {m : Nat} (h : m < 64) : (Int32.ofNat m).toNatClampNeg = m := ofN_cl (by omega)
theorem N_in {m : Nat} (h : m < 64) : ¬ Int32.ofNat m < 0 ∧ Int32.ofNat m < 64 := ⟨ofN_nneg (by omega), ofN_lt (n := 64) (by omega) (by decide)⟩
theorem fb_at {m : Nat} (h : m < 64) : fbV.getD (tbN m) (.int 0) = .int (Int32.ofNat m) := (by decide +kernel : ∀ m, m < 64 → fbV.getD (tbN m) (.int 0) = .int (Int32.ofNat m)) m h
theorem fb_eq : fbV.getD 61 (.int 0) = .int (-2) := by decide +kernel
theorem tb_at {m : Nat} (h : m < 64) : tbV.getD m (.int 0) = .int (T m) := (by decide +kernel : ∀ m, m < 64 → tbV.getD m (.int 0) = .int (T m)) m h
theorem old_ne {Z : State} {n0 : Nat} {h : Heap} {a b : Addr} (O : Old Z n0 h) (ha : a < Z.heap.size) (hb : n0 ≤ b) : a ≠ b := by have h1 := O.1; exact Nat.ne_of_lt (Nat.lt_of_lt_of_le ha (by rw [h1]; exact hb))
set_option maxRecDepth 65536 in
set_option maxHeartbeats 4000000 in
theorem cmp5_loop {l : Launch} {Z : State} {a0 : Array Value} {n0 : Nat} (hB : Base Z a0) {b d : Addr} {kb kd : ClassId} (cs : List Int32) (hn : cs.length ≤ 4000) (hc : ∀ c ∈ cs, ¬ (255 : Int32) < c) (hne : b ≠ d) (h0 : Heap) :
    ∀ (j i : Nat) (h : Heap) (o6 : Slot), One o6 → i + j = cs.length → Keep h0 h [d] → Arv Z h b kb .char (Int32.ofNat cs.length) (cs.map Value.int) (.int 0) → Arv Z h d kd .byte (Int32.ofNat cs.length) (lo8s (cs.take i) ++ List.replicate j (Value.int 0)) (.int 0) →
      Go l Z a0 ELc n0 (⟨0, 0, 0, 0⟩ : Room) "java/lang/StringUTF16" jdk_52_method_21_code 7 (Option.some FieldType.int) "compress" (fun v h' sf' => v = some (.int (Int32.ofNat cs.length)) ∧ sf' = [] ∧ Keep h0 h' [d] ∧ Arv Z h' d kd .byte (Int32.ofNat cs.length) (lo8s cs) (.int 0)) h [d] 0 0 3 #[.val (.ref b), .val (.int (Int32.ofNat i)), .val (.ref d), .val (.int (Int32.ofNat i)), .val (.int (Int32.ofNat cs.length)), .val (.int (Int32.ofNat i)), o6] [] := by
  intro j
  induction j with
  | zero =>
    intro i h o6 ho hi K A B
    refine go_iload d30_3 rfl rfl ?_
    refine go_iload d30_5 rfl rfl ?_
    refine go_icmp_ge_t (pt := 44) d30_7 (ofN_nlt (by omega) (by omega)) ?_
    refine go_iload d30_44 rfl rfl ?_
    refine go_retI d30_46 [] rfl (by decide) (by decide) (fun _ q => nomatch q) ?_
    refine ⟨rfl, rfl, K, ?_⟩
    have e : i = cs.length := by omega
    subst e
    simpa using B
  | succ j ih =>
    intro i h o6 ho hi K A B
    obtain ⟨c, hci, hcm⟩ := at_of (cs := cs) (i := i) (by omega)
    refine go_iload d30_3 rfl rfl ?_
    refine go_iload d30_5 rfl rfl ?_
    refine go_icmp_ge_f d30_7 rfl (ofN_lt (by omega) (by omega)) ?_
    refine go_aloadN d30_10 rfl rfl rfl ?_
    refine go_iloadN d30_11 rfl rfl ?_
    refine go_caload (v := (.int c)) i d30_12 rfl A ⟨ofN_nneg (by omega), ofN_lt (by omega) (by omega)⟩ (ofN_cl (by omega)) (map_at hci) ?_
    refine go_istore d30_13 rfl #[vr b, vi (Int32.ofNat i), vr d, vi (Int32.ofNat i), vi (Int32.ofNat cs.length), vi (Int32.ofNat i), vi c] (XS.store1 rfl ho rfl) ?_
    refine go_iload d30_15 rfl rfl ?_
    refine go_sipush 255 d30_17 rfl ?_
    refine go_icmp_le_t (pt := 26) d30_20 (hc c hcm) ?_
    refine go_aloadN d30_26 rfl rfl rfl ?_
    refine go_iloadN d30_27 rfl rfl ?_
    refine go_iload d30_28 rfl rfl ?_
    refine go_i2b d30_30 rfl ?_
    refine go_bastore i d30_31 rfl B ⟨ofN_nneg (by omega), ofN_lt (by omega) (by omega)⟩ (ofN_cl (by omega)) (by simp [lo8s_len]; omega) (List.Mem.head _) ?_
    intro h1 W2 B3
    have B4 : Arv Z h1 d kd .byte (Int32.ofNat cs.length) ((lo8s (cs.take i) ++ List.replicate (j + 1) (Value.int 0)).set i (Value.int c.toInt8.toInt32.toInt8.toInt32)) (.int 0) := B3
    refine go_iinc 1 d30_32 rfl #[vr b, vi ((Int32.ofNat i) + 1), vr d, vi (Int32.ofNat i), vi (Int32.ofNat cs.length), vi (Int32.ofNat i), vi c] (by decide) rfl rfl ?_
    refine go_iinc 1 d30_35 rfl #[vr b, vi ((Int32.ofNat i) + 1), vr d, vi ((Int32.ofNat i) + 1), vi (Int32.ofNat cs.length), vi (Int32.ofNat i), vi c] (by decide) rfl rfl ?_
    refine go_iinc 1 d30_38 rfl #[vr b, vi ((Int32.ofNat i) + 1), vr d, vi ((Int32.ofNat i) + 1), vi (Int32.ofNat cs.length), vi ((Int32.ofNat i) + 1), vi c] (by decide) rfl rfl ?_
    refine go_goto (pt := 3) d30_41 ?_
    rw [ofN_succ]
    have F5 := (Arv.other A W2 hne)
    have e8 : c.toInt8.toInt32.toInt8.toInt32 = c.toInt8.toInt32 := by simp
    rw [e8, lo8s_set hci hi] at B4
    exact ih (i + 1) _ _ (One.val rfl) (by omega) (K.wr W2 (Or.inl (List.Mem.head _))) F5 B4
set_option maxRecDepth 65536 in
set_option maxHeartbeats 4000000 in
theorem c_cmp5 (hB : Base Z a0) {b d : Addr} {kb kd : ClassId} (cs : List Int32) (hn : cs.length ≤ 4000) (hc : ∀ c ∈ cs, ¬ (255 : Int32) < c) (hne : b ≠ d) {h : Heap} (A : Arv Z h b kb .char (Int32.ofNat cs.length) (cs.map Value.int) (.int 0)) (B : Arv Z h d kd .byte (Int32.ofNat cs.length) (List.replicate cs.length (Value.int 0)) (.int 0)) :
    Con l Z ELc n0 (⟨"java/lang/StringUTF16", "compress", "([CI[BII)I"⟩ : MethodName) kb30 7 (Option.some FieldType.int) [] (⟨0, 0, 0, 0⟩ : Room) #[.ref b, .int 0, .ref d, .int 0, .int (Int32.ofNat cs.length)] h [d] (fun v h' sf' => v = some (.int (Int32.ofNat cs.length)) ∧ sf' = [] ∧ Keep h h' [d] ∧ Arv Z h' d kd .byte (Int32.ofNat cs.length) (lo8s cs) (.int 0)) := by
  refine con_ofA hB (ls := #[.val (.ref b), .val (.int 0), .val (.ref d), .val (.int 0), .val (.int (Int32.ofNat cs.length)), .unset, .unset]) (fun m => by simp [entryFrame, mkF, argsToLocals, Value.category]) ?_
  show Go _ _ _ _ _ _ "java/lang/StringUTF16" kb30 7 _ "compress" _ h [d] 0 0 0 #[vr b, vi 0, vr d, vi 0, vi (Int32.ofNat cs.length), .unset, .unset] []
  refine go_iconst 0 d30_0 rfl ?_
  refine go_istore d30_1 rfl #[vr b, vi 0, vr d, vi 0, vi (Int32.ofNat cs.length), vi 0, .unset] rfl ?_
  exact cmp5_loop hB cs hn hc hne h cs.length 0 h _ One.u (by omega) (Keep.refl _ _) A (by simpa [lo8s] using B)
set_option maxRecDepth 65536 in
set_option maxHeartbeats 4000000 in
theorem c_cod (hB : Base Z a0) {d : Addr} {kd : ClassId} {z : Int32} {vs : List Value} {h : Heap} (B : Arv Z h d kd .byte z vs (.int 0)) :
    Con l Z ELc n0 (⟨"java/lang/StringUTF16", "coderFromArrayLen", "([BI)B"⟩ : MethodName) kb31 2 (Option.some FieldType.byte) [] (⟨0, 0, 0, 0⟩ : Room) #[.ref d, .int z] h [] (fun v h' sf' => v = some (.int 0) ∧ sf' = [] ∧ h = h') := by
  refine con_ofA hB (ls := #[.val (.ref d), .val (.int z)]) (fun m => by simp [entryFrame, mkF, argsToLocals, Value.category]) ?_
  show Go _ _ _ _ _ _ "java/lang/StringUTF16" kb31 2 _ "coderFromArrayLen" _ h [] 0 0 0 #[vr d, vi z] []
  refine go_iloadN d31_0 rfl rfl ?_
  refine go_aloadN d31_1 rfl rfl rfl ?_
  refine go_alen d31_2 rfl B ?_
  refine go_isub d31_3 rfl ?_
  refine go_bipush 31 d31_4 rfl ?_
  refine go_iushr d31_6 rfl ?_
  refine go_i2b d31_7 rfl ?_
  refine go_retN (t := .byte) d31_8 [] rfl (by simp) (by decide) (by decide) (fun _ q => nomatch q) ?_
  refine ⟨?_, rfl, rfl⟩
  rw [Int32.sub_self]
  decide
set_option maxRecDepth 65536 in
set_option maxHeartbeats 4000000 in
theorem c_cmp3 (hB : Base Z a0) {b : Addr} {kb : ClassId} (cs : List Int32) (hn : cs.length ≤ 8) (hc : ∀ c ∈ cs, ¬ (255 : Int32) < c) {h : Heap} (A : Arv Z h b kb .char (Int32.ofNat cs.length) (cs.map Value.int) (.int 0)) :
    Con l Z ELc n0 (⟨"java/lang/StringUTF16", "compress", "([CII)[B"⟩ : MethodName) kb29 6 (Option.some (FieldType.array FieldType.byte)) [] (⟨1, 1, 8, 18⟩ : Room) #[.ref b, .int 0, .int (Int32.ofNat cs.length)] h [] (fun v h' sf' => ∃ d kd, v = some (.ref d) ∧ sf' = [] ∧ Ext h h' ∧ h.size ≤ d ∧ Arv Z h' d kd .byte (Int32.ofNat cs.length) (lo8s cs) (.int 0) ∧ Exa Z h' d "[B") := by
  refine con_ofA hB (ls := #[.val (.ref b), .val (.int 0), .val (.int (Int32.ofNat cs.length)), .unset, .unset, .unset]) (fun m => by simp [entryFrame, mkF, argsToLocals, Value.category]) ?_
  show Go _ _ _ _ _ _ "java/lang/StringUTF16" kb29 6 _ "compress" _ h [] 0 0 0 #[vr b, vi 0, vi (Int32.ofNat cs.length), .unset, .unset, .unset] []
  refine go_iloadN d29_0 rfl rfl ?_
  refine go_newarr (ty := .byte) (ad := "[B") 8 d29_1 rfl rfl (wd hB 18 rfl) (ofN_nneg (by omega)) (by rw [ofN_cl (by omega)]; exact hn) (by decide) (by decide) (by decide) (by decide) ?_
  intro h6 x1 hx2 E3 ⟨A4, k5, B7⟩
  have B8 : Arv Z h6 x1 k5 .byte (Int32.ofNat cs.length) (List.replicate cs.length (Value.int 0)) (.int 0) := B7.pad (pad_rep [] (.int 0) cs.length)
  refine go_astoreN d29_3 rfl #[vr b, vi 0, vi (Int32.ofNat cs.length), vr x1, .unset, .unset] rfl rfl ?_
  refine go_aloadN d29_4 rfl rfl rfl ?_
  refine go_iloadN d29_5 rfl rfl ?_
  refine go_aloadN d29_6 rfl rfl rfl ?_
  refine go_iconst 0 d29_7 rfl ?_
  refine go_iloadN d29_8 rfl rfl ?_
  have F9 := (A.ext E3)
  refine go_static [(.ref b), (.int 0), (.ref x1), (.int 0), (.int (Int32.ofNat cs.length))] [] 0 d29_9 rfl (wd hB 170 rfl) (wd hB 171 rfl) (wd hB 168 rfl) (wd hB 172 rfl) (c_cmp5 hB cs (by omega) hc (Nat.ne_of_lt (Nat.lt_of_lt_of_le A.lt (Nat.le_of_eq hx2.symm))) F9 B8) (allS (List.Mem.head _) (fun _ q => nomatch q)) (lenOf pd_0 rfl) rfl rfl rfl (fun v10 h11 s12 q13 => ?_)
  obtain ⟨rfl, rfl, K14, B15⟩ := q13
  show Go _ _ _ _ _ _ _ _ _ _ _ _ h11 [x1] 1 8 12 _ [(.int (Int32.ofNat cs.length))]
  refine go_istore d29_12 rfl #[vr b, vi 0, vi (Int32.ofNat cs.length), vr x1, vi (Int32.ofNat cs.length), .unset] rfl ?_
  refine go_iload d29_14 rfl rfl ?_
  refine go_iloadN d29_16 rfl rfl ?_
  refine go_icmp_eq_t (pt := 57) d29_17 rfl ?_
  refine go_aloadN d29_57 rfl rfl rfl ?_
  have F16 := (A4.keep K14)
  refine go_retA d29_58 [] rfl rfl rfl rfl (by decide) (by decide) (fun _ q => nomatch q) ?_
  exact ⟨_, _, rfl, rfl, (ext_of_keep (((Keep.refl h []).ext E3).trans K14 (allS (Or.inr (Nat.le_of_eq hx2.symm)) all0))), (Nat.le_of_eq hx2.symm), B15, F16⟩
set_option maxRecDepth 65536 in
set_option maxHeartbeats 4000000 in
theorem c_sinit4 (hB : Base Z a0) {x b : Addr} {kb : ClassId} (cs : List Int32) (hp : 0 < cs.length) (hn : cs.length ≤ 8) (hc : ∀ c ∈ cs, ¬ (255 : Int32) < c) {h : Heap} (A : Arv Z h b kb .char (Int32.ofNat cs.length) (cs.map Value.int) (.int 0)) (E : Exa Z h x "java/lang/String") (F1 : Fld Z h x "java/lang/String" "value" "[B" .null) (F2 : Fld Z h x "java/lang/String" "coder" "B" (.int 0)) (hge : n0 ≤ x) :
    Con l Z ELc n0 (⟨"java/lang/String", "<init>", "([CIILjava/lang/Void;)V"⟩ : MethodName) kb2 6 (Option.none : Option FieldType) [] (⟨2, 1, 8, 37⟩ : Room) #[.ref x, .ref b, .int 0, .int (Int32.ofNat cs.length), .null] h [x] (fun v h' sf' => v = none ∧ sf' = [] ∧ Keep h h' [x] ∧ Exa Z h' x "java/lang/String" ∧ Fld Z h' x "java/lang/String" "coder" "B" (.int 0) ∧ ∃ d kd, h.size ≤ d ∧ Fld Z h' x "java/lang/String" "value" "[B" (.ref d) ∧ Arv Z h' d kd .byte (Int32.ofNat cs.length) (lo8s cs) (.int 0) ∧ Exa Z h' d "[B") := by
  refine con_ofA hB (ls := #[.val (.ref x), .val (.ref b), .val (.int 0), .val (.int (Int32.ofNat cs.length)), .val .null, .unset]) (fun m => by simp [entryFrame, mkF, argsToLocals, Value.category]) ?_
  show Go _ _ _ _ _ _ "java/lang/String" kb2 6 _ "<init>" _ h [x] 0 0 0 #[vr x, vr b, vi 0, vi (Int32.ofNat cs.length), .val .null, .unset] []
  obtain ⟨cz, hS, hcz⟩ := hB.2.2.1
  refine go_aloadN d2_0 rfl rfl rfl ?_
  refine go_initO d2_1 rfl (wd hB 14 rfl) (wd hB 15 rfl) (wd hB 16 rfl) rfl (by decide) 0 rfl (by decide) ?_
  refine go_iloadN d2_4 rfl rfl ?_
  refine go_if_ne_t (pt := 27) d2_5 (ofN_pos hp (by omega)) ?_
  refine go_getstatic d2_27 rfl (wd hB 52 rfl) Via.refl hS ?_
  refine go_if_eq_f d2_30 rfl hcz ?_
  refine go_aloadN d2_33 rfl rfl rfl ?_
  refine go_iloadN d2_34 rfl rfl ?_
  refine go_iloadN d2_35 rfl rfl ?_
  refine go_static [(.ref b), (.int 0), (.int (Int32.ofNat cs.length))] [] 0 d2_36 rfl (wd hB 166 rfl) (wd hB 167 rfl) (wd hB 168 rfl) (wd hB 169 rfl) (c_cmp3 hB cs hn hc A) (fun _ q => nomatch q) (lenOf pd_1 rfl) rfl rfl rfl (fun v1 h2 s3 q4 => ?_)
  obtain ⟨d5, k6, rfl, rfl, E7, g8, B9, E10⟩ := q4
  show Go _ _ _ _ _ _ _ _ _ _ _ _ h2 [x] 1 8 39 _ [(.ref d5)]
  refine go_astore d2_39 rfl #[vr x, vr b, vi 0, vi (Int32.ofNat cs.length), .val .null, vr d5] rfl rfl ?_
  refine go_aloadN d2_41 rfl rfl rfl ?_
  refine go_aload d2_42 rfl rfl rfl ?_
  refine go_iloadN d2_44 rfl rfl ?_
  refine go_static [(.ref d5), (.int (Int32.ofNat cs.length))] [(.ref x)] 1 d2_45 rfl (wd hB 173 rfl) (wd hB 174 rfl) (wd hB 168 rfl) (wd hB 175 rfl) (c_cod hB B9) (fun _ q => nomatch q) (lenOf pd_2 rfl) rfl rfl rfl (fun v11 h12 s13 q14 => ?_)
  obtain ⟨rfl, rfl, rfl⟩ := q14
  show Go _ _ _ _ _ _ _ _ _ _ _ _ h2 [x] 1 8 48 _ [(.int 0), (.ref x)]
  have F15 := (Fld.ext E7 F2)
  have F16 := (Exa.ext E7 E)
  refine go_putfield (ty := .byte) d2_48 rfl (wd hB 24 rfl) Via.refl F15 F16 (Or.inr ⟨(wd hB 20 rfl), rfl, rfl⟩) (wd hB 5 rfl) (by decide) (by decide) (by decide) (List.Mem.head _) ?_
  intro h17 W18
  have F19 := Fld.same W18 F15
  refine go_aloadN d2_51 rfl rfl rfl ?_
  refine go_aload d2_52 rfl rfl rfl ?_
  have F20 := (Fld.other W18 (Fld.ext E7 F1) (Or.inr (slot_ne (t := (.array .byte)) (t' := .byte) (Or.inr (wd hB 19 rfl) : Laid Z a0 "java/lang/String" "java/lang/String" "value" "[B") (Or.inr (wd hB 20 rfl) : Laid Z a0 "java/lang/String" "java/lang/String" "coder" "B") (by decide) (by decide) (by decide))))
  have F21 := (Exa.wr W18 F16)
  refine go_putfield (ty := (.array .byte)) d2_54 rfl (wd hB 23 rfl) Via.refl F20 F21 (Or.inr ⟨(wd hB 19 rfl), rfl, rfl⟩) (wd hB 5 rfl) (by decide) rfl rfl (List.Mem.head _) ?_
  intro h22 W23
  have F24 := Fld.same W23 F20
  have F25 := (Exa.wr W23 F21)
  have F26 := (Fld.other W23 F19 (Or.inr (slot_ne (t := .byte) (t' := (.array .byte)) (Or.inr (wd hB 20 rfl) : Laid Z a0 "java/lang/String" "java/lang/String" "coder" "B") (Or.inr (wd hB 19 rfl) : Laid Z a0 "java/lang/String" "java/lang/String" "value" "[B") (by decide) (by decide) (by decide))))
  have F27 := (Arv.other (Arv.other B9 W18 (Ne.symm (Nat.ne_of_lt (Nat.lt_of_lt_of_le E.lt g8)))) W23 (Ne.symm (Nat.ne_of_lt (Nat.lt_of_lt_of_le E.lt g8))))
  have F28 := (Exa.wr W23 (Exa.wr W18 E10))
  refine go_ret d2_57 [] rfl (by decide) (by decide) (fun _ q => nomatch q) ?_
  exact ⟨rfl, rfl, ((((Keep.refl h [x]).ext E7).wr W18 (Or.inl (List.Mem.head _))).wr W23 (Or.inl (List.Mem.head _))), F25, F26, _, _, g8, F24, F27, F28⟩
set_option maxRecDepth 65536 in
set_option maxHeartbeats 4000000 in
theorem c_sinit4e (hB : Base Z a0) {x b : Addr} {h : Heap} (E : Exa Z h x "java/lang/String") (F1 : Fld Z h x "java/lang/String" "value" "[B" .null) (F2 : Fld Z h x "java/lang/String" "coder" "B" (.int 0)) :
    Con l Z ELc n0 (⟨"java/lang/String", "<init>", "([CIILjava/lang/Void;)V"⟩ : MethodName) kb2 6 (Option.none : Option FieldType) [] (⟨1, 4, 8, 12⟩ : Room) #[.ref x, .ref b, .int 0, .int 0, .null] h [x] (fun v h' sf' => v = none ∧ sf' = [] ∧ Keep h h' [x] ∧ Exa Z h' x "java/lang/String" ∧ Fld Z h' x "java/lang/String" "coder" "B" (.int 0) ∧ ∃ d kd, Fld Z h' x "java/lang/String" "value" "[B" (.ref d) ∧ Arv Z h' d kd .byte 0 [] (.int 0) ∧ Exa Z h' d "[B") := by
  refine con_ofA hB (ls := #[.val (.ref x), .val (.ref b), .val (.int 0), .val (.int 0), .val .null, .unset]) (fun m => by simp [entryFrame, mkF, argsToLocals, Value.category]) ?_
  show Go _ _ _ _ _ _ "java/lang/String" kb2 6 _ "<init>" _ h [x] 0 0 0 #[vr x, vr b, vi 0, vi 0, .val .null, .unset] []
  refine go_aloadN d2_0 rfl rfl rfl ?_
  refine go_initO d2_1 rfl (wd hB 14 rfl) (wd hB 15 rfl) (wd hB 16 rfl) rfl (by decide) 0 rfl (by decide) ?_
  refine go_iloadN d2_4 rfl rfl ?_
  refine go_if_ne_f d2_5 rfl (by decide) ?_
  refine go_aloadN d2_8 rfl rfl rfl ?_
  refine go_ldcB (text := "") 0 0 [] d2_9 rfl (wd hB 17 rfl) (stA hB) (by decide) ⟨by decide, by decide⟩ (by decide) (by decide) (by decide) (by decide) (by decide) (by decide) ?_
  intro h1 a2 b4 k5 E3 F6 F7 F8 F9 F11 F10
  refine go_getfield d2_11 rfl (wd hB 23 rfl) Via.refl F8 ?_
  have F12 := (Fld.ext E3 F1)
  have F13 := (Exa.ext E3 E)
  refine go_putfield (ty := (.array .byte)) d2_14 rfl (wd hB 23 rfl) Via.refl F12 F13 (Or.inr ⟨(wd hB 19 rfl), rfl, rfl⟩) (wd hB 5 rfl) (by decide) rfl rfl (List.Mem.head _) ?_
  intro h14 W15
  have F16 := Fld.same W15 F12
  refine go_aloadN d2_17 rfl rfl rfl ?_
  refine go_ldcB (text := "") 0 0 [] d2_18 rfl (wd hB 17 rfl) (stA hB) (by decide) ⟨by decide, by decide⟩ (by decide) (by decide) (by decide) (by decide) (by decide) (by decide) ?_
  intro h17 a18 b20 k21 E19 F22 F23 F24 F25 F27 F26
  refine go_getfield d2_20 rfl (wd hB 24 rfl) Via.refl F23 ?_
  have F28 := (Fld.ext E19 (Fld.other W15 (Fld.ext E3 F2) (Or.inr (slot_ne (t := .byte) (t' := (.array .byte)) (Or.inr (wd hB 20 rfl) : Laid Z a0 "java/lang/String" "java/lang/String" "coder" "B") (Or.inr (wd hB 19 rfl) : Laid Z a0 "java/lang/String" "java/lang/String" "value" "[B") (by decide) (by decide) (by decide)))))
  have F29 := (Exa.ext E19 (Exa.wr W15 F13))
  refine go_putfield (ty := .byte) d2_23 rfl (wd hB 24 rfl) Via.refl F28 F29 (Or.inr ⟨(wd hB 20 rfl), rfl, rfl⟩) (wd hB 5 rfl) (by decide) (by decide) (by decide) (List.Mem.head _) ?_
  intro h30 W31
  have F32 := Fld.same W31 F28
  have F33 := (Exa.wr W31 F29)
  have F34 := (Fld.other W31 (Fld.ext E19 F16) (Or.inr (slot_ne (t := (.array .byte)) (t' := .byte) (Or.inr (wd hB 19 rfl) : Laid Z a0 "java/lang/String" "java/lang/String" "value" "[B") (Or.inr (wd hB 20 rfl) : Laid Z a0 "java/lang/String" "java/lang/String" "coder" "B") (by decide) (by decide) (by decide))))
  have F35 := (Arv.other ((Arv.other F9 W15 (Ne.symm (F10 x (List.Mem.head _)).2)).ext E19) W31 (Ne.symm (F10 x (List.Mem.head _)).2))
  have F36 := (Exa.wr W31 (Exa.ext E19 (Exa.wr W15 F11)))
  refine go_ret d2_26 [] rfl (by decide) (by decide) (fun _ q => nomatch q) ?_
  exact ⟨rfl, rfl, (((((Keep.refl h [x]).ext E3).wr W15 (Or.inl (List.Mem.head _))).ext E19).wr W31 (Or.inl (List.Mem.head _))), F33, F32, _, _, F34, F35, F36⟩
set_option maxRecDepth 65536 in
set_option maxHeartbeats 4000000 in
theorem c_sinit (hB : Base Z a0) {x b : Addr} {kb : ClassId} (cs : List Int32) (hp : 0 < cs.length) (hn : cs.length ≤ 8) (hc : ∀ c ∈ cs, ¬ (255 : Int32) < c) {h : Heap} (A : Arv Z h b kb .char (Int32.ofNat cs.length) (cs.map Value.int) (.int 0)) (E : Exa Z h x "java/lang/String") (F1 : Fld Z h x "java/lang/String" "value" "[B" .null) (F2 : Fld Z h x "java/lang/String" "coder" "B" (.int 0)) (hge : n0 ≤ x) :
    Con l Z ELc n0 (⟨"java/lang/String", "<init>", "([C)V"⟩ : MethodName) kb1 2 (Option.none : Option FieldType) [] (⟨3, 1, 8, 54⟩ : Room) #[.ref x, .ref b] h [x] (fun v h' sf' => v = none ∧ sf' = [] ∧ Keep h h' [x] ∧ Exa Z h' x "java/lang/String" ∧ Fld Z h' x "java/lang/String" "coder" "B" (.int 0) ∧ ∃ d kd, h.size ≤ d ∧ Fld Z h' x "java/lang/String" "value" "[B" (.ref d) ∧ Arv Z h' d kd .byte (Int32.ofNat cs.length) (lo8s cs) (.int 0) ∧ Exa Z h' d "[B") := by
  refine con_ofA hB (ls := #[.val (.ref x), .val (.ref b)]) (fun m => by simp [entryFrame, mkF, argsToLocals, Value.category]) ?_
  show Go _ _ _ _ _ _ "java/lang/String" kb1 2 _ "<init>" _ h [x] 0 0 0 #[vr x, vr b] []
  refine go_aloadN d1_0 rfl rfl rfl ?_
  refine go_aloadN d1_1 rfl rfl rfl ?_
  refine go_iconst 0 d1_2 rfl ?_
  refine go_aloadN d1_3 rfl rfl rfl ?_
  refine go_alen d1_4 rfl A ?_
  refine go_aconstNull d1_5 rfl ?_
  refine go_special x [(.ref b), (.int 0), (.int (Int32.ofNat cs.length)), .null] [] 0 d1_6 rfl rfl (wd hB 10 rfl) (wd hB 11 rfl) (wd hB 6 rfl) (wd hB 13 rfl) (c_sinit4 hB cs hp hn hc A E F1 F2 hge) (allS (List.Mem.head _) (fun _ q => nomatch q)) (lenOf pd_3 rfl) rfl rfl rfl (fun v1 h2 s3 q4 => ?_)
  obtain ⟨rfl, rfl, q1, q2, q3, q4⟩ := q4
  show Go _ _ _ _ _ _ _ _ _ _ _ _ h2 [x] 1 8 9 _ []
  refine go_ret d1_9 [] rfl (by decide) (by decide) (fun _ q => nomatch q) ?_
  exact ⟨rfl, rfl, q1, q2, q3, q4⟩
set_option maxRecDepth 65536 in
set_option maxHeartbeats 4000000 in
theorem c_sinite (hB : Base Z a0) {x b : Addr} {kb : ClassId} {h : Heap} (A : Arv Z h b kb .char 0 [] (.int 0)) (E : Exa Z h x "java/lang/String") (F1 : Fld Z h x "java/lang/String" "value" "[B" .null) (F2 : Fld Z h x "java/lang/String" "coder" "B" (.int 0)) :
    Con l Z ELc n0 (⟨"java/lang/String", "<init>", "([C)V"⟩ : MethodName) kb1 2 (Option.none : Option FieldType) [] (⟨2, 4, 8, 29⟩ : Room) #[.ref x, .ref b] h [x] (fun v h' sf' => v = none ∧ sf' = [] ∧ Keep h h' [x] ∧ Exa Z h' x "java/lang/String" ∧ Fld Z h' x "java/lang/String" "coder" "B" (.int 0) ∧ ∃ d kd, Fld Z h' x "java/lang/String" "value" "[B" (.ref d) ∧ Arv Z h' d kd .byte 0 [] (.int 0) ∧ Exa Z h' d "[B") := by
  refine con_ofA hB (ls := #[.val (.ref x), .val (.ref b)]) (fun m => by simp [entryFrame, mkF, argsToLocals, Value.category]) ?_
  show Go _ _ _ _ _ _ "java/lang/String" kb1 2 _ "<init>" _ h [x] 0 0 0 #[vr x, vr b] []
  refine go_aloadN d1_0 rfl rfl rfl ?_
  refine go_aloadN d1_1 rfl rfl rfl ?_
  refine go_iconst 0 d1_2 rfl ?_
  refine go_aloadN d1_3 rfl rfl rfl ?_
  refine go_alen d1_4 rfl A ?_
  refine go_aconstNull d1_5 rfl ?_
  refine go_special x [(.ref b), (.int 0), (.int 0), .null] [] 0 d1_6 rfl rfl (wd hB 10 rfl) (wd hB 11 rfl) (wd hB 6 rfl) (wd hB 13 rfl) (c_sinit4e hB E F1 F2) (allS (List.Mem.head _) (fun _ q => nomatch q)) (lenOf pd_3 rfl) rfl rfl rfl (fun v1 h2 s3 q4 => ?_)
  obtain ⟨rfl, rfl, q1, q2, q3, q4⟩ := q4
  show Go _ _ _ _ _ _ _ _ _ _ _ _ h2 [x] 4 8 9 _ []
  refine go_ret d1_9 [] rfl (by decide) (by decide) (fun _ q => nomatch q) ?_
  exact ⟨rfl, rfl, q1, q2, q3, q4⟩
theorem x_lt31 {m : Nat} (h : m < 64) : m < 2147483648 := by omega
set_option maxRecDepth 65536 in
set_option maxHeartbeats 4000000 in
theorem c_sym (hB : Base Z a0) (v : Int32) (m : Nat) (hm : m < 64) (hv : v &&& 63 = Int32.ofNat m) {h : Heap} :
    Con l Z ELc n0 (⟨"com/example/cardea/cardea/Base64TextDecodePinLaw", "sym", "(I)C"⟩ : MethodName) kb28 2 (Option.some FieldType.char) [] (⟨0, 0, 0, 0⟩ : Room) #[.int v] h [] (fun v h' sf' => v = some (.int (T m)) ∧ sf' = [] ∧ h = h') := by
  refine con_ofA hB (ls := #[.val (.int v), .unset]) (fun m => by simp [entryFrame, mkF, argsToLocals, Value.category]) ?_
  show Go _ _ _ _ _ _ "com/example/cardea/cardea/Base64TextDecodePinLaw" kb28 2 _ "sym" _ h [] 0 0 0 #[vi v, .unset] []
  refine go_iloadN d28_0 rfl rfl ?_
  refine go_bipush 63 d28_1 rfl ?_
  refine go_iand d28_3 rfl ?_
  refine go_eq (y := Int32.ofNat m) hv ?_
  refine go_istoreN d28_4 rfl #[vi v, vi (Int32.ofNat m)] rfl ?_
  refine go_iloadN d28_5 rfl rfl ?_
  refine go_bipush 26 d28_6 rfl ?_
  by_cases q26 : ((Int32.ofNat m) < 26 : Prop)
  · refine go_icmp_ge_f d28_8 rfl q26 ?_
    refine go_bipush 65 d28_11 rfl ?_
    refine go_iloadN d28_13 rfl rfl ?_
    refine go_iadd d28_14 rfl ?_
    refine go_i2c d28_15 rfl ?_
    refine go_retN (t := .char) d28_16 [] rfl (by simp) (by decide) (by decide) (fun _ q => nomatch q) ?_
    exact ⟨by rw [sym_a hm q26, (T_isC hm).nar], rfl, rfl⟩
  · refine go_icmp_ge_t (pt := 17) d28_8 q26 ?_
    refine go_iloadN d28_17 rfl rfl ?_
    refine go_bipush 52 d28_18 rfl ?_
    by_cases q52 : ((Int32.ofNat m) < 52 : Prop)
    · refine go_icmp_ge_f d28_20 rfl q52 ?_
      refine go_bipush 97 d28_23 rfl ?_
      refine go_iloadN d28_25 rfl rfl ?_
      refine go_bipush 26 d28_26 rfl ?_
      refine go_isub d28_28 rfl ?_
      refine go_iadd d28_29 rfl ?_
      refine go_i2c d28_30 rfl ?_
      refine go_retN (t := .char) d28_31 [] rfl (by simp) (by decide) (by decide) (fun _ q => nomatch q) ?_
      exact ⟨by rw [sym_b hm q26 q52, (T_isC hm).nar], rfl, rfl⟩
    · refine go_icmp_ge_t (pt := 32) d28_20 q52 ?_
      refine go_iloadN d28_32 rfl rfl ?_
      refine go_bipush 62 d28_33 rfl ?_
      by_cases q62 : ((Int32.ofNat m) < 62 : Prop)
      · refine go_icmp_ge_f d28_35 rfl q62 ?_
        refine go_bipush 48 d28_38 rfl ?_
        refine go_iloadN d28_40 rfl rfl ?_
        refine go_bipush 52 d28_41 rfl ?_
        refine go_isub d28_43 rfl ?_
        refine go_iadd d28_44 rfl ?_
        refine go_i2c d28_45 rfl ?_
        refine go_retN (t := .char) d28_46 [] rfl (by simp) (by decide) (by decide) (fun _ q => nomatch q) ?_
        exact ⟨by rw [sym_c hm q52 q62, (T_isC hm).nar], rfl, rfl⟩
      · refine go_icmp_ge_t (pt := 47) d28_35 q62 ?_
        refine go_iloadN d28_47 rfl rfl ?_
        refine go_bipush 62 d28_48 rfl ?_
        by_cases q63 : ((Int32.ofNat m) = 62 : Prop)
        · refine go_icmp_ne_f d28_50 rfl q63 ?_
          refine go_bipush 43 d28_53 rfl ?_
          refine go_retN (t := .char) d28_55 [] rfl (by simp) (by decide) (by decide) (fun _ q => nomatch q) ?_
          exact ⟨by rw [sym_d hm q63, (T_isC hm).nar], rfl, rfl⟩
        · refine go_icmp_ne_t (pt := 56) d28_50 q63 ?_
          refine go_bipush 47 d28_56 rfl ?_
          refine go_retN (t := .char) d28_58 [] rfl (by simp) (by decide) (by decide) (fun _ q => nomatch q) ?_
          exact ⟨by rw [sym_e hm q62 q63, (T_isC hm).nar], rfl, rfl⟩
set_option maxRecDepth 65536 in
set_option maxHeartbeats 4000000 in
theorem c_quad_0_1_4 (hB : Base Z a0) (b0 b1 b2 b3 b4 b5 : Nat) (hb0 : b0 < 256) (hb1 : b1 < 256) (hb2 : b2 < 256) (hb3 : b3 < 256) (hb4 : b4 < 256) (hb5 : b5 < 256) {u t : Addr} {ku kt : ClassId} (hut : u ≠ t) {h : Heap} (A : Arv Z h u ku .int 6 [(.int (Int32.ofNat b0)), (.int (Int32.ofNat b1)), (.int (Int32.ofNat b2)), (.int (Int32.ofNat b3)), (.int (Int32.ofNat b4)), (.int (Int32.ofNat b5))] (.int 0)) (B : Arv Z h t kt .char 4 [(.int 0), (.int 0), (.int 0), (.int 0)] (.int 0)) :
    Con l Z ELc n0 (⟨"com/example/cardea/cardea/Base64TextDecodePinLaw", "quad", "([III[CI)V"⟩ : MethodName) kb27 9 (Option.none : Option FieldType) [] (⟨1, 0, 0, 15⟩ : Room) #[.ref u, .int 0, .int 1, .ref t, .int 0] h [t] (fun v h' sf' => v = none ∧ sf' = [] ∧ Keep h h' [t] ∧ Arv Z h' t kt .char 4 [(.int (T (X0 b0))), (.int (T (X1 b0 0))), (.int 61), (.int 61)] (.int 0)) := by
  refine con_ofA hB (ls := #[.val (.ref u), .val (.int 0), .val (.int 1), .val (.ref t), .val (.int 0), .unset, .unset, .unset, .unset]) (fun m => by simp [entryFrame, mkF, argsToLocals, Value.category]) ?_
  show Go _ _ _ _ _ _ "com/example/cardea/cardea/Base64TextDecodePinLaw" kb27 9 _ "quad" _ h [t] 0 0 0 #[vr u, vi 0, vi 1, vr t, vi 0, .unset, .unset, .unset, .unset] []
  have lt101 : X0 b0 < 64 := (x0_lt hb0)
  have lt102 : X1 b0 0 < 64 := (x1_lt hb0 (by decide : 0 < 256))
  refine go_aloadN d27_0 rfl rfl rfl ?_
  refine go_iloadN d27_1 rfl rfl ?_
  refine go_iaload (v := (.int (Int32.ofNat b0))) 0 d27_2 rfl A ⟨by decide, by decide⟩ (by decide) rfl ?_
  refine go_istore d27_3 rfl #[vr u, vi 0, vi 1, vr t, vi 0, vi (Int32.ofNat b0), .unset, .unset, .unset] rfl ?_
  refine go_iloadN d27_5 rfl rfl ?_
  refine go_iconst 1 d27_6 rfl ?_
  refine go_icmp_le_t (pt := 18) d27_7 (by decide) ?_
  refine go_iconst 0 d27_18 rfl ?_
  refine go_istore d27_19 rfl #[vr u, vi 0, vi 1, vr t, vi 0, vi (Int32.ofNat b0), vi 0, .unset, .unset] rfl ?_
  refine go_iloadN d27_21 rfl rfl ?_
  refine go_iconst 2 d27_22 rfl ?_
  refine go_icmp_le_t (pt := 34) d27_23 (by decide) ?_
  refine go_iconst 0 d27_34 rfl ?_
  refine go_istore d27_35 rfl #[vr u, vi 0, vi 1, vr t, vi 0, vi (Int32.ofNat b0), vi 0, vi 0, .unset] rfl ?_
  refine go_iload d27_37 rfl rfl ?_
  refine go_bipush 16 d27_39 rfl ?_
  refine go_ishl d27_41 rfl (go_eq (y := Int32.ofNat (b0 * 65536)) (shlE (k := 16) (by decide) (by decide) (by omega) rfl (by omega)) ?_)
  refine go_iload d27_42 rfl rfl ?_
  refine go_bipush 8 d27_44 rfl ?_
  refine go_ishl d27_46 rfl (go_eq (y := 0) (by decide) ?_)
  refine go_ior d27_47 rfl (go_eq (y := Int32.ofNat (b0 * 65536)) Int32.or_zero ?_)
  refine go_iload d27_48 rfl rfl ?_
  refine go_ior d27_50 rfl (go_eq (y := Int32.ofNat (b0 * 65536)) Int32.or_zero ?_)
  refine go_istore d27_51 rfl #[vr u, vi 0, vi 1, vr t, vi 0, vi (Int32.ofNat b0), vi 0, vi 0, vi (Int32.ofNat (b0 * 65536))] rfl ?_
  refine go_aloadN d27_53 rfl rfl rfl ?_
  refine go_iload d27_54 rfl rfl ?_
  refine go_iload d27_56 rfl rfl ?_
  refine go_bipush 18 d27_58 rfl ?_
  refine go_iushr d27_60 rfl (go_eq (y := Int32.ofNat ((b0 * 65536) / 262144)) (ushrE (k := 18) (by decide) (by decide) (by omega) rfl) ?_)
  refine go_static [(.int (Int32.ofNat ((b0 * 65536) / 262144)))] [(.int 0), (.ref t)] 2 d27_61 rfl (wd hB 163 rfl) (wd hB 164 rfl) (wd hB 158 rfl) (wd hB 165 rfl) (c_sym hB (Int32.ofNat ((b0 * 65536) / 262144)) (X0 b0) lt101 (and63 (by omega) (by simp only [X0, X1, X2, X3] <;> omega))) (fun _ q => nomatch q) (lenOf pd_4 rfl) rfl rfl rfl (fun v103 h104 s105 q106 => ?_)
  obtain ⟨rfl, rfl, rfl⟩ := q106
  show Go _ _ _ _ _ _ _ _ _ _ _ _ h [t] 0 0 64 _ [(.int (T (X0 b0))), (.int 0), (.ref t)]
  refine go_castore 0 (T (X0 b0)) d27_64 rfl (T_isC lt101).nar B ⟨by decide, by decide⟩ (by decide) (by show 0 < 4; decide) (List.Mem.head _) ?_
  intro h107 W108 B109
  have B110 : Arv Z h107 t kt .char 4 [(.int (T (X0 b0))), (.int 0), (.int 0), (.int 0)] (.int 0) := B109
  refine go_aloadN d27_65 rfl rfl rfl ?_
  refine go_iload d27_66 rfl rfl ?_
  refine go_iconst 1 d27_68 rfl ?_
  refine go_iadd d27_69 rfl (go_eq (y := 1) (by decide) ?_)
  refine go_iload d27_70 rfl rfl ?_
  refine go_bipush 12 d27_72 rfl ?_
  refine go_iushr d27_74 rfl (go_eq (y := Int32.ofNat ((b0 * 65536) / 4096)) (ushrE (k := 12) (by decide) (by decide) (by omega) rfl) ?_)
  refine go_static [(.int (Int32.ofNat ((b0 * 65536) / 4096)))] [(.int 1), (.ref t)] 2 d27_75 rfl (wd hB 163 rfl) (wd hB 164 rfl) (wd hB 158 rfl) (wd hB 165 rfl) (c_sym hB (Int32.ofNat ((b0 * 65536) / 4096)) (X1 b0 0) lt102 (and63 (by omega) (by simp only [X0, X1, X2, X3] <;> omega))) (fun _ q => nomatch q) (lenOf pd_4 rfl) rfl rfl rfl (fun v111 h112 s113 q114 => ?_)
  obtain ⟨rfl, rfl, rfl⟩ := q114
  show Go _ _ _ _ _ _ _ _ _ _ _ _ h107 [t] 0 0 78 _ [(.int (T (X1 b0 0))), (.int 1), (.ref t)]
  refine go_castore 1 (T (X1 b0 0)) d27_78 rfl (T_isC lt102).nar B110 ⟨by decide, by decide⟩ (by decide) (by show 1 < 4; decide) (List.Mem.head _) ?_
  intro h115 W116 B117
  have B118 : Arv Z h115 t kt .char 4 [(.int (T (X0 b0))), (.int (T (X1 b0 0))), (.int 0), (.int 0)] (.int 0) := B117
  refine go_aloadN d27_79 rfl rfl rfl ?_
  refine go_iload d27_80 rfl rfl ?_
  refine go_iconst 2 d27_82 rfl ?_
  refine go_iadd d27_83 rfl (go_eq (y := 2) (by decide) ?_)
  refine go_iloadN d27_84 rfl rfl ?_
  refine go_iconst 1 d27_85 rfl ?_
  refine go_icmp_le_t (pt := 100) d27_86 (by decide) ?_
  refine go_bipush 61 d27_100 rfl ?_
  refine go_castore 2 61 d27_102 rfl (by decide) B118 ⟨by decide, by decide⟩ (by decide) (by show 2 < 4; decide) (List.Mem.head _) ?_
  intro h119 W120 B121
  have B122 : Arv Z h119 t kt .char 4 [(.int (T (X0 b0))), (.int (T (X1 b0 0))), (.int 61), (.int 0)] (.int 0) := B121
  refine go_aloadN d27_103 rfl rfl rfl ?_
  refine go_iload d27_104 rfl rfl ?_
  refine go_iconst 3 d27_106 rfl ?_
  refine go_iadd d27_107 rfl (go_eq (y := 3) (by decide) ?_)
  refine go_iloadN d27_108 rfl rfl ?_
  refine go_iconst 2 d27_109 rfl ?_
  refine go_icmp_le_t (pt := 121) d27_110 (by decide) ?_
  refine go_bipush 61 d27_121 rfl ?_
  refine go_castore 3 61 d27_123 rfl (by decide) B122 ⟨by decide, by decide⟩ (by decide) (by show 3 < 4; decide) (List.Mem.head _) ?_
  intro h123 W124 B125
  have B126 : Arv Z h123 t kt .char 4 [(.int (T (X0 b0))), (.int (T (X1 b0 0))), (.int 61), (.int 61)] (.int 0) := B125
  refine go_ret d27_124 [] rfl (by decide) (by decide) (fun _ q => nomatch q) ?_
  exact ⟨rfl, rfl, (((((Keep.refl h [t]).wr W108 (Or.inl (List.Mem.head _))).wr W116 (Or.inl (List.Mem.head _))).wr W120 (Or.inl (List.Mem.head _))).wr W124 (Or.inl (List.Mem.head _))), B126⟩
set_option maxRecDepth 65536 in
set_option maxHeartbeats 4000000 in
theorem c_quad_0_2_4 (hB : Base Z a0) (b0 b1 b2 b3 b4 b5 : Nat) (hb0 : b0 < 256) (hb1 : b1 < 256) (hb2 : b2 < 256) (hb3 : b3 < 256) (hb4 : b4 < 256) (hb5 : b5 < 256) {u t : Addr} {ku kt : ClassId} (hut : u ≠ t) {h : Heap} (A : Arv Z h u ku .int 6 [(.int (Int32.ofNat b0)), (.int (Int32.ofNat b1)), (.int (Int32.ofNat b2)), (.int (Int32.ofNat b3)), (.int (Int32.ofNat b4)), (.int (Int32.ofNat b5))] (.int 0)) (B : Arv Z h t kt .char 4 [(.int 0), (.int 0), (.int 0), (.int 0)] (.int 0)) :
    Con l Z ELc n0 (⟨"com/example/cardea/cardea/Base64TextDecodePinLaw", "quad", "([III[CI)V"⟩ : MethodName) kb27 9 (Option.none : Option FieldType) [] (⟨1, 0, 0, 15⟩ : Room) #[.ref u, .int 0, .int 2, .ref t, .int 0] h [t] (fun v h' sf' => v = none ∧ sf' = [] ∧ Keep h h' [t] ∧ Arv Z h' t kt .char 4 [(.int (T (X0 b0))), (.int (T (X1 b0 b1))), (.int (T (X2 b1 0))), (.int 61)] (.int 0)) := by
  refine con_ofA hB (ls := #[.val (.ref u), .val (.int 0), .val (.int 2), .val (.ref t), .val (.int 0), .unset, .unset, .unset, .unset]) (fun m => by simp [entryFrame, mkF, argsToLocals, Value.category]) ?_
  show Go _ _ _ _ _ _ "com/example/cardea/cardea/Base64TextDecodePinLaw" kb27 9 _ "quad" _ h [t] 0 0 0 #[vr u, vi 0, vi 2, vr t, vi 0, .unset, .unset, .unset, .unset] []
  have lt101 : X0 b0 < 64 := (x0_lt hb0)
  have lt102 : X1 b0 b1 < 64 := (x1_lt hb0 hb1)
  have lt103 : X2 b1 0 < 64 := (x2_lt hb1 (by decide : 0 < 256))
  refine go_aloadN d27_0 rfl rfl rfl ?_
  refine go_iloadN d27_1 rfl rfl ?_
  refine go_iaload (v := (.int (Int32.ofNat b0))) 0 d27_2 rfl A ⟨by decide, by decide⟩ (by decide) rfl ?_
  refine go_istore d27_3 rfl #[vr u, vi 0, vi 2, vr t, vi 0, vi (Int32.ofNat b0), .unset, .unset, .unset] rfl ?_
  refine go_iloadN d27_5 rfl rfl ?_
  refine go_iconst 1 d27_6 rfl ?_
  refine go_icmp_le_f d27_7 rfl (by decide) ?_
  refine go_aloadN d27_10 rfl rfl rfl ?_
  refine go_iloadN d27_11 rfl rfl ?_
  refine go_iconst 1 d27_12 rfl ?_
  refine go_iadd d27_13 rfl (go_eq (y := 1) (by decide) ?_)
  refine go_iaload (v := (.int (Int32.ofNat b1))) 1 d27_14 rfl A ⟨by decide, by decide⟩ (by decide) rfl ?_
  refine go_goto (pt := 19) d27_15 ?_
  refine go_istore d27_19 rfl #[vr u, vi 0, vi 2, vr t, vi 0, vi (Int32.ofNat b0), vi (Int32.ofNat b1), .unset, .unset] rfl ?_
  refine go_iloadN d27_21 rfl rfl ?_
  refine go_iconst 2 d27_22 rfl ?_
  refine go_icmp_le_t (pt := 34) d27_23 (by decide) ?_
  refine go_iconst 0 d27_34 rfl ?_
  refine go_istore d27_35 rfl #[vr u, vi 0, vi 2, vr t, vi 0, vi (Int32.ofNat b0), vi (Int32.ofNat b1), vi 0, .unset] rfl ?_
  refine go_iload d27_37 rfl rfl ?_
  refine go_bipush 16 d27_39 rfl ?_
  refine go_ishl d27_41 rfl (go_eq (y := Int32.ofNat (b0 * 65536)) (shlE (k := 16) (by decide) (by decide) (by omega) rfl (by omega)) ?_)
  refine go_iload d27_42 rfl rfl ?_
  refine go_bipush 8 d27_44 rfl ?_
  refine go_ishl d27_46 rfl (go_eq (y := Int32.ofNat (b1 * 256)) (shlE (k := 8) (by decide) (by decide) (by omega) rfl (by omega)) ?_)
  refine go_ior d27_47 rfl (go_eq (y := Int32.ofNat (b0 * 65536 + b1 * 256)) (orE (k := 16) (by omega) (by omega) rfl (by omega)) ?_)
  refine go_iload d27_48 rfl rfl ?_
  refine go_ior d27_50 rfl (go_eq (y := Int32.ofNat (b0 * 65536 + b1 * 256)) Int32.or_zero ?_)
  refine go_istore d27_51 rfl #[vr u, vi 0, vi 2, vr t, vi 0, vi (Int32.ofNat b0), vi (Int32.ofNat b1), vi 0, vi (Int32.ofNat (b0 * 65536 + b1 * 256))] rfl ?_
  refine go_aloadN d27_53 rfl rfl rfl ?_
  refine go_iload d27_54 rfl rfl ?_
  refine go_iload d27_56 rfl rfl ?_
  refine go_bipush 18 d27_58 rfl ?_
  refine go_iushr d27_60 rfl (go_eq (y := Int32.ofNat ((b0 * 65536 + b1 * 256) / 262144)) (ushrE (k := 18) (by decide) (by decide) (by omega) rfl) ?_)
  refine go_static [(.int (Int32.ofNat ((b0 * 65536 + b1 * 256) / 262144)))] [(.int 0), (.ref t)] 2 d27_61 rfl (wd hB 163 rfl) (wd hB 164 rfl) (wd hB 158 rfl) (wd hB 165 rfl) (c_sym hB (Int32.ofNat ((b0 * 65536 + b1 * 256) / 262144)) (X0 b0) lt101 (and63 (by omega) (by simp only [X0, X1, X2, X3] <;> omega))) (fun _ q => nomatch q) (lenOf pd_4 rfl) rfl rfl rfl (fun v104 h105 s106 q107 => ?_)
  obtain ⟨rfl, rfl, rfl⟩ := q107
  show Go _ _ _ _ _ _ _ _ _ _ _ _ h [t] 0 0 64 _ [(.int (T (X0 b0))), (.int 0), (.ref t)]
  refine go_castore 0 (T (X0 b0)) d27_64 rfl (T_isC lt101).nar B ⟨by decide, by decide⟩ (by decide) (by show 0 < 4; decide) (List.Mem.head _) ?_
  intro h108 W109 B110
  have B111 : Arv Z h108 t kt .char 4 [(.int (T (X0 b0))), (.int 0), (.int 0), (.int 0)] (.int 0) := B110
  refine go_aloadN d27_65 rfl rfl rfl ?_
  refine go_iload d27_66 rfl rfl ?_
  refine go_iconst 1 d27_68 rfl ?_
  refine go_iadd d27_69 rfl (go_eq (y := 1) (by decide) ?_)
  refine go_iload d27_70 rfl rfl ?_
  refine go_bipush 12 d27_72 rfl ?_
  refine go_iushr d27_74 rfl (go_eq (y := Int32.ofNat ((b0 * 65536 + b1 * 256) / 4096)) (ushrE (k := 12) (by decide) (by decide) (by omega) rfl) ?_)
  refine go_static [(.int (Int32.ofNat ((b0 * 65536 + b1 * 256) / 4096)))] [(.int 1), (.ref t)] 2 d27_75 rfl (wd hB 163 rfl) (wd hB 164 rfl) (wd hB 158 rfl) (wd hB 165 rfl) (c_sym hB (Int32.ofNat ((b0 * 65536 + b1 * 256) / 4096)) (X1 b0 b1) lt102 (and63 (by omega) (by simp only [X0, X1, X2, X3] <;> omega))) (fun _ q => nomatch q) (lenOf pd_4 rfl) rfl rfl rfl (fun v112 h113 s114 q115 => ?_)
  obtain ⟨rfl, rfl, rfl⟩ := q115
  show Go _ _ _ _ _ _ _ _ _ _ _ _ h108 [t] 0 0 78 _ [(.int (T (X1 b0 b1))), (.int 1), (.ref t)]
  refine go_castore 1 (T (X1 b0 b1)) d27_78 rfl (T_isC lt102).nar B111 ⟨by decide, by decide⟩ (by decide) (by show 1 < 4; decide) (List.Mem.head _) ?_
  intro h116 W117 B118
  have B119 : Arv Z h116 t kt .char 4 [(.int (T (X0 b0))), (.int (T (X1 b0 b1))), (.int 0), (.int 0)] (.int 0) := B118
  refine go_aloadN d27_79 rfl rfl rfl ?_
  refine go_iload d27_80 rfl rfl ?_
  refine go_iconst 2 d27_82 rfl ?_
  refine go_iadd d27_83 rfl (go_eq (y := 2) (by decide) ?_)
  refine go_iloadN d27_84 rfl rfl ?_
  refine go_iconst 1 d27_85 rfl ?_
  refine go_icmp_le_f d27_86 rfl (by decide) ?_
  refine go_iload d27_89 rfl rfl ?_
  refine go_bipush 6 d27_91 rfl ?_
  refine go_iushr d27_93 rfl (go_eq (y := Int32.ofNat ((b0 * 65536 + b1 * 256) / 64)) (ushrE (k := 6) (by decide) (by decide) (by omega) rfl) ?_)
  refine go_static [(.int (Int32.ofNat ((b0 * 65536 + b1 * 256) / 64)))] [(.int 2), (.ref t)] 2 d27_94 rfl (wd hB 163 rfl) (wd hB 164 rfl) (wd hB 158 rfl) (wd hB 165 rfl) (c_sym hB (Int32.ofNat ((b0 * 65536 + b1 * 256) / 64)) (X2 b1 0) lt103 (and63 (by omega) (by simp only [X0, X1, X2, X3] <;> omega))) (fun _ q => nomatch q) (lenOf pd_4 rfl) rfl rfl rfl (fun v120 h121 s122 q123 => ?_)
  obtain ⟨rfl, rfl, rfl⟩ := q123
  show Go _ _ _ _ _ _ _ _ _ _ _ _ h116 [t] 0 0 97 _ [(.int (T (X2 b1 0))), (.int 2), (.ref t)]
  refine go_goto (pt := 102) d27_97 ?_
  refine go_castore 2 (T (X2 b1 0)) d27_102 rfl (T_isC lt103).nar B119 ⟨by decide, by decide⟩ (by decide) (by show 2 < 4; decide) (List.Mem.head _) ?_
  intro h124 W125 B126
  have B127 : Arv Z h124 t kt .char 4 [(.int (T (X0 b0))), (.int (T (X1 b0 b1))), (.int (T (X2 b1 0))), (.int 0)] (.int 0) := B126
  refine go_aloadN d27_103 rfl rfl rfl ?_
  refine go_iload d27_104 rfl rfl ?_
  refine go_iconst 3 d27_106 rfl ?_
  refine go_iadd d27_107 rfl (go_eq (y := 3) (by decide) ?_)
  refine go_iloadN d27_108 rfl rfl ?_
  refine go_iconst 2 d27_109 rfl ?_
  refine go_icmp_le_t (pt := 121) d27_110 (by decide) ?_
  refine go_bipush 61 d27_121 rfl ?_
  refine go_castore 3 61 d27_123 rfl (by decide) B127 ⟨by decide, by decide⟩ (by decide) (by show 3 < 4; decide) (List.Mem.head _) ?_
  intro h128 W129 B130
  have B131 : Arv Z h128 t kt .char 4 [(.int (T (X0 b0))), (.int (T (X1 b0 b1))), (.int (T (X2 b1 0))), (.int 61)] (.int 0) := B130
  refine go_ret d27_124 [] rfl (by decide) (by decide) (fun _ q => nomatch q) ?_
  exact ⟨rfl, rfl, (((((Keep.refl h [t]).wr W109 (Or.inl (List.Mem.head _))).wr W117 (Or.inl (List.Mem.head _))).wr W125 (Or.inl (List.Mem.head _))).wr W129 (Or.inl (List.Mem.head _))), B131⟩
set_option maxRecDepth 65536 in
set_option maxHeartbeats 4000000 in
theorem c_quad_0_3_4 (hB : Base Z a0) (b0 b1 b2 b3 b4 b5 : Nat) (hb0 : b0 < 256) (hb1 : b1 < 256) (hb2 : b2 < 256) (hb3 : b3 < 256) (hb4 : b4 < 256) (hb5 : b5 < 256) {u t : Addr} {ku kt : ClassId} (hut : u ≠ t) {h : Heap} (A : Arv Z h u ku .int 6 [(.int (Int32.ofNat b0)), (.int (Int32.ofNat b1)), (.int (Int32.ofNat b2)), (.int (Int32.ofNat b3)), (.int (Int32.ofNat b4)), (.int (Int32.ofNat b5))] (.int 0)) (B : Arv Z h t kt .char 4 [(.int 0), (.int 0), (.int 0), (.int 0)] (.int 0)) :
    Con l Z ELc n0 (⟨"com/example/cardea/cardea/Base64TextDecodePinLaw", "quad", "([III[CI)V"⟩ : MethodName) kb27 9 (Option.none : Option FieldType) [] (⟨1, 0, 0, 15⟩ : Room) #[.ref u, .int 0, .int 3, .ref t, .int 0] h [t] (fun v h' sf' => v = none ∧ sf' = [] ∧ Keep h h' [t] ∧ Arv Z h' t kt .char 4 [(.int (T (X0 b0))), (.int (T (X1 b0 b1))), (.int (T (X2 b1 b2))), (.int (T (X3 b2)))] (.int 0)) := by
  refine con_ofA hB (ls := #[.val (.ref u), .val (.int 0), .val (.int 3), .val (.ref t), .val (.int 0), .unset, .unset, .unset, .unset]) (fun m => by simp [entryFrame, mkF, argsToLocals, Value.category]) ?_
  show Go _ _ _ _ _ _ "com/example/cardea/cardea/Base64TextDecodePinLaw" kb27 9 _ "quad" _ h [t] 0 0 0 #[vr u, vi 0, vi 3, vr t, vi 0, .unset, .unset, .unset, .unset] []
  have lt101 : X0 b0 < 64 := (x0_lt hb0)
  have lt102 : X1 b0 b1 < 64 := (x1_lt hb0 hb1)
  have lt103 : X2 b1 b2 < 64 := (x2_lt hb1 hb2)
  have lt104 : X3 b2 < 64 := (x3_lt hb2)
  refine go_aloadN d27_0 rfl rfl rfl ?_
  refine go_iloadN d27_1 rfl rfl ?_
  refine go_iaload (v := (.int (Int32.ofNat b0))) 0 d27_2 rfl A ⟨by decide, by decide⟩ (by decide) rfl ?_
  refine go_istore d27_3 rfl #[vr u, vi 0, vi 3, vr t, vi 0, vi (Int32.ofNat b0), .unset, .unset, .unset] rfl ?_
  refine go_iloadN d27_5 rfl rfl ?_
  refine go_iconst 1 d27_6 rfl ?_
  refine go_icmp_le_f d27_7 rfl (by decide) ?_
  refine go_aloadN d27_10 rfl rfl rfl ?_
  refine go_iloadN d27_11 rfl rfl ?_
  refine go_iconst 1 d27_12 rfl ?_
  refine go_iadd d27_13 rfl (go_eq (y := 1) (by decide) ?_)
  refine go_iaload (v := (.int (Int32.ofNat b1))) 1 d27_14 rfl A ⟨by decide, by decide⟩ (by decide) rfl ?_
  refine go_goto (pt := 19) d27_15 ?_
  refine go_istore d27_19 rfl #[vr u, vi 0, vi 3, vr t, vi 0, vi (Int32.ofNat b0), vi (Int32.ofNat b1), .unset, .unset] rfl ?_
  refine go_iloadN d27_21 rfl rfl ?_
  refine go_iconst 2 d27_22 rfl ?_
  refine go_icmp_le_f d27_23 rfl (by decide) ?_
  refine go_aloadN d27_26 rfl rfl rfl ?_
  refine go_iloadN d27_27 rfl rfl ?_
  refine go_iconst 2 d27_28 rfl ?_
  refine go_iadd d27_29 rfl (go_eq (y := 2) (by decide) ?_)
  refine go_iaload (v := (.int (Int32.ofNat b2))) 2 d27_30 rfl A ⟨by decide, by decide⟩ (by decide) rfl ?_
  refine go_goto (pt := 35) d27_31 ?_
  refine go_istore d27_35 rfl #[vr u, vi 0, vi 3, vr t, vi 0, vi (Int32.ofNat b0), vi (Int32.ofNat b1), vi (Int32.ofNat b2), .unset] rfl ?_
  refine go_iload d27_37 rfl rfl ?_
  refine go_bipush 16 d27_39 rfl ?_
  refine go_ishl d27_41 rfl (go_eq (y := Int32.ofNat (b0 * 65536)) (shlE (k := 16) (by decide) (by decide) (by omega) rfl (by omega)) ?_)
  refine go_iload d27_42 rfl rfl ?_
  refine go_bipush 8 d27_44 rfl ?_
  refine go_ishl d27_46 rfl (go_eq (y := Int32.ofNat (b1 * 256)) (shlE (k := 8) (by decide) (by decide) (by omega) rfl (by omega)) ?_)
  refine go_ior d27_47 rfl (go_eq (y := Int32.ofNat (b0 * 65536 + b1 * 256)) (orE (k := 16) (by omega) (by omega) rfl (by omega)) ?_)
  refine go_iload d27_48 rfl rfl ?_
  refine go_ior d27_50 rfl (go_eq (y := Int32.ofNat (b0 * 65536 + b1 * 256 + b2)) (orE (k := 8) (by omega) (by omega) rfl (by omega)) ?_)
  refine go_istore d27_51 rfl #[vr u, vi 0, vi 3, vr t, vi 0, vi (Int32.ofNat b0), vi (Int32.ofNat b1), vi (Int32.ofNat b2), vi (Int32.ofNat (b0 * 65536 + b1 * 256 + b2))] rfl ?_
  refine go_aloadN d27_53 rfl rfl rfl ?_
  refine go_iload d27_54 rfl rfl ?_
  refine go_iload d27_56 rfl rfl ?_
  refine go_bipush 18 d27_58 rfl ?_
  refine go_iushr d27_60 rfl (go_eq (y := Int32.ofNat ((b0 * 65536 + b1 * 256 + b2) / 262144)) (ushrE (k := 18) (by decide) (by decide) (by omega) rfl) ?_)
  refine go_static [(.int (Int32.ofNat ((b0 * 65536 + b1 * 256 + b2) / 262144)))] [(.int 0), (.ref t)] 2 d27_61 rfl (wd hB 163 rfl) (wd hB 164 rfl) (wd hB 158 rfl) (wd hB 165 rfl) (c_sym hB (Int32.ofNat ((b0 * 65536 + b1 * 256 + b2) / 262144)) (X0 b0) lt101 (and63 (by omega) (by simp only [X0, X1, X2, X3] <;> omega))) (fun _ q => nomatch q) (lenOf pd_4 rfl) rfl rfl rfl (fun v105 h106 s107 q108 => ?_)
  obtain ⟨rfl, rfl, rfl⟩ := q108
  show Go _ _ _ _ _ _ _ _ _ _ _ _ h [t] 0 0 64 _ [(.int (T (X0 b0))), (.int 0), (.ref t)]
  refine go_castore 0 (T (X0 b0)) d27_64 rfl (T_isC lt101).nar B ⟨by decide, by decide⟩ (by decide) (by show 0 < 4; decide) (List.Mem.head _) ?_
  intro h109 W110 B111
  have B112 : Arv Z h109 t kt .char 4 [(.int (T (X0 b0))), (.int 0), (.int 0), (.int 0)] (.int 0) := B111
  refine go_aloadN d27_65 rfl rfl rfl ?_
  refine go_iload d27_66 rfl rfl ?_
  refine go_iconst 1 d27_68 rfl ?_
  refine go_iadd d27_69 rfl (go_eq (y := 1) (by decide) ?_)
  refine go_iload d27_70 rfl rfl ?_
  refine go_bipush 12 d27_72 rfl ?_
  refine go_iushr d27_74 rfl (go_eq (y := Int32.ofNat ((b0 * 65536 + b1 * 256 + b2) / 4096)) (ushrE (k := 12) (by decide) (by decide) (by omega) rfl) ?_)
  refine go_static [(.int (Int32.ofNat ((b0 * 65536 + b1 * 256 + b2) / 4096)))] [(.int 1), (.ref t)] 2 d27_75 rfl (wd hB 163 rfl) (wd hB 164 rfl) (wd hB 158 rfl) (wd hB 165 rfl) (c_sym hB (Int32.ofNat ((b0 * 65536 + b1 * 256 + b2) / 4096)) (X1 b0 b1) lt102 (and63 (by omega) (by simp only [X0, X1, X2, X3] <;> omega))) (fun _ q => nomatch q) (lenOf pd_4 rfl) rfl rfl rfl (fun v113 h114 s115 q116 => ?_)
  obtain ⟨rfl, rfl, rfl⟩ := q116
  show Go _ _ _ _ _ _ _ _ _ _ _ _ h109 [t] 0 0 78 _ [(.int (T (X1 b0 b1))), (.int 1), (.ref t)]
  refine go_castore 1 (T (X1 b0 b1)) d27_78 rfl (T_isC lt102).nar B112 ⟨by decide, by decide⟩ (by decide) (by show 1 < 4; decide) (List.Mem.head _) ?_
  intro h117 W118 B119
  have B120 : Arv Z h117 t kt .char 4 [(.int (T (X0 b0))), (.int (T (X1 b0 b1))), (.int 0), (.int 0)] (.int 0) := B119
  refine go_aloadN d27_79 rfl rfl rfl ?_
  refine go_iload d27_80 rfl rfl ?_
  refine go_iconst 2 d27_82 rfl ?_
  refine go_iadd d27_83 rfl (go_eq (y := 2) (by decide) ?_)
  refine go_iloadN d27_84 rfl rfl ?_
  refine go_iconst 1 d27_85 rfl ?_
  refine go_icmp_le_f d27_86 rfl (by decide) ?_
  refine go_iload d27_89 rfl rfl ?_
  refine go_bipush 6 d27_91 rfl ?_
  refine go_iushr d27_93 rfl (go_eq (y := Int32.ofNat ((b0 * 65536 + b1 * 256 + b2) / 64)) (ushrE (k := 6) (by decide) (by decide) (by omega) rfl) ?_)
  refine go_static [(.int (Int32.ofNat ((b0 * 65536 + b1 * 256 + b2) / 64)))] [(.int 2), (.ref t)] 2 d27_94 rfl (wd hB 163 rfl) (wd hB 164 rfl) (wd hB 158 rfl) (wd hB 165 rfl) (c_sym hB (Int32.ofNat ((b0 * 65536 + b1 * 256 + b2) / 64)) (X2 b1 b2) lt103 (and63 (by omega) (by simp only [X0, X1, X2, X3] <;> omega))) (fun _ q => nomatch q) (lenOf pd_4 rfl) rfl rfl rfl (fun v121 h122 s123 q124 => ?_)
  obtain ⟨rfl, rfl, rfl⟩ := q124
  show Go _ _ _ _ _ _ _ _ _ _ _ _ h117 [t] 0 0 97 _ [(.int (T (X2 b1 b2))), (.int 2), (.ref t)]
  refine go_goto (pt := 102) d27_97 ?_
  refine go_castore 2 (T (X2 b1 b2)) d27_102 rfl (T_isC lt103).nar B120 ⟨by decide, by decide⟩ (by decide) (by show 2 < 4; decide) (List.Mem.head _) ?_
  intro h125 W126 B127
  have B128 : Arv Z h125 t kt .char 4 [(.int (T (X0 b0))), (.int (T (X1 b0 b1))), (.int (T (X2 b1 b2))), (.int 0)] (.int 0) := B127
  refine go_aloadN d27_103 rfl rfl rfl ?_
  refine go_iload d27_104 rfl rfl ?_
  refine go_iconst 3 d27_106 rfl ?_
  refine go_iadd d27_107 rfl (go_eq (y := 3) (by decide) ?_)
  refine go_iloadN d27_108 rfl rfl ?_
  refine go_iconst 2 d27_109 rfl ?_
  refine go_icmp_le_f d27_110 rfl (by decide) ?_
  refine go_iload d27_113 rfl rfl ?_
  refine go_static [(.int (Int32.ofNat (b0 * 65536 + b1 * 256 + b2)))] [(.int 3), (.ref t)] 2 d27_115 rfl (wd hB 163 rfl) (wd hB 164 rfl) (wd hB 158 rfl) (wd hB 165 rfl) (c_sym hB (Int32.ofNat (b0 * 65536 + b1 * 256 + b2)) (X3 b2) lt104 (and63 (by omega) (by simp only [X0, X1, X2, X3] <;> omega))) (fun _ q => nomatch q) (lenOf pd_4 rfl) rfl rfl rfl (fun v129 h130 s131 q132 => ?_)
  obtain ⟨rfl, rfl, rfl⟩ := q132
  show Go _ _ _ _ _ _ _ _ _ _ _ _ h125 [t] 0 0 118 _ [(.int (T (X3 b2))), (.int 3), (.ref t)]
  refine go_goto (pt := 123) d27_118 ?_
  refine go_castore 3 (T (X3 b2)) d27_123 rfl (T_isC lt104).nar B128 ⟨by decide, by decide⟩ (by decide) (by show 3 < 4; decide) (List.Mem.head _) ?_
  intro h133 W134 B135
  have B136 : Arv Z h133 t kt .char 4 [(.int (T (X0 b0))), (.int (T (X1 b0 b1))), (.int (T (X2 b1 b2))), (.int (T (X3 b2)))] (.int 0) := B135
  refine go_ret d27_124 [] rfl (by decide) (by decide) (fun _ q => nomatch q) ?_
  exact ⟨rfl, rfl, (((((Keep.refl h [t]).wr W110 (Or.inl (List.Mem.head _))).wr W118 (Or.inl (List.Mem.head _))).wr W126 (Or.inl (List.Mem.head _))).wr W134 (Or.inl (List.Mem.head _))), B136⟩
set_option maxRecDepth 65536 in
set_option maxHeartbeats 4000000 in
theorem c_quad_0_3_8 (hB : Base Z a0) (b0 b1 b2 b3 b4 b5 : Nat) (hb0 : b0 < 256) (hb1 : b1 < 256) (hb2 : b2 < 256) (hb3 : b3 < 256) (hb4 : b4 < 256) (hb5 : b5 < 256) {u t : Addr} {ku kt : ClassId} (hut : u ≠ t) {h : Heap} (A : Arv Z h u ku .int 6 [(.int (Int32.ofNat b0)), (.int (Int32.ofNat b1)), (.int (Int32.ofNat b2)), (.int (Int32.ofNat b3)), (.int (Int32.ofNat b4)), (.int (Int32.ofNat b5))] (.int 0)) (B : Arv Z h t kt .char 8 [(.int 0), (.int 0), (.int 0), (.int 0), (.int 0), (.int 0), (.int 0), (.int 0)] (.int 0)) :
    Con l Z ELc n0 (⟨"com/example/cardea/cardea/Base64TextDecodePinLaw", "quad", "([III[CI)V"⟩ : MethodName) kb27 9 (Option.none : Option FieldType) [] (⟨1, 0, 0, 15⟩ : Room) #[.ref u, .int 0, .int 3, .ref t, .int 0] h [t] (fun v h' sf' => v = none ∧ sf' = [] ∧ Keep h h' [t] ∧ Arv Z h' t kt .char 8 [(.int (T (X0 b0))), (.int (T (X1 b0 b1))), (.int (T (X2 b1 b2))), (.int (T (X3 b2))), (.int 0), (.int 0), (.int 0), (.int 0)] (.int 0)) := by
  refine con_ofA hB (ls := #[.val (.ref u), .val (.int 0), .val (.int 3), .val (.ref t), .val (.int 0), .unset, .unset, .unset, .unset]) (fun m => by simp [entryFrame, mkF, argsToLocals, Value.category]) ?_
  show Go _ _ _ _ _ _ "com/example/cardea/cardea/Base64TextDecodePinLaw" kb27 9 _ "quad" _ h [t] 0 0 0 #[vr u, vi 0, vi 3, vr t, vi 0, .unset, .unset, .unset, .unset] []
  have lt101 : X0 b0 < 64 := (x0_lt hb0)
  have lt102 : X1 b0 b1 < 64 := (x1_lt hb0 hb1)
  have lt103 : X2 b1 b2 < 64 := (x2_lt hb1 hb2)
  have lt104 : X3 b2 < 64 := (x3_lt hb2)
  refine go_aloadN d27_0 rfl rfl rfl ?_
  refine go_iloadN d27_1 rfl rfl ?_
  refine go_iaload (v := (.int (Int32.ofNat b0))) 0 d27_2 rfl A ⟨by decide, by decide⟩ (by decide) rfl ?_
  refine go_istore d27_3 rfl #[vr u, vi 0, vi 3, vr t, vi 0, vi (Int32.ofNat b0), .unset, .unset, .unset] rfl ?_
  refine go_iloadN d27_5 rfl rfl ?_
  refine go_iconst 1 d27_6 rfl ?_
  refine go_icmp_le_f d27_7 rfl (by decide) ?_
  refine go_aloadN d27_10 rfl rfl rfl ?_
  refine go_iloadN d27_11 rfl rfl ?_
  refine go_iconst 1 d27_12 rfl ?_
  refine go_iadd d27_13 rfl (go_eq (y := 1) (by decide) ?_)
  refine go_iaload (v := (.int (Int32.ofNat b1))) 1 d27_14 rfl A ⟨by decide, by decide⟩ (by decide) rfl ?_
  refine go_goto (pt := 19) d27_15 ?_
  refine go_istore d27_19 rfl #[vr u, vi 0, vi 3, vr t, vi 0, vi (Int32.ofNat b0), vi (Int32.ofNat b1), .unset, .unset] rfl ?_
  refine go_iloadN d27_21 rfl rfl ?_
  refine go_iconst 2 d27_22 rfl ?_
  refine go_icmp_le_f d27_23 rfl (by decide) ?_
  refine go_aloadN d27_26 rfl rfl rfl ?_
  refine go_iloadN d27_27 rfl rfl ?_
  refine go_iconst 2 d27_28 rfl ?_
  refine go_iadd d27_29 rfl (go_eq (y := 2) (by decide) ?_)
  refine go_iaload (v := (.int (Int32.ofNat b2))) 2 d27_30 rfl A ⟨by decide, by decide⟩ (by decide) rfl ?_
  refine go_goto (pt := 35) d27_31 ?_
  refine go_istore d27_35 rfl #[vr u, vi 0, vi 3, vr t, vi 0, vi (Int32.ofNat b0), vi (Int32.ofNat b1), vi (Int32.ofNat b2), .unset] rfl ?_
  refine go_iload d27_37 rfl rfl ?_
  refine go_bipush 16 d27_39 rfl ?_
  refine go_ishl d27_41 rfl (go_eq (y := Int32.ofNat (b0 * 65536)) (shlE (k := 16) (by decide) (by decide) (by omega) rfl (by omega)) ?_)
  refine go_iload d27_42 rfl rfl ?_
  refine go_bipush 8 d27_44 rfl ?_
  refine go_ishl d27_46 rfl (go_eq (y := Int32.ofNat (b1 * 256)) (shlE (k := 8) (by decide) (by decide) (by omega) rfl (by omega)) ?_)
  refine go_ior d27_47 rfl (go_eq (y := Int32.ofNat (b0 * 65536 + b1 * 256)) (orE (k := 16) (by omega) (by omega) rfl (by omega)) ?_)
  refine go_iload d27_48 rfl rfl ?_
  refine go_ior d27_50 rfl (go_eq (y := Int32.ofNat (b0 * 65536 + b1 * 256 + b2)) (orE (k := 8) (by omega) (by omega) rfl (by omega)) ?_)
  refine go_istore d27_51 rfl #[vr u, vi 0, vi 3, vr t, vi 0, vi (Int32.ofNat b0), vi (Int32.ofNat b1), vi (Int32.ofNat b2), vi (Int32.ofNat (b0 * 65536 + b1 * 256 + b2))] rfl ?_
  refine go_aloadN d27_53 rfl rfl rfl ?_
  refine go_iload d27_54 rfl rfl ?_
  refine go_iload d27_56 rfl rfl ?_
  refine go_bipush 18 d27_58 rfl ?_
  refine go_iushr d27_60 rfl (go_eq (y := Int32.ofNat ((b0 * 65536 + b1 * 256 + b2) / 262144)) (ushrE (k := 18) (by decide) (by decide) (by omega) rfl) ?_)
  refine go_static [(.int (Int32.ofNat ((b0 * 65536 + b1 * 256 + b2) / 262144)))] [(.int 0), (.ref t)] 2 d27_61 rfl (wd hB 163 rfl) (wd hB 164 rfl) (wd hB 158 rfl) (wd hB 165 rfl) (c_sym hB (Int32.ofNat ((b0 * 65536 + b1 * 256 + b2) / 262144)) (X0 b0) lt101 (and63 (by omega) (by simp only [X0, X1, X2, X3] <;> omega))) (fun _ q => nomatch q) (lenOf pd_4 rfl) rfl rfl rfl (fun v105 h106 s107 q108 => ?_)
  obtain ⟨rfl, rfl, rfl⟩ := q108
  show Go _ _ _ _ _ _ _ _ _ _ _ _ h [t] 0 0 64 _ [(.int (T (X0 b0))), (.int 0), (.ref t)]
  refine go_castore 0 (T (X0 b0)) d27_64 rfl (T_isC lt101).nar B ⟨by decide, by decide⟩ (by decide) (by show 0 < 8; decide) (List.Mem.head _) ?_
  intro h109 W110 B111
  have B112 : Arv Z h109 t kt .char 8 [(.int (T (X0 b0))), (.int 0), (.int 0), (.int 0), (.int 0), (.int 0), (.int 0), (.int 0)] (.int 0) := B111
  refine go_aloadN d27_65 rfl rfl rfl ?_
  refine go_iload d27_66 rfl rfl ?_
  refine go_iconst 1 d27_68 rfl ?_
  refine go_iadd d27_69 rfl (go_eq (y := 1) (by decide) ?_)
  refine go_iload d27_70 rfl rfl ?_
  refine go_bipush 12 d27_72 rfl ?_
  refine go_iushr d27_74 rfl (go_eq (y := Int32.ofNat ((b0 * 65536 + b1 * 256 + b2) / 4096)) (ushrE (k := 12) (by decide) (by decide) (by omega) rfl) ?_)
  refine go_static [(.int (Int32.ofNat ((b0 * 65536 + b1 * 256 + b2) / 4096)))] [(.int 1), (.ref t)] 2 d27_75 rfl (wd hB 163 rfl) (wd hB 164 rfl) (wd hB 158 rfl) (wd hB 165 rfl) (c_sym hB (Int32.ofNat ((b0 * 65536 + b1 * 256 + b2) / 4096)) (X1 b0 b1) lt102 (and63 (by omega) (by simp only [X0, X1, X2, X3] <;> omega))) (fun _ q => nomatch q) (lenOf pd_4 rfl) rfl rfl rfl (fun v113 h114 s115 q116 => ?_)
  obtain ⟨rfl, rfl, rfl⟩ := q116
  show Go _ _ _ _ _ _ _ _ _ _ _ _ h109 [t] 0 0 78 _ [(.int (T (X1 b0 b1))), (.int 1), (.ref t)]
  refine go_castore 1 (T (X1 b0 b1)) d27_78 rfl (T_isC lt102).nar B112 ⟨by decide, by decide⟩ (by decide) (by show 1 < 8; decide) (List.Mem.head _) ?_
  intro h117 W118 B119
  have B120 : Arv Z h117 t kt .char 8 [(.int (T (X0 b0))), (.int (T (X1 b0 b1))), (.int 0), (.int 0), (.int 0), (.int 0), (.int 0), (.int 0)] (.int 0) := B119
  refine go_aloadN d27_79 rfl rfl rfl ?_
  refine go_iload d27_80 rfl rfl ?_
  refine go_iconst 2 d27_82 rfl ?_
  refine go_iadd d27_83 rfl (go_eq (y := 2) (by decide) ?_)
  refine go_iloadN d27_84 rfl rfl ?_
  refine go_iconst 1 d27_85 rfl ?_
  refine go_icmp_le_f d27_86 rfl (by decide) ?_
  refine go_iload d27_89 rfl rfl ?_
  refine go_bipush 6 d27_91 rfl ?_
  refine go_iushr d27_93 rfl (go_eq (y := Int32.ofNat ((b0 * 65536 + b1 * 256 + b2) / 64)) (ushrE (k := 6) (by decide) (by decide) (by omega) rfl) ?_)
  refine go_static [(.int (Int32.ofNat ((b0 * 65536 + b1 * 256 + b2) / 64)))] [(.int 2), (.ref t)] 2 d27_94 rfl (wd hB 163 rfl) (wd hB 164 rfl) (wd hB 158 rfl) (wd hB 165 rfl) (c_sym hB (Int32.ofNat ((b0 * 65536 + b1 * 256 + b2) / 64)) (X2 b1 b2) lt103 (and63 (by omega) (by simp only [X0, X1, X2, X3] <;> omega))) (fun _ q => nomatch q) (lenOf pd_4 rfl) rfl rfl rfl (fun v121 h122 s123 q124 => ?_)
  obtain ⟨rfl, rfl, rfl⟩ := q124
  show Go _ _ _ _ _ _ _ _ _ _ _ _ h117 [t] 0 0 97 _ [(.int (T (X2 b1 b2))), (.int 2), (.ref t)]
  refine go_goto (pt := 102) d27_97 ?_
  refine go_castore 2 (T (X2 b1 b2)) d27_102 rfl (T_isC lt103).nar B120 ⟨by decide, by decide⟩ (by decide) (by show 2 < 8; decide) (List.Mem.head _) ?_
  intro h125 W126 B127
  have B128 : Arv Z h125 t kt .char 8 [(.int (T (X0 b0))), (.int (T (X1 b0 b1))), (.int (T (X2 b1 b2))), (.int 0), (.int 0), (.int 0), (.int 0), (.int 0)] (.int 0) := B127
  refine go_aloadN d27_103 rfl rfl rfl ?_
  refine go_iload d27_104 rfl rfl ?_
  refine go_iconst 3 d27_106 rfl ?_
  refine go_iadd d27_107 rfl (go_eq (y := 3) (by decide) ?_)
  refine go_iloadN d27_108 rfl rfl ?_
  refine go_iconst 2 d27_109 rfl ?_
  refine go_icmp_le_f d27_110 rfl (by decide) ?_
  refine go_iload d27_113 rfl rfl ?_
  refine go_static [(.int (Int32.ofNat (b0 * 65536 + b1 * 256 + b2)))] [(.int 3), (.ref t)] 2 d27_115 rfl (wd hB 163 rfl) (wd hB 164 rfl) (wd hB 158 rfl) (wd hB 165 rfl) (c_sym hB (Int32.ofNat (b0 * 65536 + b1 * 256 + b2)) (X3 b2) lt104 (and63 (by omega) (by simp only [X0, X1, X2, X3] <;> omega))) (fun _ q => nomatch q) (lenOf pd_4 rfl) rfl rfl rfl (fun v129 h130 s131 q132 => ?_)
  obtain ⟨rfl, rfl, rfl⟩ := q132
  show Go _ _ _ _ _ _ _ _ _ _ _ _ h125 [t] 0 0 118 _ [(.int (T (X3 b2))), (.int 3), (.ref t)]
  refine go_goto (pt := 123) d27_118 ?_
  refine go_castore 3 (T (X3 b2)) d27_123 rfl (T_isC lt104).nar B128 ⟨by decide, by decide⟩ (by decide) (by show 3 < 8; decide) (List.Mem.head _) ?_
  intro h133 W134 B135
  have B136 : Arv Z h133 t kt .char 8 [(.int (T (X0 b0))), (.int (T (X1 b0 b1))), (.int (T (X2 b1 b2))), (.int (T (X3 b2))), (.int 0), (.int 0), (.int 0), (.int 0)] (.int 0) := B135
  refine go_ret d27_124 [] rfl (by decide) (by decide) (fun _ q => nomatch q) ?_
  exact ⟨rfl, rfl, (((((Keep.refl h [t]).wr W110 (Or.inl (List.Mem.head _))).wr W118 (Or.inl (List.Mem.head _))).wr W126 (Or.inl (List.Mem.head _))).wr W134 (Or.inl (List.Mem.head _))), B136⟩
set_option maxRecDepth 65536 in
set_option maxHeartbeats 4000000 in
theorem c_quad_3_1_8 (hB : Base Z a0) (b0 b1 b2 b3 b4 b5 : Nat) (hb0 : b0 < 256) (hb1 : b1 < 256) (hb2 : b2 < 256) (hb3 : b3 < 256) (hb4 : b4 < 256) (hb5 : b5 < 256) {u t : Addr} {ku kt : ClassId} (hut : u ≠ t) {h : Heap} (A : Arv Z h u ku .int 6 [(.int (Int32.ofNat b0)), (.int (Int32.ofNat b1)), (.int (Int32.ofNat b2)), (.int (Int32.ofNat b3)), (.int (Int32.ofNat b4)), (.int (Int32.ofNat b5))] (.int 0)) (B : Arv Z h t kt .char 8 [(.int (T (X0 b0))), (.int (T (X1 b0 b1))), (.int (T (X2 b1 b2))), (.int (T (X3 b2))), (.int 0), (.int 0), (.int 0), (.int 0)] (.int 0)) :
    Con l Z ELc n0 (⟨"com/example/cardea/cardea/Base64TextDecodePinLaw", "quad", "([III[CI)V"⟩ : MethodName) kb27 9 (Option.none : Option FieldType) [] (⟨1, 0, 0, 15⟩ : Room) #[.ref u, .int 3, .int 1, .ref t, .int 4] h [t] (fun v h' sf' => v = none ∧ sf' = [] ∧ Keep h h' [t] ∧ Arv Z h' t kt .char 8 [(.int (T (X0 b0))), (.int (T (X1 b0 b1))), (.int (T (X2 b1 b2))), (.int (T (X3 b2))), (.int (T (X0 b3))), (.int (T (X1 b3 0))), (.int 61), (.int 61)] (.int 0)) := by
  refine con_ofA hB (ls := #[.val (.ref u), .val (.int 3), .val (.int 1), .val (.ref t), .val (.int 4), .unset, .unset, .unset, .unset]) (fun m => by simp [entryFrame, mkF, argsToLocals, Value.category]) ?_
  show Go _ _ _ _ _ _ "com/example/cardea/cardea/Base64TextDecodePinLaw" kb27 9 _ "quad" _ h [t] 0 0 0 #[vr u, vi 3, vi 1, vr t, vi 4, .unset, .unset, .unset, .unset] []
  have lt101 : X0 b0 < 64 := (x0_lt hb0)
  have lt102 : X1 b0 b1 < 64 := (x1_lt hb0 hb1)
  have lt103 : X2 b1 b2 < 64 := (x2_lt hb1 hb2)
  have lt104 : X3 b2 < 64 := (x3_lt hb2)
  have lt105 : X0 b3 < 64 := (x0_lt hb3)
  have lt106 : X1 b3 0 < 64 := (x1_lt hb3 (by decide : 0 < 256))
  refine go_aloadN d27_0 rfl rfl rfl ?_
  refine go_iloadN d27_1 rfl rfl ?_
  refine go_iaload (v := (.int (Int32.ofNat b3))) 3 d27_2 rfl A ⟨by decide, by decide⟩ (by decide) rfl ?_
  refine go_istore d27_3 rfl #[vr u, vi 3, vi 1, vr t, vi 4, vi (Int32.ofNat b3), .unset, .unset, .unset] rfl ?_
  refine go_iloadN d27_5 rfl rfl ?_
  refine go_iconst 1 d27_6 rfl ?_
  refine go_icmp_le_t (pt := 18) d27_7 (by decide) ?_
  refine go_iconst 0 d27_18 rfl ?_
  refine go_istore d27_19 rfl #[vr u, vi 3, vi 1, vr t, vi 4, vi (Int32.ofNat b3), vi 0, .unset, .unset] rfl ?_
  refine go_iloadN d27_21 rfl rfl ?_
  refine go_iconst 2 d27_22 rfl ?_
  refine go_icmp_le_t (pt := 34) d27_23 (by decide) ?_
  refine go_iconst 0 d27_34 rfl ?_
  refine go_istore d27_35 rfl #[vr u, vi 3, vi 1, vr t, vi 4, vi (Int32.ofNat b3), vi 0, vi 0, .unset] rfl ?_
  refine go_iload d27_37 rfl rfl ?_
  refine go_bipush 16 d27_39 rfl ?_
  refine go_ishl d27_41 rfl (go_eq (y := Int32.ofNat (b3 * 65536)) (shlE (k := 16) (by decide) (by decide) (by omega) rfl (by omega)) ?_)
  refine go_iload d27_42 rfl rfl ?_
  refine go_bipush 8 d27_44 rfl ?_
  refine go_ishl d27_46 rfl (go_eq (y := 0) (by decide) ?_)
  refine go_ior d27_47 rfl (go_eq (y := Int32.ofNat (b3 * 65536)) Int32.or_zero ?_)
  refine go_iload d27_48 rfl rfl ?_
  refine go_ior d27_50 rfl (go_eq (y := Int32.ofNat (b3 * 65536)) Int32.or_zero ?_)
  refine go_istore d27_51 rfl #[vr u, vi 3, vi 1, vr t, vi 4, vi (Int32.ofNat b3), vi 0, vi 0, vi (Int32.ofNat (b3 * 65536))] rfl ?_
  refine go_aloadN d27_53 rfl rfl rfl ?_
  refine go_iload d27_54 rfl rfl ?_
  refine go_iload d27_56 rfl rfl ?_
  refine go_bipush 18 d27_58 rfl ?_
  refine go_iushr d27_60 rfl (go_eq (y := Int32.ofNat ((b3 * 65536) / 262144)) (ushrE (k := 18) (by decide) (by decide) (by omega) rfl) ?_)
  refine go_static [(.int (Int32.ofNat ((b3 * 65536) / 262144)))] [(.int 4), (.ref t)] 2 d27_61 rfl (wd hB 163 rfl) (wd hB 164 rfl) (wd hB 158 rfl) (wd hB 165 rfl) (c_sym hB (Int32.ofNat ((b3 * 65536) / 262144)) (X0 b3) lt105 (and63 (by omega) (by simp only [X0, X1, X2, X3] <;> omega))) (fun _ q => nomatch q) (lenOf pd_4 rfl) rfl rfl rfl (fun v107 h108 s109 q110 => ?_)
  obtain ⟨rfl, rfl, rfl⟩ := q110
  show Go _ _ _ _ _ _ _ _ _ _ _ _ h [t] 0 0 64 _ [(.int (T (X0 b3))), (.int 4), (.ref t)]
  refine go_castore 4 (T (X0 b3)) d27_64 rfl (T_isC lt105).nar B ⟨by decide, by decide⟩ (by decide) (by show 4 < 8; decide) (List.Mem.head _) ?_
  intro h111 W112 B113
  have B114 : Arv Z h111 t kt .char 8 [(.int (T (X0 b0))), (.int (T (X1 b0 b1))), (.int (T (X2 b1 b2))), (.int (T (X3 b2))), (.int (T (X0 b3))), (.int 0), (.int 0), (.int 0)] (.int 0) := B113
  refine go_aloadN d27_65 rfl rfl rfl ?_
  refine go_iload d27_66 rfl rfl ?_
  refine go_iconst 1 d27_68 rfl ?_
  refine go_iadd d27_69 rfl (go_eq (y := 5) (by decide) ?_)
  refine go_iload d27_70 rfl rfl ?_
  refine go_bipush 12 d27_72 rfl ?_
  refine go_iushr d27_74 rfl (go_eq (y := Int32.ofNat ((b3 * 65536) / 4096)) (ushrE (k := 12) (by decide) (by decide) (by omega) rfl) ?_)
  refine go_static [(.int (Int32.ofNat ((b3 * 65536) / 4096)))] [(.int 5), (.ref t)] 2 d27_75 rfl (wd hB 163 rfl) (wd hB 164 rfl) (wd hB 158 rfl) (wd hB 165 rfl) (c_sym hB (Int32.ofNat ((b3 * 65536) / 4096)) (X1 b3 0) lt106 (and63 (by omega) (by simp only [X0, X1, X2, X3] <;> omega))) (fun _ q => nomatch q) (lenOf pd_4 rfl) rfl rfl rfl (fun v115 h116 s117 q118 => ?_)
  obtain ⟨rfl, rfl, rfl⟩ := q118
  show Go _ _ _ _ _ _ _ _ _ _ _ _ h111 [t] 0 0 78 _ [(.int (T (X1 b3 0))), (.int 5), (.ref t)]
  refine go_castore 5 (T (X1 b3 0)) d27_78 rfl (T_isC lt106).nar B114 ⟨by decide, by decide⟩ (by decide) (by show 5 < 8; decide) (List.Mem.head _) ?_
  intro h119 W120 B121
  have B122 : Arv Z h119 t kt .char 8 [(.int (T (X0 b0))), (.int (T (X1 b0 b1))), (.int (T (X2 b1 b2))), (.int (T (X3 b2))), (.int (T (X0 b3))), (.int (T (X1 b3 0))), (.int 0), (.int 0)] (.int 0) := B121
  refine go_aloadN d27_79 rfl rfl rfl ?_
  refine go_iload d27_80 rfl rfl ?_
  refine go_iconst 2 d27_82 rfl ?_
  refine go_iadd d27_83 rfl (go_eq (y := 6) (by decide) ?_)
  refine go_iloadN d27_84 rfl rfl ?_
  refine go_iconst 1 d27_85 rfl ?_
  refine go_icmp_le_t (pt := 100) d27_86 (by decide) ?_
  refine go_bipush 61 d27_100 rfl ?_
  refine go_castore 6 61 d27_102 rfl (by decide) B122 ⟨by decide, by decide⟩ (by decide) (by show 6 < 8; decide) (List.Mem.head _) ?_
  intro h123 W124 B125
  have B126 : Arv Z h123 t kt .char 8 [(.int (T (X0 b0))), (.int (T (X1 b0 b1))), (.int (T (X2 b1 b2))), (.int (T (X3 b2))), (.int (T (X0 b3))), (.int (T (X1 b3 0))), (.int 61), (.int 0)] (.int 0) := B125
  refine go_aloadN d27_103 rfl rfl rfl ?_
  refine go_iload d27_104 rfl rfl ?_
  refine go_iconst 3 d27_106 rfl ?_
  refine go_iadd d27_107 rfl (go_eq (y := 7) (by decide) ?_)
  refine go_iloadN d27_108 rfl rfl ?_
  refine go_iconst 2 d27_109 rfl ?_
  refine go_icmp_le_t (pt := 121) d27_110 (by decide) ?_
  refine go_bipush 61 d27_121 rfl ?_
  refine go_castore 7 61 d27_123 rfl (by decide) B126 ⟨by decide, by decide⟩ (by decide) (by show 7 < 8; decide) (List.Mem.head _) ?_
  intro h127 W128 B129
  have B130 : Arv Z h127 t kt .char 8 [(.int (T (X0 b0))), (.int (T (X1 b0 b1))), (.int (T (X2 b1 b2))), (.int (T (X3 b2))), (.int (T (X0 b3))), (.int (T (X1 b3 0))), (.int 61), (.int 61)] (.int 0) := B129
  refine go_ret d27_124 [] rfl (by decide) (by decide) (fun _ q => nomatch q) ?_
  exact ⟨rfl, rfl, (((((Keep.refl h [t]).wr W112 (Or.inl (List.Mem.head _))).wr W120 (Or.inl (List.Mem.head _))).wr W124 (Or.inl (List.Mem.head _))).wr W128 (Or.inl (List.Mem.head _))), B130⟩
set_option maxRecDepth 65536 in
set_option maxHeartbeats 4000000 in
theorem c_quad_3_2_8 (hB : Base Z a0) (b0 b1 b2 b3 b4 b5 : Nat) (hb0 : b0 < 256) (hb1 : b1 < 256) (hb2 : b2 < 256) (hb3 : b3 < 256) (hb4 : b4 < 256) (hb5 : b5 < 256) {u t : Addr} {ku kt : ClassId} (hut : u ≠ t) {h : Heap} (A : Arv Z h u ku .int 6 [(.int (Int32.ofNat b0)), (.int (Int32.ofNat b1)), (.int (Int32.ofNat b2)), (.int (Int32.ofNat b3)), (.int (Int32.ofNat b4)), (.int (Int32.ofNat b5))] (.int 0)) (B : Arv Z h t kt .char 8 [(.int (T (X0 b0))), (.int (T (X1 b0 b1))), (.int (T (X2 b1 b2))), (.int (T (X3 b2))), (.int 0), (.int 0), (.int 0), (.int 0)] (.int 0)) :
    Con l Z ELc n0 (⟨"com/example/cardea/cardea/Base64TextDecodePinLaw", "quad", "([III[CI)V"⟩ : MethodName) kb27 9 (Option.none : Option FieldType) [] (⟨1, 0, 0, 15⟩ : Room) #[.ref u, .int 3, .int 2, .ref t, .int 4] h [t] (fun v h' sf' => v = none ∧ sf' = [] ∧ Keep h h' [t] ∧ Arv Z h' t kt .char 8 [(.int (T (X0 b0))), (.int (T (X1 b0 b1))), (.int (T (X2 b1 b2))), (.int (T (X3 b2))), (.int (T (X0 b3))), (.int (T (X1 b3 b4))), (.int (T (X2 b4 0))), (.int 61)] (.int 0)) := by
  refine con_ofA hB (ls := #[.val (.ref u), .val (.int 3), .val (.int 2), .val (.ref t), .val (.int 4), .unset, .unset, .unset, .unset]) (fun m => by simp [entryFrame, mkF, argsToLocals, Value.category]) ?_
  show Go _ _ _ _ _ _ "com/example/cardea/cardea/Base64TextDecodePinLaw" kb27 9 _ "quad" _ h [t] 0 0 0 #[vr u, vi 3, vi 2, vr t, vi 4, .unset, .unset, .unset, .unset] []
  have lt101 : X0 b0 < 64 := (x0_lt hb0)
  have lt102 : X1 b0 b1 < 64 := (x1_lt hb0 hb1)
  have lt103 : X2 b1 b2 < 64 := (x2_lt hb1 hb2)
  have lt104 : X3 b2 < 64 := (x3_lt hb2)
  have lt105 : X0 b3 < 64 := (x0_lt hb3)
  have lt106 : X1 b3 b4 < 64 := (x1_lt hb3 hb4)
  have lt107 : X2 b4 0 < 64 := (x2_lt hb4 (by decide : 0 < 256))
  refine go_aloadN d27_0 rfl rfl rfl ?_
  refine go_iloadN d27_1 rfl rfl ?_
  refine go_iaload (v := (.int (Int32.ofNat b3))) 3 d27_2 rfl A ⟨by decide, by decide⟩ (by decide) rfl ?_
  refine go_istore d27_3 rfl #[vr u, vi 3, vi 2, vr t, vi 4, vi (Int32.ofNat b3), .unset, .unset, .unset] rfl ?_
  refine go_iloadN d27_5 rfl rfl ?_
  refine go_iconst 1 d27_6 rfl ?_
  refine go_icmp_le_f d27_7 rfl (by decide) ?_
  refine go_aloadN d27_10 rfl rfl rfl ?_
  refine go_iloadN d27_11 rfl rfl ?_
  refine go_iconst 1 d27_12 rfl ?_
  refine go_iadd d27_13 rfl (go_eq (y := 4) (by decide) ?_)
  refine go_iaload (v := (.int (Int32.ofNat b4))) 4 d27_14 rfl A ⟨by decide, by decide⟩ (by decide) rfl ?_
  refine go_goto (pt := 19) d27_15 ?_
  refine go_istore d27_19 rfl #[vr u, vi 3, vi 2, vr t, vi 4, vi (Int32.ofNat b3), vi (Int32.ofNat b4), .unset, .unset] rfl ?_
  refine go_iloadN d27_21 rfl rfl ?_
  refine go_iconst 2 d27_22 rfl ?_
  refine go_icmp_le_t (pt := 34) d27_23 (by decide) ?_
  refine go_iconst 0 d27_34 rfl ?_
  refine go_istore d27_35 rfl #[vr u, vi 3, vi 2, vr t, vi 4, vi (Int32.ofNat b3), vi (Int32.ofNat b4), vi 0, .unset] rfl ?_
  refine go_iload d27_37 rfl rfl ?_
  refine go_bipush 16 d27_39 rfl ?_
  refine go_ishl d27_41 rfl (go_eq (y := Int32.ofNat (b3 * 65536)) (shlE (k := 16) (by decide) (by decide) (by omega) rfl (by omega)) ?_)
  refine go_iload d27_42 rfl rfl ?_
  refine go_bipush 8 d27_44 rfl ?_
  refine go_ishl d27_46 rfl (go_eq (y := Int32.ofNat (b4 * 256)) (shlE (k := 8) (by decide) (by decide) (by omega) rfl (by omega)) ?_)
  refine go_ior d27_47 rfl (go_eq (y := Int32.ofNat (b3 * 65536 + b4 * 256)) (orE (k := 16) (by omega) (by omega) rfl (by omega)) ?_)
  refine go_iload d27_48 rfl rfl ?_
  refine go_ior d27_50 rfl (go_eq (y := Int32.ofNat (b3 * 65536 + b4 * 256)) Int32.or_zero ?_)
  refine go_istore d27_51 rfl #[vr u, vi 3, vi 2, vr t, vi 4, vi (Int32.ofNat b3), vi (Int32.ofNat b4), vi 0, vi (Int32.ofNat (b3 * 65536 + b4 * 256))] rfl ?_
  refine go_aloadN d27_53 rfl rfl rfl ?_
  refine go_iload d27_54 rfl rfl ?_
  refine go_iload d27_56 rfl rfl ?_
  refine go_bipush 18 d27_58 rfl ?_
  refine go_iushr d27_60 rfl (go_eq (y := Int32.ofNat ((b3 * 65536 + b4 * 256) / 262144)) (ushrE (k := 18) (by decide) (by decide) (by omega) rfl) ?_)
  refine go_static [(.int (Int32.ofNat ((b3 * 65536 + b4 * 256) / 262144)))] [(.int 4), (.ref t)] 2 d27_61 rfl (wd hB 163 rfl) (wd hB 164 rfl) (wd hB 158 rfl) (wd hB 165 rfl) (c_sym hB (Int32.ofNat ((b3 * 65536 + b4 * 256) / 262144)) (X0 b3) lt105 (and63 (by omega) (by simp only [X0, X1, X2, X3] <;> omega))) (fun _ q => nomatch q) (lenOf pd_4 rfl) rfl rfl rfl (fun v108 h109 s110 q111 => ?_)
  obtain ⟨rfl, rfl, rfl⟩ := q111
  show Go _ _ _ _ _ _ _ _ _ _ _ _ h [t] 0 0 64 _ [(.int (T (X0 b3))), (.int 4), (.ref t)]
  refine go_castore 4 (T (X0 b3)) d27_64 rfl (T_isC lt105).nar B ⟨by decide, by decide⟩ (by decide) (by show 4 < 8; decide) (List.Mem.head _) ?_
  intro h112 W113 B114
  have B115 : Arv Z h112 t kt .char 8 [(.int (T (X0 b0))), (.int (T (X1 b0 b1))), (.int (T (X2 b1 b2))), (.int (T (X3 b2))), (.int (T (X0 b3))), (.int 0), (.int 0), (.int 0)] (.int 0) := B114
  refine go_aloadN d27_65 rfl rfl rfl ?_
  refine go_iload d27_66 rfl rfl ?_
  refine go_iconst 1 d27_68 rfl ?_
  refine go_iadd d27_69 rfl (go_eq (y := 5) (by decide) ?_)
  refine go_iload d27_70 rfl rfl ?_
  refine go_bipush 12 d27_72 rfl ?_
  refine go_iushr d27_74 rfl (go_eq (y := Int32.ofNat ((b3 * 65536 + b4 * 256) / 4096)) (ushrE (k := 12) (by decide) (by decide) (by omega) rfl) ?_)
  refine go_static [(.int (Int32.ofNat ((b3 * 65536 + b4 * 256) / 4096)))] [(.int 5), (.ref t)] 2 d27_75 rfl (wd hB 163 rfl) (wd hB 164 rfl) (wd hB 158 rfl) (wd hB 165 rfl) (c_sym hB (Int32.ofNat ((b3 * 65536 + b4 * 256) / 4096)) (X1 b3 b4) lt106 (and63 (by omega) (by simp only [X0, X1, X2, X3] <;> omega))) (fun _ q => nomatch q) (lenOf pd_4 rfl) rfl rfl rfl (fun v116 h117 s118 q119 => ?_)
  obtain ⟨rfl, rfl, rfl⟩ := q119
  show Go _ _ _ _ _ _ _ _ _ _ _ _ h112 [t] 0 0 78 _ [(.int (T (X1 b3 b4))), (.int 5), (.ref t)]
  refine go_castore 5 (T (X1 b3 b4)) d27_78 rfl (T_isC lt106).nar B115 ⟨by decide, by decide⟩ (by decide) (by show 5 < 8; decide) (List.Mem.head _) ?_
  intro h120 W121 B122
  have B123 : Arv Z h120 t kt .char 8 [(.int (T (X0 b0))), (.int (T (X1 b0 b1))), (.int (T (X2 b1 b2))), (.int (T (X3 b2))), (.int (T (X0 b3))), (.int (T (X1 b3 b4))), (.int 0), (.int 0)] (.int 0) := B122
  refine go_aloadN d27_79 rfl rfl rfl ?_
  refine go_iload d27_80 rfl rfl ?_
  refine go_iconst 2 d27_82 rfl ?_
  refine go_iadd d27_83 rfl (go_eq (y := 6) (by decide) ?_)
  refine go_iloadN d27_84 rfl rfl ?_
  refine go_iconst 1 d27_85 rfl ?_
  refine go_icmp_le_f d27_86 rfl (by decide) ?_
  refine go_iload d27_89 rfl rfl ?_
  refine go_bipush 6 d27_91 rfl ?_
  refine go_iushr d27_93 rfl (go_eq (y := Int32.ofNat ((b3 * 65536 + b4 * 256) / 64)) (ushrE (k := 6) (by decide) (by decide) (by omega) rfl) ?_)
  refine go_static [(.int (Int32.ofNat ((b3 * 65536 + b4 * 256) / 64)))] [(.int 6), (.ref t)] 2 d27_94 rfl (wd hB 163 rfl) (wd hB 164 rfl) (wd hB 158 rfl) (wd hB 165 rfl) (c_sym hB (Int32.ofNat ((b3 * 65536 + b4 * 256) / 64)) (X2 b4 0) lt107 (and63 (by omega) (by simp only [X0, X1, X2, X3] <;> omega))) (fun _ q => nomatch q) (lenOf pd_4 rfl) rfl rfl rfl (fun v124 h125 s126 q127 => ?_)
  obtain ⟨rfl, rfl, rfl⟩ := q127
  show Go _ _ _ _ _ _ _ _ _ _ _ _ h120 [t] 0 0 97 _ [(.int (T (X2 b4 0))), (.int 6), (.ref t)]
  refine go_goto (pt := 102) d27_97 ?_
  refine go_castore 6 (T (X2 b4 0)) d27_102 rfl (T_isC lt107).nar B123 ⟨by decide, by decide⟩ (by decide) (by show 6 < 8; decide) (List.Mem.head _) ?_
  intro h128 W129 B130
  have B131 : Arv Z h128 t kt .char 8 [(.int (T (X0 b0))), (.int (T (X1 b0 b1))), (.int (T (X2 b1 b2))), (.int (T (X3 b2))), (.int (T (X0 b3))), (.int (T (X1 b3 b4))), (.int (T (X2 b4 0))), (.int 0)] (.int 0) := B130
  refine go_aloadN d27_103 rfl rfl rfl ?_
  refine go_iload d27_104 rfl rfl ?_
  refine go_iconst 3 d27_106 rfl ?_
  refine go_iadd d27_107 rfl (go_eq (y := 7) (by decide) ?_)
  refine go_iloadN d27_108 rfl rfl ?_
  refine go_iconst 2 d27_109 rfl ?_
  refine go_icmp_le_t (pt := 121) d27_110 (by decide) ?_
  refine go_bipush 61 d27_121 rfl ?_
  refine go_castore 7 61 d27_123 rfl (by decide) B131 ⟨by decide, by decide⟩ (by decide) (by show 7 < 8; decide) (List.Mem.head _) ?_
  intro h132 W133 B134
  have B135 : Arv Z h132 t kt .char 8 [(.int (T (X0 b0))), (.int (T (X1 b0 b1))), (.int (T (X2 b1 b2))), (.int (T (X3 b2))), (.int (T (X0 b3))), (.int (T (X1 b3 b4))), (.int (T (X2 b4 0))), (.int 61)] (.int 0) := B134
  refine go_ret d27_124 [] rfl (by decide) (by decide) (fun _ q => nomatch q) ?_
  exact ⟨rfl, rfl, (((((Keep.refl h [t]).wr W113 (Or.inl (List.Mem.head _))).wr W121 (Or.inl (List.Mem.head _))).wr W129 (Or.inl (List.Mem.head _))).wr W133 (Or.inl (List.Mem.head _))), B135⟩
set_option maxRecDepth 65536 in
set_option maxHeartbeats 4000000 in
theorem c_quad_3_3_8 (hB : Base Z a0) (b0 b1 b2 b3 b4 b5 : Nat) (hb0 : b0 < 256) (hb1 : b1 < 256) (hb2 : b2 < 256) (hb3 : b3 < 256) (hb4 : b4 < 256) (hb5 : b5 < 256) {u t : Addr} {ku kt : ClassId} (hut : u ≠ t) {h : Heap} (A : Arv Z h u ku .int 6 [(.int (Int32.ofNat b0)), (.int (Int32.ofNat b1)), (.int (Int32.ofNat b2)), (.int (Int32.ofNat b3)), (.int (Int32.ofNat b4)), (.int (Int32.ofNat b5))] (.int 0)) (B : Arv Z h t kt .char 8 [(.int (T (X0 b0))), (.int (T (X1 b0 b1))), (.int (T (X2 b1 b2))), (.int (T (X3 b2))), (.int 0), (.int 0), (.int 0), (.int 0)] (.int 0)) :
    Con l Z ELc n0 (⟨"com/example/cardea/cardea/Base64TextDecodePinLaw", "quad", "([III[CI)V"⟩ : MethodName) kb27 9 (Option.none : Option FieldType) [] (⟨1, 0, 0, 15⟩ : Room) #[.ref u, .int 3, .int 3, .ref t, .int 4] h [t] (fun v h' sf' => v = none ∧ sf' = [] ∧ Keep h h' [t] ∧ Arv Z h' t kt .char 8 [(.int (T (X0 b0))), (.int (T (X1 b0 b1))), (.int (T (X2 b1 b2))), (.int (T (X3 b2))), (.int (T (X0 b3))), (.int (T (X1 b3 b4))), (.int (T (X2 b4 b5))), (.int (T (X3 b5)))] (.int 0)) := by
  refine con_ofA hB (ls := #[.val (.ref u), .val (.int 3), .val (.int 3), .val (.ref t), .val (.int 4), .unset, .unset, .unset, .unset]) (fun m => by simp [entryFrame, mkF, argsToLocals, Value.category]) ?_
  show Go _ _ _ _ _ _ "com/example/cardea/cardea/Base64TextDecodePinLaw" kb27 9 _ "quad" _ h [t] 0 0 0 #[vr u, vi 3, vi 3, vr t, vi 4, .unset, .unset, .unset, .unset] []
  have lt101 : X0 b0 < 64 := (x0_lt hb0)
  have lt102 : X1 b0 b1 < 64 := (x1_lt hb0 hb1)
  have lt103 : X2 b1 b2 < 64 := (x2_lt hb1 hb2)
  have lt104 : X3 b2 < 64 := (x3_lt hb2)
  have lt105 : X0 b3 < 64 := (x0_lt hb3)
  have lt106 : X1 b3 b4 < 64 := (x1_lt hb3 hb4)
  have lt107 : X2 b4 b5 < 64 := (x2_lt hb4 hb5)
  have lt108 : X3 b5 < 64 := (x3_lt hb5)
  refine go_aloadN d27_0 rfl rfl rfl ?_
  refine go_iloadN d27_1 rfl rfl ?_
  refine go_iaload (v := (.int (Int32.ofNat b3))) 3 d27_2 rfl A ⟨by decide, by decide⟩ (by decide) rfl ?_
  refine go_istore d27_3 rfl #[vr u, vi 3, vi 3, vr t, vi 4, vi (Int32.ofNat b3), .unset, .unset, .unset] rfl ?_
  refine go_iloadN d27_5 rfl rfl ?_
  refine go_iconst 1 d27_6 rfl ?_
  refine go_icmp_le_f d27_7 rfl (by decide) ?_
  refine go_aloadN d27_10 rfl rfl rfl ?_
  refine go_iloadN d27_11 rfl rfl ?_
  refine go_iconst 1 d27_12 rfl ?_
  refine go_iadd d27_13 rfl (go_eq (y := 4) (by decide) ?_)
  refine go_iaload (v := (.int (Int32.ofNat b4))) 4 d27_14 rfl A ⟨by decide, by decide⟩ (by decide) rfl ?_
  refine go_goto (pt := 19) d27_15 ?_
  refine go_istore d27_19 rfl #[vr u, vi 3, vi 3, vr t, vi 4, vi (Int32.ofNat b3), vi (Int32.ofNat b4), .unset, .unset] rfl ?_
  refine go_iloadN d27_21 rfl rfl ?_
  refine go_iconst 2 d27_22 rfl ?_
  refine go_icmp_le_f d27_23 rfl (by decide) ?_
  refine go_aloadN d27_26 rfl rfl rfl ?_
  refine go_iloadN d27_27 rfl rfl ?_
  refine go_iconst 2 d27_28 rfl ?_
  refine go_iadd d27_29 rfl (go_eq (y := 5) (by decide) ?_)
  refine go_iaload (v := (.int (Int32.ofNat b5))) 5 d27_30 rfl A ⟨by decide, by decide⟩ (by decide) rfl ?_
  refine go_goto (pt := 35) d27_31 ?_
  refine go_istore d27_35 rfl #[vr u, vi 3, vi 3, vr t, vi 4, vi (Int32.ofNat b3), vi (Int32.ofNat b4), vi (Int32.ofNat b5), .unset] rfl ?_
  refine go_iload d27_37 rfl rfl ?_
  refine go_bipush 16 d27_39 rfl ?_
  refine go_ishl d27_41 rfl (go_eq (y := Int32.ofNat (b3 * 65536)) (shlE (k := 16) (by decide) (by decide) (by omega) rfl (by omega)) ?_)
  refine go_iload d27_42 rfl rfl ?_
  refine go_bipush 8 d27_44 rfl ?_
  refine go_ishl d27_46 rfl (go_eq (y := Int32.ofNat (b4 * 256)) (shlE (k := 8) (by decide) (by decide) (by omega) rfl (by omega)) ?_)
  refine go_ior d27_47 rfl (go_eq (y := Int32.ofNat (b3 * 65536 + b4 * 256)) (orE (k := 16) (by omega) (by omega) rfl (by omega)) ?_)
  refine go_iload d27_48 rfl rfl ?_
  refine go_ior d27_50 rfl (go_eq (y := Int32.ofNat (b3 * 65536 + b4 * 256 + b5)) (orE (k := 8) (by omega) (by omega) rfl (by omega)) ?_)
  refine go_istore d27_51 rfl #[vr u, vi 3, vi 3, vr t, vi 4, vi (Int32.ofNat b3), vi (Int32.ofNat b4), vi (Int32.ofNat b5), vi (Int32.ofNat (b3 * 65536 + b4 * 256 + b5))] rfl ?_
  refine go_aloadN d27_53 rfl rfl rfl ?_
  refine go_iload d27_54 rfl rfl ?_
  refine go_iload d27_56 rfl rfl ?_
  refine go_bipush 18 d27_58 rfl ?_
  refine go_iushr d27_60 rfl (go_eq (y := Int32.ofNat ((b3 * 65536 + b4 * 256 + b5) / 262144)) (ushrE (k := 18) (by decide) (by decide) (by omega) rfl) ?_)
  refine go_static [(.int (Int32.ofNat ((b3 * 65536 + b4 * 256 + b5) / 262144)))] [(.int 4), (.ref t)] 2 d27_61 rfl (wd hB 163 rfl) (wd hB 164 rfl) (wd hB 158 rfl) (wd hB 165 rfl) (c_sym hB (Int32.ofNat ((b3 * 65536 + b4 * 256 + b5) / 262144)) (X0 b3) lt105 (and63 (by omega) (by simp only [X0, X1, X2, X3] <;> omega))) (fun _ q => nomatch q) (lenOf pd_4 rfl) rfl rfl rfl (fun v109 h110 s111 q112 => ?_)
  obtain ⟨rfl, rfl, rfl⟩ := q112
  show Go _ _ _ _ _ _ _ _ _ _ _ _ h [t] 0 0 64 _ [(.int (T (X0 b3))), (.int 4), (.ref t)]
  refine go_castore 4 (T (X0 b3)) d27_64 rfl (T_isC lt105).nar B ⟨by decide, by decide⟩ (by decide) (by show 4 < 8; decide) (List.Mem.head _) ?_
  intro h113 W114 B115
  have B116 : Arv Z h113 t kt .char 8 [(.int (T (X0 b0))), (.int (T (X1 b0 b1))), (.int (T (X2 b1 b2))), (.int (T (X3 b2))), (.int (T (X0 b3))), (.int 0), (.int 0), (.int 0)] (.int 0) := B115
  refine go_aloadN d27_65 rfl rfl rfl ?_
  refine go_iload d27_66 rfl rfl ?_
  refine go_iconst 1 d27_68 rfl ?_
  refine go_iadd d27_69 rfl (go_eq (y := 5) (by decide) ?_)
  refine go_iload d27_70 rfl rfl ?_
  refine go_bipush 12 d27_72 rfl ?_
  refine go_iushr d27_74 rfl (go_eq (y := Int32.ofNat ((b3 * 65536 + b4 * 256 + b5) / 4096)) (ushrE (k := 12) (by decide) (by decide) (by omega) rfl) ?_)
  refine go_static [(.int (Int32.ofNat ((b3 * 65536 + b4 * 256 + b5) / 4096)))] [(.int 5), (.ref t)] 2 d27_75 rfl (wd hB 163 rfl) (wd hB 164 rfl) (wd hB 158 rfl) (wd hB 165 rfl) (c_sym hB (Int32.ofNat ((b3 * 65536 + b4 * 256 + b5) / 4096)) (X1 b3 b4) lt106 (and63 (by omega) (by simp only [X0, X1, X2, X3] <;> omega))) (fun _ q => nomatch q) (lenOf pd_4 rfl) rfl rfl rfl (fun v117 h118 s119 q120 => ?_)
  obtain ⟨rfl, rfl, rfl⟩ := q120
  show Go _ _ _ _ _ _ _ _ _ _ _ _ h113 [t] 0 0 78 _ [(.int (T (X1 b3 b4))), (.int 5), (.ref t)]
  refine go_castore 5 (T (X1 b3 b4)) d27_78 rfl (T_isC lt106).nar B116 ⟨by decide, by decide⟩ (by decide) (by show 5 < 8; decide) (List.Mem.head _) ?_
  intro h121 W122 B123
  have B124 : Arv Z h121 t kt .char 8 [(.int (T (X0 b0))), (.int (T (X1 b0 b1))), (.int (T (X2 b1 b2))), (.int (T (X3 b2))), (.int (T (X0 b3))), (.int (T (X1 b3 b4))), (.int 0), (.int 0)] (.int 0) := B123
  refine go_aloadN d27_79 rfl rfl rfl ?_
  refine go_iload d27_80 rfl rfl ?_
  refine go_iconst 2 d27_82 rfl ?_
  refine go_iadd d27_83 rfl (go_eq (y := 6) (by decide) ?_)
  refine go_iloadN d27_84 rfl rfl ?_
  refine go_iconst 1 d27_85 rfl ?_
  refine go_icmp_le_f d27_86 rfl (by decide) ?_
  refine go_iload d27_89 rfl rfl ?_
  refine go_bipush 6 d27_91 rfl ?_
  refine go_iushr d27_93 rfl (go_eq (y := Int32.ofNat ((b3 * 65536 + b4 * 256 + b5) / 64)) (ushrE (k := 6) (by decide) (by decide) (by omega) rfl) ?_)
  refine go_static [(.int (Int32.ofNat ((b3 * 65536 + b4 * 256 + b5) / 64)))] [(.int 6), (.ref t)] 2 d27_94 rfl (wd hB 163 rfl) (wd hB 164 rfl) (wd hB 158 rfl) (wd hB 165 rfl) (c_sym hB (Int32.ofNat ((b3 * 65536 + b4 * 256 + b5) / 64)) (X2 b4 b5) lt107 (and63 (by omega) (by simp only [X0, X1, X2, X3] <;> omega))) (fun _ q => nomatch q) (lenOf pd_4 rfl) rfl rfl rfl (fun v125 h126 s127 q128 => ?_)
  obtain ⟨rfl, rfl, rfl⟩ := q128
  show Go _ _ _ _ _ _ _ _ _ _ _ _ h121 [t] 0 0 97 _ [(.int (T (X2 b4 b5))), (.int 6), (.ref t)]
  refine go_goto (pt := 102) d27_97 ?_
  refine go_castore 6 (T (X2 b4 b5)) d27_102 rfl (T_isC lt107).nar B124 ⟨by decide, by decide⟩ (by decide) (by show 6 < 8; decide) (List.Mem.head _) ?_
  intro h129 W130 B131
  have B132 : Arv Z h129 t kt .char 8 [(.int (T (X0 b0))), (.int (T (X1 b0 b1))), (.int (T (X2 b1 b2))), (.int (T (X3 b2))), (.int (T (X0 b3))), (.int (T (X1 b3 b4))), (.int (T (X2 b4 b5))), (.int 0)] (.int 0) := B131
  refine go_aloadN d27_103 rfl rfl rfl ?_
  refine go_iload d27_104 rfl rfl ?_
  refine go_iconst 3 d27_106 rfl ?_
  refine go_iadd d27_107 rfl (go_eq (y := 7) (by decide) ?_)
  refine go_iloadN d27_108 rfl rfl ?_
  refine go_iconst 2 d27_109 rfl ?_
  refine go_icmp_le_f d27_110 rfl (by decide) ?_
  refine go_iload d27_113 rfl rfl ?_
  refine go_static [(.int (Int32.ofNat (b3 * 65536 + b4 * 256 + b5)))] [(.int 7), (.ref t)] 2 d27_115 rfl (wd hB 163 rfl) (wd hB 164 rfl) (wd hB 158 rfl) (wd hB 165 rfl) (c_sym hB (Int32.ofNat (b3 * 65536 + b4 * 256 + b5)) (X3 b5) lt108 (and63 (by omega) (by simp only [X0, X1, X2, X3] <;> omega))) (fun _ q => nomatch q) (lenOf pd_4 rfl) rfl rfl rfl (fun v133 h134 s135 q136 => ?_)
  obtain ⟨rfl, rfl, rfl⟩ := q136
  show Go _ _ _ _ _ _ _ _ _ _ _ _ h129 [t] 0 0 118 _ [(.int (T (X3 b5))), (.int 7), (.ref t)]
  refine go_goto (pt := 123) d27_118 ?_
  refine go_castore 7 (T (X3 b5)) d27_123 rfl (T_isC lt108).nar B132 ⟨by decide, by decide⟩ (by decide) (by show 7 < 8; decide) (List.Mem.head _) ?_
  intro h137 W138 B139
  have B140 : Arv Z h137 t kt .char 8 [(.int (T (X0 b0))), (.int (T (X1 b0 b1))), (.int (T (X2 b1 b2))), (.int (T (X3 b2))), (.int (T (X0 b3))), (.int (T (X1 b3 b4))), (.int (T (X2 b4 b5))), (.int (T (X3 b5)))] (.int 0) := B139
  refine go_ret d27_124 [] rfl (by decide) (by decide) (fun _ q => nomatch q) ?_
  exact ⟨rfl, rfl, (((((Keep.refl h [t]).wr W114 (Or.inl (List.Mem.head _))).wr W122 (Or.inl (List.Mem.head _))).wr W130 (Or.inl (List.Mem.head _))).wr W138 (Or.inl (List.Mem.head _))), B140⟩
set_option maxRecDepth 65536 in
set_option maxHeartbeats 4000000 in
theorem c_at1 (hB : Base Z a0) (i n : Int32) (hin : ¬ i < n) {r u : Addr} {h : Heap} :
    Con l Z ELc n0 (⟨"com/example/cardea/cardea/Base64TextDecodePinLaw", "at", "([B[III)Z"⟩ : MethodName) kb26 4 (Option.some FieldType.boolean) [] (⟨0, 0, 0, 0⟩ : Room) #[.ref r, .ref u, .int i, .int n] h [] (fun v h' sf' => v = some (.int 1) ∧ sf' = [] ∧ h = h') := by
  refine con_ofA hB (ls := #[.val (.ref r), .val (.ref u), .val (.int i), .val (.int n)]) (fun m => by simp [entryFrame, mkF, argsToLocals, Value.category]) ?_
  show Go _ _ _ _ _ _ "com/example/cardea/cardea/Base64TextDecodePinLaw" kb26 4 _ "at" _ h [] 0 0 0 #[vr r, vr u, vi i, vi n] []
  refine go_iloadN d26_0 rfl rfl ?_
  refine go_iloadN d26_1 rfl rfl ?_
  refine go_icmp_ge_t (pt := 18) d26_2 hin ?_
  refine go_iconst 1 d26_18 rfl ?_
  refine go_goto (pt := 23) d26_19 ?_
  refine go_retN (t := .boolean) d26_23 [] rfl (by simp) (by decide) (by decide) (fun _ q => nomatch q) ?_
  exact ⟨by decide, rfl, rfl⟩
set_option maxRecDepth 65536 in
set_option maxHeartbeats 4000000 in
theorem c_at2 (hB : Base Z a0) (i : Nat) (hi6 : i < 6) (c n : Int32) (hin : Int32.ofNat i < n) (hC : isC c) {vs us : List Value} {r u : Addr} {kr ku : ClassId} {h : Heap} (A : Arv Z h r kr .byte n vs (.int 0)) (B : Arv Z h u ku .int 6 us (.int 0)) (hr : vs.getD i (.int 0) = .int c.toInt8.toInt32) (hu : us.getD i (.int 0) = .int c) :
    Con l Z ELc n0 (⟨"com/example/cardea/cardea/Base64TextDecodePinLaw", "at", "([B[III)Z"⟩ : MethodName) kb26 4 (Option.some FieldType.boolean) [] (⟨0, 0, 0, 0⟩ : Room) #[.ref r, .ref u, .int (Int32.ofNat i), .int n] h [] (fun v h' sf' => v = some (.int 1) ∧ sf' = [] ∧ h = h') := by
  refine con_ofA hB (ls := #[.val (.ref r), .val (.ref u), .val (.int (Int32.ofNat i)), .val (.int n)]) (fun m => by simp [entryFrame, mkF, argsToLocals, Value.category]) ?_
  show Go _ _ _ _ _ _ "com/example/cardea/cardea/Base64TextDecodePinLaw" kb26 4 _ "at" _ h [] 0 0 0 #[vr r, vr u, vi (Int32.ofNat i), vi n] []
  refine go_iloadN d26_0 rfl rfl ?_
  refine go_iloadN d26_1 rfl rfl ?_
  refine go_icmp_ge_f d26_2 rfl hin ?_
  refine go_aloadN d26_5 rfl rfl rfl ?_
  refine go_iloadN d26_6 rfl rfl ?_
  refine go_baload (v := (.int c.toInt8.toInt32)) i d26_7 rfl A ⟨ofN_nneg (by omega), hin⟩ (ofN_cl (by omega)) hr ?_
  refine go_sipush 255 d26_8 rfl ?_
  refine go_iand d26_11 rfl ?_
  refine go_eq (y := c) hC.back ?_
  refine go_aloadN d26_12 rfl rfl rfl ?_
  refine go_iloadN d26_13 rfl rfl ?_
  refine go_iaload (v := (.int c)) i d26_14 rfl B ⟨ofN_nneg (by omega), ofN_lt (n := 6) (by omega) (by decide)⟩ (ofN_cl (by omega)) hu ?_
  refine go_icmp_ne_f d26_15 rfl rfl ?_
  refine go_iconst 1 d26_18 rfl ?_
  refine go_goto (pt := 23) d26_19 ?_
  refine go_retN (t := .boolean) d26_23 [] rfl (by simp) (by decide) (by decide) (fun _ q => nomatch q) ?_
  exact ⟨by decide, rfl, rfl⟩
set_option maxRecDepth 65536 in
set_option maxHeartbeats 4000000 in
theorem c_coder (hB : Base Z a0) {s : Addr} {h : Heap} (C : Fld Z h s "java/lang/String" "coder" "B" (.int 0)) :
    Con l Z ELc n0 (⟨"java/lang/String", "coder", "()B"⟩ : MethodName) kb7 1 (Option.some FieldType.byte) [] (⟨0, 0, 0, 0⟩ : Room) #[.ref s] h [] (fun v h' sf' => v = some (.int 0) ∧ sf' = [] ∧ h = h') := by
  refine con_ofA hB (ls := #[.val (.ref s)]) (fun m => by simp [entryFrame, mkF, argsToLocals, Value.category]) ?_
  show Go _ _ _ _ _ _ "java/lang/String" kb7 1 _ "coder" _ h [] 0 0 0 #[vr s] []
  obtain ⟨cz, hS, hcz⟩ := hB.2.2.1
  refine go_getstatic d7_0 rfl (wd hB 52 rfl) Via.refl hS ?_
  refine go_if_eq_f d7_3 rfl hcz ?_
  refine go_aloadN d7_6 rfl rfl rfl ?_
  refine go_getfield d7_7 rfl (wd hB 24 rfl) Via.refl C ?_
  refine go_goto (pt := 14) d7_10 ?_
  refine go_retN (t := .byte) d7_14 [] rfl (by simp) (by decide) (by decide) (fun _ q => nomatch q) ?_
  exact ⟨by decide, rfl, rfl⟩
set_option maxRecDepth 65536 in
set_option maxHeartbeats 4000000 in
theorem c_e3 (hB : Base Z a0) {d : Addr} {k : ClassId} {z : Int32} {vs : List Value} (hz : z.toNatClampNeg ≤ 8) {h : Heap} (A : Arv Z h d k .byte z vs (.int 0)) (X : Exa Z h d "[B") :
    Con l Z ELc n0 (⟨"java/lang/String", "encode8859_1", "(B[BZ)[B"⟩ : MethodName) kb10 10 (Option.some (FieldType.array FieldType.byte)) [] (⟨1, 1, 8, 14⟩ : Room) #[.int 0, .ref d, .int 1] h [] (fun v h' sf' => ∃ x, v = some (.ref x) ∧ sf' = [x] ∧ Ext h h' ∧ h.size ≤ x ∧ Exa Z h' x "[B" ∧ Arv Z h' x k .byte z vs (.int 0)) := by
  refine con_ofA hB (ls := #[.val (.int 0), .val (.ref d), .val (.int 1), .unset, .unset, .unset, .unset, .unset, .unset, .unset]) (fun m => by simp [entryFrame, mkF, argsToLocals, Value.category]) ?_
  show Go _ _ _ _ _ _ "java/lang/String" kb10 10 _ "encode8859_1" _ h [] 0 0 0 #[vi 0, vr d, vi 1, .unset, .unset, .unset, .unset, .unset, .unset, .unset] []
  refine go_iloadN d10_0 rfl rfl ?_
  refine go_if_ne_f d10_1 rfl (by decide) ?_
  refine go_aloadN d10_4 rfl rfl rfl ?_
  refine go_clone (ad := "[B") 8 0 d10_5 rfl (wd hB 65 rfl) (wd hB 66 rfl) (wd hB 70 rfl) (wd hB 68 rfl) (wd hB 69 rfl) (wd hB 71 rfl) A X hz rfl rfl (by decide) (by decide) (by decide) (by decide) ?_
  intro h103 x101 hx102 E104 ⟨A105, B106⟩
  refine go_checkcast d10_8 rfl (wd hB 72 rfl) (Ins.self A105) ?_
  refine go_retA d10_11 [x101] rfl rfl rfl rfl (by decide) (by decide) (allS (List.Mem.head _) (fun _ q => nomatch q)) ?_
  exact ⟨_, rfl, rfl, (ext_of_keep ((Keep.refl h []).ext E104)), (Nat.le_of_eq hx102.symm), A105, B106⟩
set_option maxRecDepth 65536 in
set_option maxHeartbeats 4000000 in
theorem c_e2 (hB : Base Z a0) {d : Addr} {k : ClassId} {z : Int32} {vs : List Value} (hz : z.toNatClampNeg ≤ 8) {h : Heap} (A : Arv Z h d k .byte z vs (.int 0)) (X : Exa Z h d "[B") :
    Con l Z ELc n0 (⟨"java/lang/String", "encode8859_1", "(B[B)[B"⟩ : MethodName) kb9 2 (Option.some (FieldType.array FieldType.byte)) [] (⟨2, 1, 8, 35⟩ : Room) #[.int 0, .ref d] h [] (fun v h' sf' => ∃ x, v = some (.ref x) ∧ sf' = [x] ∧ Ext h h' ∧ h.size ≤ x ∧ Exa Z h' x "[B" ∧ Arv Z h' x k .byte z vs (.int 0)) := by
  refine con_ofA hB (ls := #[.val (.int 0), .val (.ref d)]) (fun m => by simp [entryFrame, mkF, argsToLocals, Value.category]) ?_
  show Go _ _ _ _ _ _ "java/lang/String" kb9 2 _ "encode8859_1" _ h [] 0 0 0 #[vi 0, vr d] []
  refine go_iloadN d9_0 rfl rfl ?_
  refine go_aloadN d9_1 rfl rfl rfl ?_
  refine go_iconst 1 d9_2 rfl ?_
  refine go_static [(.int 0), (.ref d), (.int 1)] [] 0 d9_3 rfl (wd hB 62 rfl) (wd hB 63 rfl) (wd hB 6 rfl) (wd hB 64 rfl) (c_e3 hB hz A X) (fun _ q => nomatch q) (lenOf pd_5 rfl) rfl rfl rfl (fun v101 h102 s103 q104 => ?_)
  obtain ⟨x105, rfl, rfl, E106, g107, X108, A109⟩ := q104
  show Go _ _ _ _ _ _ _ _ _ _ _ _ h102 [x105] 1 8 6 _ [(.ref x105)]
  refine go_retA d9_6 [x105] rfl rfl rfl rfl (by decide) (by decide) (allS (List.Mem.head _) (fun _ q => nomatch q)) ?_
  exact ⟨_, rfl, rfl, (ext_of_keep ((Keep.refl h []).ext E106)), g107, X108, A109⟩
set_option maxRecDepth 65536 in
set_option maxHeartbeats 4000000 in
theorem c_en (hB : Base Z a0) {is ut : Addr} (SI : Sta Z Z.heap "sun/nio/cs/ISO_8859_1" "INSTANCE" "Lsun/nio/cs/ISO_8859_1;" (.ref is)) (SU : Sta Z Z.heap "sun/nio/cs/UTF_8" "INSTANCE" "Lsun/nio/cs/UTF_8;" (.ref ut)) (IX : Exa Z Z.heap is "sun/nio/cs/ISO_8859_1") (UX : Exa Z Z.heap ut "sun/nio/cs/UTF_8") {d : Addr} {k : ClassId} {z : Int32} {vs : List Value} (hz : z.toNatClampNeg ≤ 8) {h : Heap} (A : Arv Z h d k .byte z vs (.int 0)) (X : Exa Z h d "[B") :
    Con l Z ELc n0 (⟨"java/lang/String", "encode", "(Ljava/nio/charset/Charset;B[B)[B"⟩ : MethodName) kb8 3 (Option.some (FieldType.array FieldType.byte)) [] (⟨3, 1, 8, 48⟩ : Room) #[.ref is, .int 0, .ref d] h [] (fun v h' sf' => ∃ x, v = some (.ref x) ∧ sf' = [x] ∧ Ext h h' ∧ h.size ≤ x ∧ Exa Z h' x "[B" ∧ Arv Z h' x k .byte z vs (.int 0)) := by
  refine con_ofA hB (ls := #[.val (.ref is), .val (.int 0), .val (.ref d)]) (fun m => by simp [entryFrame, mkF, argsToLocals, Value.category]) ?_
  show Go _ _ _ _ _ _ "java/lang/String" kb8 3 _ "encode" _ h [] 0 0 0 #[vr is, vi 0, vr d] []
  refine Go.old (fun hOld => ?_)
  have IXh := Exa.ext hOld.2 IX
  have UXh := Exa.ext hOld.2 UX
  refine go_aloadN d8_0 rfl rfl rfl ?_
  refine go_getstatic d8_1 rfl (wd hB 56 rfl) Via.refl SU ?_
  refine go_acmp (pt := 14) false d8_4 rfl rfl (decide_eq_false (fun q => (ne_exa IXh UXh (by decide)) (Value.ref.inj q))) (by decide) (by decide) ?_
  refine go_aloadN d8_14 rfl rfl rfl ?_
  refine go_getstatic d8_15 rfl (wd hB 58 rfl) Via.refl SI ?_
  refine go_acmp (pt := 21) true d8_18 rfl rfl (by simp) (by decide) (by decide) ?_
  refine go_iloadN d8_21 rfl rfl ?_
  refine go_aloadN d8_22 rfl rfl rfl ?_
  refine go_static [(.int 0), (.ref d)] [] 0 d8_23 rfl (wd hB 59 rfl) (wd hB 60 rfl) (wd hB 6 rfl) (wd hB 61 rfl) (c_e2 hB hz A X) (fun _ q => nomatch q) (lenOf pd_6 rfl) rfl rfl rfl (fun v101 h102 s103 q104 => ?_)
  obtain ⟨x105, rfl, rfl, E106, g107, X108, A109⟩ := q104
  show Go _ _ _ _ _ _ _ _ _ _ _ _ h102 [x105] 1 8 26 _ [(.ref x105)]
  refine go_retA d8_26 [x105] rfl rfl rfl rfl (by decide) (by decide) (allS (List.Mem.head _) (fun _ q => nomatch q)) ?_
  exact ⟨_, rfl, rfl, (ext_of_keep ((Keep.refl h []).ext E106)), g107, X108, A109⟩
set_option maxRecDepth 65536 in
set_option maxHeartbeats 4000000 in
theorem c_gb (hB : Base Z a0) {is ut : Addr} (SI : Sta Z Z.heap "sun/nio/cs/ISO_8859_1" "INSTANCE" "Lsun/nio/cs/ISO_8859_1;" (.ref is)) (SU : Sta Z Z.heap "sun/nio/cs/UTF_8" "INSTANCE" "Lsun/nio/cs/UTF_8;" (.ref ut)) (IX : Exa Z Z.heap is "sun/nio/cs/ISO_8859_1") (UX : Exa Z Z.heap ut "sun/nio/cs/UTF_8") {d : Addr} {k : ClassId} {z : Int32} {vs : List Value} (hz : z.toNatClampNeg ≤ 8) {h : Heap} (A : Arv Z h d k .byte z vs (.int 0)) (X : Exa Z h d "[B") {s : Addr} (E : Exa Z h s "java/lang/String") (C : Fld Z h s "java/lang/String" "coder" "B" (.int 0)) (V : Fld Z h s "java/lang/String" "value" "[B" (.ref d)) :
    Con l Z ELc n0 (⟨"java/lang/String", "getBytes", "(Ljava/nio/charset/Charset;)[B"⟩ : MethodName) kb6 2 (Option.some (FieldType.array FieldType.byte)) [] (⟨4, 1, 8, 62⟩ : Room) #[.ref s, .ref is] h [] (fun v h' sf' => ∃ x, v = some (.ref x) ∧ sf' = [x] ∧ Ext h h' ∧ h.size ≤ x ∧ Exa Z h' x "[B" ∧ Arv Z h' x k .byte z vs (.int 0)) := by
  refine con_ofA hB (ls := #[.val (.ref s), .val (.ref is)]) (fun m => by simp [entryFrame, mkF, argsToLocals, Value.category]) ?_
  show Go _ _ _ _ _ _ "java/lang/String" kb6 2 _ "getBytes" _ h [] 0 0 0 #[vr s, vr is] []
  refine go_aloadN d6_0 rfl rfl rfl ?_
  refine go_ifnonnull_t (pt := 12) d6_1 ?_
  refine go_aloadN d6_12 rfl rfl rfl ?_
  refine go_aloadN d6_13 rfl rfl rfl ?_
  refine go_virtual s [] [(.ref is)] 1 d6_14 rfl E (wd hB 47 rfl) (wd hB 48 rfl) (nf_of (wd hB 50 rfl)) (wd hB 50 rfl) (wd hB 49 rfl) (wd hB 6 rfl) (wd hB 51 rfl) (c_coder hB C) (fun _ q => nomatch q) (lenOf pd_7 rfl) rfl rfl rfl (fun v101 h102 s103 q104 => ?_)
  obtain ⟨rfl, rfl, rfl⟩ := q104
  show Go _ _ _ _ _ _ _ _ _ _ _ _ h [] 0 0 17 _ [(.int 0), (.ref is)]
  refine go_aloadN d6_17 rfl rfl rfl ?_
  refine go_getfield d6_18 rfl (wd hB 23 rfl) Via.refl V ?_
  refine go_static [(.ref is), (.int 0), (.ref d)] [] 0 d6_21 rfl (wd hB 53 rfl) (wd hB 54 rfl) (wd hB 6 rfl) (wd hB 55 rfl) (c_en hB SI SU IX UX hz A X) (fun _ q => nomatch q) (lenOf pd_8 rfl) rfl rfl rfl (fun v105 h106 s107 q108 => ?_)
  obtain ⟨x109, rfl, rfl, E110, g111, X112, A113⟩ := q108
  show Go _ _ _ _ _ _ _ _ _ _ _ _ h106 [x109] 1 8 24 _ [(.ref x109)]
  refine go_retA d6_24 [x109] rfl rfl rfl rfl (by decide) (by decide) (allS (List.Mem.head _) (fun _ q => nomatch q)) ?_
  exact ⟨_, rfl, rfl, (ext_of_keep ((Keep.refl h []).ext E110)), g111, X112, A113⟩
set_option maxRecDepth 65536 in
set_option maxHeartbeats 4000000 in
theorem c_gd (hB : Base Z a0) {dc : Addr} (SD : Sta Z Z.heap "java/util/Base64$Decoder" "RFC4648" "Ljava/util/Base64$Decoder;" (.ref dc)) {h : Heap} :
    Con l Z ELc n0 (⟨"java/util/Base64", "getDecoder", "()Ljava/util/Base64$Decoder;"⟩ : MethodName) kb4 0 (Option.some (FieldType.object "java/util/Base64$Decoder")) [] (⟨0, 0, 0, 0⟩ : Room) #[] h [] (fun v h' sf' => v = some (.ref dc) ∧ sf' = [] ∧ h = h') := by
  refine con_ofA hB (ls := #[]) (fun m => by simp [entryFrame, mkF, argsToLocals, Value.category]) ?_
  show Go _ _ _ _ _ _ "java/util/Base64" kb4 0 _ "getDecoder" _ h [] 0 0 0 #[] []
  refine go_getstatic d4_0 rfl (wd hB 33 rfl) Via.refl SD ?_
  refine go_retA d4_3 [] rfl rfl rfl rfl (by decide) (by decide) (fun _ q => nomatch q) ?_
  exact ⟨rfl, rfl, rfl⟩
set_option maxRecDepth 65536 in
set_option maxHeartbeats 4000000 in
theorem c_ge (hB : Base Z a0) {ec : Addr} (SE : Sta Z Z.heap "java/util/Base64$Encoder" "RFC4648" "Ljava/util/Base64$Encoder;" (.ref ec)) {h : Heap} :
    Con l Z ELc n0 (⟨"java/util/Base64", "getEncoder", "()Ljava/util/Base64$Encoder;"⟩ : MethodName) kb15 0 (Option.some (FieldType.object "java/util/Base64$Encoder")) [] (⟨0, 0, 0, 0⟩ : Room) #[] h [] (fun v h' sf' => v = some (.ref ec) ∧ sf' = [] ∧ h = h') := by
  refine con_ofA hB (ls := #[]) (fun m => by simp [entryFrame, mkF, argsToLocals, Value.category]) ?_
  show Go _ _ _ _ _ _ "java/util/Base64" kb15 0 _ "getEncoder" _ h [] 0 0 0 #[] []
  refine go_getstatic d15_0 rfl (wd hB 98 rfl) Via.refl SE ?_
  refine go_retA d15_3 [] rfl rfl rfl rfl (by decide) (by decide) (fun _ q => nomatch q) ?_
  exact ⟨rfl, rfl, rfl⟩
set_option maxRecDepth 65536 in
set_option maxHeartbeats 4000000 in
theorem c_dol_0 (hB : Base Z a0) (b0 b1 b2 b3 b4 b5 : Nat) (hb0 : b0 < 256) (hb1 : b1 < 256) (hb2 : b2 < 256) (hb3 : b3 < 256) (hb4 : b4 < 256) (hb5 : b5 < 256) {dc : Addr} (D0 : IsDec Z dc) {src : Addr} {ks : ClassId} {h : Heap} (A : Arv Z h src ks .byte 0 [] (.int 0)) :
    Con l Z ELc n0 (⟨"java/util/Base64$Decoder", "decodedOutLength", "([BII)I"⟩ : MethodName) kb12 9 (Option.some FieldType.int) [] (⟨0, 0, 0, 0⟩ : Room) #[.ref dc, .ref src, .int 0, .int 0] h [] (fun v h' sf' => v = some (.int 0) ∧ sf' = [] ∧ h = h') := by
  refine con_ofA hB (ls := #[.val (.ref dc), .val (.ref src), .val (.int 0), .val (.int 0), .unset, .unset, .unset, .unset, .unset]) (fun m => by simp [entryFrame, mkF, argsToLocals, Value.category]) ?_
  show Go _ _ _ _ _ _ "java/util/Base64$Decoder" kb12 9 _ "decodedOutLength" _ h [] 0 0 0 #[vr dc, vr src, vi 0, vi 0, .unset, .unset, .unset, .unset, .unset] []
  refine Go.old (fun hOld => ?_)
  obtain ⟨DX, D1, D2⟩ := id D0
  have DXh := Exa.ext hOld.2 DX
  have D1h := Fld.ext hOld.2 D1
  have D2h := Fld.ext hOld.2 D2
  obtain ⟨fb, kf, hSf, hAf⟩ := hB.2.2.2.2.2.2.2.1
  have hAg := hAf.ext hOld.2
  refine go_aloadN d12_0 rfl rfl rfl ?_
  refine go_getfield d12_1 rfl (wd hB 84 rfl) Via.refl D1h ?_
  refine go_if_eq_t (pt := 13) d12_4 (by decide) ?_
  refine go_getstatic d12_13 rfl (wd hB 86 rfl) Via.refl hSf ?_
  refine go_astore d12_16 rfl #[vr dc, vr src, vi 0, vi 0, vr fb, .unset, .unset, .unset, .unset] rfl rfl ?_
  refine go_iconst 0 d12_18 rfl ?_
  refine go_istore d12_19 rfl #[vr dc, vr src, vi 0, vi 0, vr fb, vi 0, .unset, .unset, .unset] rfl ?_
  refine go_iloadN d12_21 rfl rfl ?_
  refine go_iloadN d12_22 rfl rfl ?_
  refine go_isub d12_23 rfl (go_eq (y := 0) (by decide) ?_)
  refine go_istore d12_24 rfl #[vr dc, vr src, vi 0, vi 0, vr fb, vi 0, vi 0, .unset, .unset] rfl ?_
  refine go_iload d12_26 rfl rfl ?_
  refine go_if_ne_f d12_28 rfl (by decide) ?_
  refine go_iconst 0 d12_31 rfl ?_
  refine go_retI d12_32 [] rfl (by decide) (by decide) (fun _ q => nomatch q) ?_
  exact ⟨rfl, rfl, rfl⟩
set_option maxRecDepth 65536 in
set_option maxHeartbeats 4000000 in
theorem c_d0_0 (hB : Base Z a0) (b0 b1 b2 b3 b4 b5 : Nat) (hb0 : b0 < 256) (hb1 : b1 < 256) (hb2 : b2 < 256) (hb3 : b3 < 256) (hb4 : b4 < 256) (hb5 : b5 < 256) {dc : Addr} (D0 : IsDec Z dc) {src dst : Addr} {ks kd : ClassId} (hsd : src ≠ dst) {h : Heap} (A : Arv Z h src ks .byte 0 [] (.int 0)) (B : Arv Z h dst kd .byte 0 [] (.int 0)) :
    Con l Z ELc n0 (⟨"java/util/Base64$Decoder", "decode0", "([BII[B)I"⟩ : MethodName) kb13 11 (Option.some FieldType.int) [] (⟨0, 0, 0, 0⟩ : Room) #[.ref dc, .ref src, .int 0, .int 0, .ref dst] h [dst] (fun v h' sf' => v = some (.int 0) ∧ sf' = [] ∧ Keep h h' [dst] ∧ Arv Z h' dst kd .byte 0 [] (.int 0)) := by
  refine con_ofA hB (ls := #[.val (.ref dc), .val (.ref src), .val (.int 0), .val (.int 0), .val (.ref dst), .unset, .unset, .unset, .unset, .unset, .unset]) (fun m => by simp [entryFrame, mkF, argsToLocals, Value.category]) ?_
  show Go _ _ _ _ _ _ "java/util/Base64$Decoder" kb13 11 _ "decode0" _ h [dst] 0 0 0 #[vr dc, vr src, vi 0, vi 0, vr dst, .unset, .unset, .unset, .unset, .unset, .unset] []
  refine Go.owned (fun hOw => ?_)
  have hge := (hOw dst (List.Mem.head _)).2
  refine Go.old (fun hOld => ?_)
  obtain ⟨DX, D1, D2⟩ := id D0
  have DXh := Exa.ext hOld.2 DX
  have D1h := Fld.ext hOld.2 D1
  have D2h := Fld.ext hOld.2 D2
  obtain ⟨fb, kf, hSf, hAf⟩ := hB.2.2.2.2.2.2.2.1
  have hAg := hAf.ext hOld.2
  refine go_aloadN d13_0 rfl rfl rfl ?_
  refine go_getfield d13_1 rfl (wd hB 84 rfl) Via.refl D1h ?_
  refine go_if_eq_t (pt := 13) d13_4 (by decide) ?_
  refine go_getstatic d13_13 rfl (wd hB 86 rfl) Via.refl hSf ?_
  refine go_astore d13_16 rfl #[vr dc, vr src, vi 0, vi 0, vr dst, vr fb, .unset, .unset, .unset, .unset, .unset] rfl rfl ?_
  refine go_iconst 0 d13_18 rfl ?_
  refine go_istore d13_19 rfl #[vr dc, vr src, vi 0, vi 0, vr dst, vr fb, vi 0, .unset, .unset, .unset, .unset] rfl ?_
  refine go_iconst 0 d13_21 rfl ?_
  refine go_istore d13_22 rfl #[vr dc, vr src, vi 0, vi 0, vr dst, vr fb, vi 0, vi 0, .unset, .unset, .unset] rfl ?_
  refine go_bipush 18 d13_24 rfl ?_
  refine go_istore d13_26 rfl #[vr dc, vr src, vi 0, vi 0, vr dst, vr fb, vi 0, vi 0, vi 18, .unset, .unset] rfl ?_
  refine go_iloadN d13_28 rfl rfl ?_
  refine go_iloadN d13_29 rfl rfl ?_
  refine go_icmp_ge_t (pt := 281) d13_30 (by decide) ?_
  refine go_iload d13_281 rfl rfl ?_
  refine go_bipush 6 d13_283 rfl ?_
  refine go_icmp_ne_t (pt := 305) d13_285 (by decide) ?_
  refine go_iload d13_305 rfl rfl ?_
  refine go_if_ne_t (pt := 341) d13_307 (by decide) ?_
  refine go_iload d13_341 rfl rfl ?_
  refine go_bipush 12 d13_343 rfl ?_
  refine go_icmp_ne_t (pt := 358) d13_345 (by decide) ?_
  refine go_iloadN d13_358 rfl rfl ?_
  refine go_iloadN d13_359 rfl rfl ?_
  refine go_icmp_ge_t (pt := 416) d13_360 (by decide) ?_
  refine go_iload d13_416 rfl rfl ?_
  refine go_retI d13_418 [] rfl (by decide) (by decide) (fun _ q => nomatch q) ?_
  exact ⟨rfl, rfl, (Keep.refl h [dst]), B⟩
set_option maxRecDepth 65536 in
set_option maxHeartbeats 4000000 in
theorem c_da_0 (hB : Base Z a0) (b0 b1 b2 b3 b4 b5 : Nat) (hb0 : b0 < 256) (hb1 : b1 < 256) (hb2 : b2 < 256) (hb3 : b3 < 256) (hb4 : b4 < 256) (hb5 : b5 < 256) {dc : Addr} (D0 : IsDec Z dc) {src : Addr} {ks : ClassId} {h : Heap} (A : Arv Z h src ks .byte 0 [] (.int 0)) :
    Con l Z ELc n0 (⟨"java/util/Base64$Decoder", "decode", "([B)[B"⟩ : MethodName) kb11 4 (Option.some (FieldType.array FieldType.byte)) [] (⟨1, 1, 0, 22⟩ : Room) #[.ref dc, .ref src] h [] (fun v h' sf' => ∃ r kr, v = some (.ref r) ∧ sf' = [] ∧ Ext h h' ∧ h.size ≤ r ∧ Arv Z h' r kr .byte 0 [] (.int 0)) := by
  refine con_ofA hB (ls := #[.val (.ref dc), .val (.ref src), .unset, .unset]) (fun m => by simp [entryFrame, mkF, argsToLocals, Value.category]) ?_
  show Go _ _ _ _ _ _ "java/util/Base64$Decoder" kb11 4 _ "decode" _ h [] 0 0 0 #[vr dc, vr src, .unset, .unset] []
  refine Go.old (fun hOld => ?_)
  obtain ⟨DX, D1, D2⟩ := id D0
  have DXh := Exa.ext hOld.2 DX
  have D1h := Fld.ext hOld.2 D1
  have D2h := Fld.ext hOld.2 D2
  refine go_aloadN d11_0 rfl rfl rfl ?_
  refine go_aloadN d11_1 rfl rfl rfl ?_
  refine go_iconst 0 d11_2 rfl ?_
  refine go_aloadN d11_3 rfl rfl rfl ?_
  refine go_alen d11_4 rfl A ?_
  refine go_virtual dc [(.ref src), (.int 0), (.int 0)] [] 0 d11_5 rfl DXh (wd hB 79 rfl) (declares_of (wd hB 80 rfl) (wd hB 83 rfl)) (nf_of (wd hB 82 rfl)) (wd hB 82 rfl) (wd hB 80 rfl) (wd hB 34 rfl) (wd hB 83 rfl) (c_dol_0 hB b0 b1 b2 b3 b4 b5 hb0 hb1 hb2 hb3 hb4 hb5 D0 A) (fun _ q => nomatch q) (lenOf pd_9 rfl) rfl rfl rfl (fun v101 h102 s103 q104 => ?_)
  obtain ⟨rfl, rfl, rfl⟩ := q104
  show Go _ _ _ _ _ _ _ _ _ _ _ _ h [] 0 0 8 _ [(.int 0)]
  refine go_newarr (ty := .byte) (ad := "[B") 0 d11_8 rfl rfl (wd hB 18 rfl) (by decide) (by decide) (by decide) (by decide) (by decide) (by decide) ?_
  intro h110 x105 hx106 E107 ⟨A108, k109, B111⟩
  have B112 : Arv Z h110 x105 k109 .byte 0 [] (.int 0) := B111.pad (pad_rep [] (.int 0) 0)
  refine go_astoreN d11_10 rfl #[vr dc, vr src, vr x105, .unset] rfl rfl ?_
  refine go_aloadN d11_11 rfl rfl rfl ?_
  refine go_aloadN d11_12 rfl rfl rfl ?_
  refine go_iconst 0 d11_13 rfl ?_
  refine go_aloadN d11_14 rfl rfl rfl ?_
  have F113 := (A.ext E107)
  refine go_alen d11_15 rfl F113 ?_
  refine go_aloadN d11_16 rfl rfl rfl ?_
  have F118 := (Exa.ext E107 DXh)
  refine go_virtual dc [(.ref src), (.int 0), (.int 0), (.ref x105)] [] 0 d11_17 rfl F118 (wd hB 87 rfl) (declares_of (wd hB 88 rfl) (wd hB 91 rfl)) (nf_of (wd hB 90 rfl)) (wd hB 90 rfl) (wd hB 88 rfl) (wd hB 34 rfl) (wd hB 91 rfl) (c_d0_0 hB b0 b1 b2 b3 b4 b5 hb0 hb1 hb2 hb3 hb4 hb5 D0 (Nat.ne_of_lt (Nat.lt_of_lt_of_le A.lt (Nat.le_of_eq hx106.symm))) F113 B112) (allS (List.Mem.head _) (fun _ q => nomatch q)) (lenOf pd_10 rfl) rfl rfl rfl (fun v114 h115 s116 q117 => ?_)
  obtain ⟨rfl, rfl, K119, B120⟩ := q117
  show Go _ _ _ _ _ _ _ _ _ _ _ _ h115 [x105] 1 0 20 _ [(.int 0)]
  refine go_istoreN d11_20 rfl #[vr dc, vr src, vr x105, vi 0] rfl ?_
  refine go_iloadN d11_21 rfl rfl ?_
  refine go_aloadN d11_22 rfl rfl rfl ?_
  refine go_alen d11_23 rfl B120 ?_
  refine go_icmp_eq_t (pt := 33) d11_24 (by decide) ?_
  refine go_aloadN d11_33 rfl rfl rfl ?_
  refine go_retA d11_34 [] rfl rfl rfl rfl (by decide) (by decide) (fun _ q => nomatch q) ?_
  exact ⟨_, _, rfl, rfl, (ext_of_keep (((Keep.refl h []).ext E107).trans K119 (allS (Or.inr (Nat.le_of_eq hx106.symm)) all0))), (Nat.le_of_eq hx106.symm), B120⟩
set_option maxRecDepth 65536 in
set_option maxHeartbeats 4000000 in
theorem c_ds_0 (hB : Base Z a0) (b0 b1 b2 b3 b4 b5 : Nat) (hb0 : b0 < 256) (hb1 : b1 < 256) (hb2 : b2 < 256) (hb3 : b3 < 256) (hb4 : b4 < 256) (hb5 : b5 < 256) {dc : Addr} (D0 : IsDec Z dc) {is ut : Addr} (SI : Sta Z Z.heap "sun/nio/cs/ISO_8859_1" "INSTANCE" "Lsun/nio/cs/ISO_8859_1;" (.ref is)) (SU : Sta Z Z.heap "sun/nio/cs/UTF_8" "INSTANCE" "Lsun/nio/cs/UTF_8;" (.ref ut)) (IX : Exa Z Z.heap is "sun/nio/cs/ISO_8859_1") (UX : Exa Z Z.heap ut "sun/nio/cs/UTF_8") {s d : Addr} {k : ClassId} {h : Heap} (E : Exa Z h s "java/lang/String") (C : Fld Z h s "java/lang/String" "coder" "B" (.int 0)) (V : Fld Z h s "java/lang/String" "value" "[B" (.ref d)) (A : Arv Z h d k .byte 0 [] (.int 0)) (X : Exa Z h d "[B") :
    Con l Z ELc n0 (⟨"java/util/Base64$Decoder", "decode", "(Ljava/lang/String;)[B"⟩ : MethodName) kb5 2 (Option.some (FieldType.array FieldType.byte)) [] (⟨5, 2, 8, 76⟩ : Room) #[.ref dc, .ref s] h [] (fun v h' sf' => ∃ r kr, v = some (.ref r) ∧ sf' = [] ∧ Ext h h' ∧ h.size ≤ r ∧ Arv Z h' r kr .byte 0 [] (.int 0)) := by
  refine con_ofA hB (ls := #[.val (.ref dc), .val (.ref s)]) (fun m => by simp [entryFrame, mkF, argsToLocals, Value.category]) ?_
  show Go _ _ _ _ _ _ "java/util/Base64$Decoder" kb5 2 _ "decode" _ h [] 0 0 0 #[vr dc, vr s] []
  refine Go.old (fun hOld => ?_)
  obtain ⟨DX, D1, D2⟩ := id D0
  have DXh := Exa.ext hOld.2 DX
  have D1h := Fld.ext hOld.2 D1
  have D2h := Fld.ext hOld.2 D2
  have IXh := Exa.ext hOld.2 IX
  have UXh := Exa.ext hOld.2 UX
  refine go_aloadN d5_0 rfl rfl rfl ?_
  refine go_aloadN d5_1 rfl rfl rfl ?_
  refine go_getstatic d5_2 rfl (wd hB 40 rfl) Via.refl SI ?_
  refine go_virtual s [(.ref is)] [(.ref dc)] 1 d5_5 rfl E (wd hB 42 rfl) (wd hB 43 rfl) (nf_of (wd hB 45 rfl)) (wd hB 45 rfl) (wd hB 44 rfl) (wd hB 6 rfl) (wd hB 46 rfl) (c_gb hB SI SU IX UX (by decide) A X E C V) (fun _ q => nomatch q) (lenOf pd_11 rfl) rfl rfl rfl (fun v101 h102 s103 q104 => ?_)
  obtain ⟨x105, rfl, rfl, E106, g107, X108, A109⟩ := q104
  show Go _ _ _ _ _ _ _ _ _ _ _ _ h102 [x105] 1 8 8 _ [(.ref x105), (.ref dc)]
  have F114 := (Exa.ext E106 DXh)
  refine go_virtual dc [(.ref x105)] [] 0 d5_8 rfl F114 (wd hB 74 rfl) (wd hB 75 rfl) (nf_of (wd hB 77 rfl)) (wd hB 77 rfl) (wd hB 76 rfl) (wd hB 34 rfl) (wd hB 78 rfl) (c_da_0 hB b0 b1 b2 b3 b4 b5 hb0 hb1 hb2 hb3 hb4 hb5 D0 A109) (fun _ q => nomatch q) (lenOf pd_12 rfl) rfl rfl rfl (fun v110 h111 s112 q113 => ?_)
  obtain ⟨r115, k116, rfl, rfl, E117, g118, A119⟩ := q113
  show Go _ _ _ _ _ _ _ _ _ _ _ _ h111 [x105] 2 8 11 _ [(.ref r115)]
  refine go_retA d5_11 [] rfl rfl rfl rfl (by decide) (by decide) (fun _ q => nomatch q) ?_
  exact ⟨_, _, rfl, rfl, (ext_of_keep (((Keep.refl h []).ext E106).ext E117)), (Nat.le_trans E106.1 g118), A119⟩
set_option maxRecDepth 65536 in
set_option maxHeartbeats 4000000 in
theorem c_dol_1 (hB : Base Z a0) (b0 b1 b2 b3 b4 b5 : Nat) (hb0 : b0 < 256) (hb1 : b1 < 256) (hb2 : b2 < 256) (hb3 : b3 < 256) (hb4 : b4 < 256) (hb5 : b5 < 256) {dc : Addr} (D0 : IsDec Z dc) {src : Addr} {ks : ClassId} {h : Heap} (A : Arv Z h src ks .byte 4 [(lv (T (X0 b0))), (lv (T (X1 b0 0))), (lv (61 : Int32)), (lv (61 : Int32))] (.int 0)) :
    Con l Z ELc n0 (⟨"java/util/Base64$Decoder", "decodedOutLength", "([BII)I"⟩ : MethodName) kb12 9 (Option.some FieldType.int) [] (⟨0, 0, 0, 0⟩ : Room) #[.ref dc, .ref src, .int 0, .int 4] h [] (fun v h' sf' => v = some (.int 1) ∧ sf' = [] ∧ h = h') := by
  refine con_ofA hB (ls := #[.val (.ref dc), .val (.ref src), .val (.int 0), .val (.int 4), .unset, .unset, .unset, .unset, .unset]) (fun m => by simp [entryFrame, mkF, argsToLocals, Value.category]) ?_
  show Go _ _ _ _ _ _ "java/util/Base64$Decoder" kb12 9 _ "decodedOutLength" _ h [] 0 0 0 #[vr dc, vr src, vi 0, vi 4, .unset, .unset, .unset, .unset, .unset] []
  have lt101 : X0 b0 < 64 := (x0_lt hb0)
  have lt102 : X1 b0 0 < 64 := (x1_lt hb0 (by decide : 0 < 256))
  refine Go.old (fun hOld => ?_)
  obtain ⟨DX, D1, D2⟩ := id D0
  have DXh := Exa.ext hOld.2 DX
  have D1h := Fld.ext hOld.2 D1
  have D2h := Fld.ext hOld.2 D2
  obtain ⟨fb, kf, hSf, hAf⟩ := hB.2.2.2.2.2.2.2.1
  have hAg := hAf.ext hOld.2
  refine go_aloadN d12_0 rfl rfl rfl ?_
  refine go_getfield d12_1 rfl (wd hB 84 rfl) Via.refl D1h ?_
  refine go_if_eq_t (pt := 13) d12_4 (by decide) ?_
  refine go_getstatic d12_13 rfl (wd hB 86 rfl) Via.refl hSf ?_
  refine go_astore d12_16 rfl #[vr dc, vr src, vi 0, vi 4, vr fb, .unset, .unset, .unset, .unset] rfl rfl ?_
  refine go_iconst 0 d12_18 rfl ?_
  refine go_istore d12_19 rfl #[vr dc, vr src, vi 0, vi 4, vr fb, vi 0, .unset, .unset, .unset] rfl ?_
  refine go_iloadN d12_21 rfl rfl ?_
  refine go_iloadN d12_22 rfl rfl ?_
  refine go_isub d12_23 rfl (go_eq (y := 4) (by decide) ?_)
  refine go_istore d12_24 rfl #[vr dc, vr src, vi 0, vi 4, vr fb, vi 0, vi 4, .unset, .unset] rfl ?_
  refine go_iload d12_26 rfl rfl ?_
  refine go_if_ne_t (pt := 33) d12_28 (by decide) ?_
  refine go_iload d12_33 rfl rfl ?_
  refine go_iconst 2 d12_35 rfl ?_
  refine go_icmp_ge_t (pt := 66) d12_36 (by decide) ?_
  refine go_aloadN d12_66 rfl rfl rfl ?_
  refine go_getfield d12_67 rfl (wd hB 176 rfl) Via.refl D2h ?_
  refine go_if_eq_t (pt := 141) d12_70 (by decide) ?_
  refine go_aloadN d12_141 rfl rfl rfl ?_
  refine go_iloadN d12_142 rfl rfl ?_
  refine go_iconst 1 d12_143 rfl ?_
  refine go_isub d12_144 rfl (go_eq (y := 3) (by decide) ?_)
  refine go_baload (v := (.int ((61 : Int32).toInt8.toInt32))) 3 d12_145 rfl A ⟨by decide, by decide⟩ (by decide) rfl ?_
  refine go_bipush 61 d12_146 rfl ?_
  refine go_icmp_ne_f d12_148 rfl (by decide) ?_
  refine go_iincV 1 1 d12_151 rfl #[vr dc, vr src, vi 0, vi 4, vr fb, vi 1, vi 4, .unset, .unset] (by decide) rfl (by decide) rfl ?_
  refine go_aloadN d12_154 rfl rfl rfl ?_
  refine go_iloadN d12_155 rfl rfl ?_
  refine go_iconst 2 d12_156 rfl ?_
  refine go_isub d12_157 rfl (go_eq (y := 2) (by decide) ?_)
  refine go_baload (v := (.int ((61 : Int32).toInt8.toInt32))) 2 d12_158 rfl A ⟨by decide, by decide⟩ (by decide) rfl ?_
  refine go_bipush 61 d12_159 rfl ?_
  refine go_icmp_ne_f d12_161 rfl (by decide) ?_
  refine go_iincV 1 2 d12_164 rfl #[vr dc, vr src, vi 0, vi 4, vr fb, vi 2, vi 4, .unset, .unset] (by decide) rfl (by decide) rfl ?_
  refine go_iload d12_167 rfl rfl ?_
  refine go_if_ne_t (pt := 187) d12_169 (by decide) ?_
  refine go_iconst 3 d12_187 rfl ?_
  refine go_iload d12_188 rfl rfl ?_
  refine go_i2l d12_190 rfl (go_eqL (y := 4) (by decide) ?_)
  refine go_ldc2J d12_191 rfl (wd hB 178 rfl) ?_
  refine go_ladd d12_194 rfl (go_eqL (y := 7) (by decide) ?_)
  refine go_ldc2J d12_195 rfl (wd hB 179 rfl) ?_
  refine go_ldiv d12_198 rfl (by decide) (go_eqL (y := 1) (by decide) ?_)
  refine go_l2i d12_199 rfl (go_eq (y := 1) (by decide) ?_)
  refine go_imul d12_200 rfl (go_eq (y := 3) (by decide) ?_)
  refine go_iload d12_201 rfl rfl ?_
  refine go_isub d12_203 rfl (go_eq (y := 1) (by decide) ?_)
  refine go_retI d12_204 [] rfl (by decide) (by decide) (fun _ q => nomatch q) ?_
  exact ⟨rfl, rfl, rfl⟩
set_option maxRecDepth 65536 in
set_option maxHeartbeats 4000000 in
theorem c_d0_1 (hB : Base Z a0) (b0 b1 b2 b3 b4 b5 : Nat) (hb0 : b0 < 256) (hb1 : b1 < 256) (hb2 : b2 < 256) (hb3 : b3 < 256) (hb4 : b4 < 256) (hb5 : b5 < 256) {dc : Addr} (D0 : IsDec Z dc) {src dst : Addr} {ks kd : ClassId} (hsd : src ≠ dst) {h : Heap} (A : Arv Z h src ks .byte 4 [(lv (T (X0 b0))), (lv (T (X1 b0 0))), (lv (61 : Int32)), (lv (61 : Int32))] (.int 0)) (B : Arv Z h dst kd .byte 1 [(.int 0)] (.int 0)) :
    Con l Z ELc n0 (⟨"java/util/Base64$Decoder", "decode0", "([BII[B)I"⟩ : MethodName) kb13 11 (Option.some FieldType.int) [] (⟨0, 0, 0, 0⟩ : Room) #[.ref dc, .ref src, .int 0, .int 4, .ref dst] h [dst] (fun v h' sf' => v = some (.int 1) ∧ sf' = [] ∧ Keep h h' [dst] ∧ Arv Z h' dst kd .byte 1 [(lv (Int32.ofNat b0))] (.int 0)) := by
  refine con_ofA hB (ls := #[.val (.ref dc), .val (.ref src), .val (.int 0), .val (.int 4), .val (.ref dst), .unset, .unset, .unset, .unset, .unset, .unset]) (fun m => by simp [entryFrame, mkF, argsToLocals, Value.category]) ?_
  show Go _ _ _ _ _ _ "java/util/Base64$Decoder" kb13 11 _ "decode0" _ h [dst] 0 0 0 #[vr dc, vr src, vi 0, vi 4, vr dst, .unset, .unset, .unset, .unset, .unset, .unset] []
  have lt101 : X0 b0 < 64 := (x0_lt hb0)
  have lt102 : X1 b0 0 < 64 := (x1_lt hb0 (by decide : 0 < 256))
  refine Go.owned (fun hOw => ?_)
  have hge := (hOw dst (List.Mem.head _)).2
  refine Go.old (fun hOld => ?_)
  obtain ⟨DX, D1, D2⟩ := id D0
  have DXh := Exa.ext hOld.2 DX
  have D1h := Fld.ext hOld.2 D1
  have D2h := Fld.ext hOld.2 D2
  obtain ⟨fb, kf, hSf, hAf⟩ := hB.2.2.2.2.2.2.2.1
  have hAg := hAf.ext hOld.2
  refine go_aloadN d13_0 rfl rfl rfl ?_
  refine go_getfield d13_1 rfl (wd hB 84 rfl) Via.refl D1h ?_
  refine go_if_eq_t (pt := 13) d13_4 (by decide) ?_
  refine go_getstatic d13_13 rfl (wd hB 86 rfl) Via.refl hSf ?_
  refine go_astore d13_16 rfl #[vr dc, vr src, vi 0, vi 4, vr dst, vr fb, .unset, .unset, .unset, .unset, .unset] rfl rfl ?_
  refine go_iconst 0 d13_18 rfl ?_
  refine go_istore d13_19 rfl #[vr dc, vr src, vi 0, vi 4, vr dst, vr fb, vi 0, .unset, .unset, .unset, .unset] rfl ?_
  refine go_iconst 0 d13_21 rfl ?_
  refine go_istore d13_22 rfl #[vr dc, vr src, vi 0, vi 4, vr dst, vr fb, vi 0, vi 0, .unset, .unset, .unset] rfl ?_
  refine go_bipush 18 d13_24 rfl ?_
  refine go_istore d13_26 rfl #[vr dc, vr src, vi 0, vi 4, vr dst, vr fb, vi 0, vi 0, vi 18, .unset, .unset] rfl ?_
  refine go_iloadN d13_28 rfl rfl ?_
  refine go_iloadN d13_29 rfl rfl ?_
  refine go_icmp_ge_f d13_30 rfl (by decide) ?_
  refine go_iload d13_33 rfl rfl ?_
  refine go_bipush 18 d13_35 rfl ?_
  refine go_icmp_ne_f d13_37 rfl (by decide) ?_
  refine go_iloadN d13_40 rfl rfl ?_
  refine go_iloadN d13_41 rfl rfl ?_
  refine go_iconst 4 d13_42 rfl ?_
  refine go_isub d13_43 rfl (go_eq (y := 0) (by decide) ?_)
  refine go_icmp_ge_t (pt := 90) d13_44 (by decide) ?_
  refine go_iloadN d13_90 rfl rfl ?_
  refine go_iloadN d13_91 rfl rfl ?_
  refine go_icmp_lt_t (pt := 98) d13_92 (by decide) ?_
  refine go_aloadN d13_98 rfl rfl rfl ?_
  refine go_iloadN d13_99 rfl rfl ?_
  refine go_iincV 1 1 d13_100 rfl #[vr dc, vr src, vi 1, vi 4, vr dst, vr fb, vi 0, vi 0, vi 18, .unset, .unset] (by decide) rfl (by decide) rfl ?_
  refine go_baload (v := (.int ((T (X0 b0)).toInt8.toInt32))) 0 d13_103 rfl A ⟨by decide, by decide⟩ (by decide) rfl ?_
  refine go_sipush 255 d13_104 rfl ?_
  refine go_iand d13_107 rfl (go_eq (y := T (X0 b0)) (T_isC lt101).back ?_)
  refine go_istore d13_108 rfl #[vr dc, vr src, vi 1, vi 4, vr dst, vr fb, vi 0, vi 0, vi 18, vi (T (X0 b0)), .unset] rfl ?_
  refine go_aload d13_110 rfl rfl rfl ?_
  refine go_iload d13_112 rfl rfl ?_
  refine go_iaload (v := (.int (Int32.ofNat (X0 b0)))) (tbN (X0 b0)) d13_114 rfl hAg (T_in lt101) (T_cl lt101) (fb_at lt101) ?_
  refine go_dup d13_115 rfl rfl ?_
  refine go_istore d13_116 rfl #[vr dc, vr src, vi 1, vi 4, vr dst, vr fb, vi 0, vi 0, vi 18, vi (Int32.ofNat (X0 b0)), .unset] rfl ?_
  refine go_if_ge_t (pt := 214) d13_118 (ofN_nneg (by omega)) ?_
  refine go_iload d13_214 rfl rfl ?_
  refine go_iload d13_216 rfl rfl ?_
  refine go_iload d13_218 rfl rfl ?_
  refine go_ishl d13_220 rfl (go_eq (y := Int32.ofNat (X0 b0 * 262144)) (shlE (k := 18) (by decide) (by decide) (by omega) rfl (by omega)) ?_)
  refine go_ior d13_221 rfl (go_eq (y := Int32.ofNat (X0 b0 * 262144)) Int32.zero_or ?_)
  refine go_istore d13_222 rfl #[vr dc, vr src, vi 1, vi 4, vr dst, vr fb, vi 0, vi (Int32.ofNat (X0 b0 * 262144)), vi 18, vi (Int32.ofNat (X0 b0)), .unset] rfl ?_
  refine go_iincV (-6) 12 d13_224 rfl #[vr dc, vr src, vi 1, vi 4, vr dst, vr fb, vi 0, vi (Int32.ofNat (X0 b0 * 262144)), vi 12, vi (Int32.ofNat (X0 b0)), .unset] (by decide) rfl (by decide) rfl ?_
  refine go_iload d13_227 rfl rfl ?_
  refine go_if_ge_t (pt := 278) d13_229 (by decide) ?_
  refine go_goto (pt := 28) d13_278 ?_
  refine go_iloadN d13_28 rfl rfl ?_
  refine go_iloadN d13_29 rfl rfl ?_
  refine go_icmp_ge_f d13_30 rfl (by decide) ?_
  refine go_iload d13_33 rfl rfl ?_
  refine go_bipush 18 d13_35 rfl ?_
  refine go_icmp_ne_t (pt := 90) d13_37 (by decide) ?_
  refine go_iloadN d13_90 rfl rfl ?_
  refine go_iloadN d13_91 rfl rfl ?_
  refine go_icmp_lt_t (pt := 98) d13_92 (by decide) ?_
  refine go_aloadN d13_98 rfl rfl rfl ?_
  refine go_iloadN d13_99 rfl rfl ?_
  refine go_iincV 1 2 d13_100 rfl #[vr dc, vr src, vi 2, vi 4, vr dst, vr fb, vi 0, vi (Int32.ofNat (X0 b0 * 262144)), vi 12, vi (Int32.ofNat (X0 b0)), .unset] (by decide) rfl (by decide) rfl ?_
  refine go_baload (v := (.int ((T (X1 b0 0)).toInt8.toInt32))) 1 d13_103 rfl A ⟨by decide, by decide⟩ (by decide) rfl ?_
  refine go_sipush 255 d13_104 rfl ?_
  refine go_iand d13_107 rfl (go_eq (y := T (X1 b0 0)) (T_isC lt102).back ?_)
  refine go_istore d13_108 rfl #[vr dc, vr src, vi 2, vi 4, vr dst, vr fb, vi 0, vi (Int32.ofNat (X0 b0 * 262144)), vi 12, vi (T (X1 b0 0)), .unset] rfl ?_
  refine go_aload d13_110 rfl rfl rfl ?_
  refine go_iload d13_112 rfl rfl ?_
  refine go_iaload (v := (.int (Int32.ofNat (X1 b0 0)))) (tbN (X1 b0 0)) d13_114 rfl hAg (T_in lt102) (T_cl lt102) (fb_at lt102) ?_
  refine go_dup d13_115 rfl rfl ?_
  refine go_istore d13_116 rfl #[vr dc, vr src, vi 2, vi 4, vr dst, vr fb, vi 0, vi (Int32.ofNat (X0 b0 * 262144)), vi 12, vi (Int32.ofNat (X1 b0 0)), .unset] rfl ?_
  refine go_if_ge_t (pt := 214) d13_118 (ofN_nneg (by omega)) ?_
  refine go_iload d13_214 rfl rfl ?_
  refine go_iload d13_216 rfl rfl ?_
  refine go_iload d13_218 rfl rfl ?_
  refine go_ishl d13_220 rfl (go_eq (y := Int32.ofNat (X1 b0 0 * 4096)) (shlE (k := 12) (by decide) (by decide) (by omega) rfl (by omega)) ?_)
  refine go_ior d13_221 rfl (go_eq (y := Int32.ofNat (X0 b0 * 262144 + X1 b0 0 * 4096)) (orE (k := 18) (by omega) (by omega) rfl (by omega)) ?_)
  refine go_istore d13_222 rfl #[vr dc, vr src, vi 2, vi 4, vr dst, vr fb, vi 0, vi (Int32.ofNat (X0 b0 * 262144 + X1 b0 0 * 4096)), vi 12, vi (Int32.ofNat (X1 b0 0)), .unset] rfl ?_
  refine go_iincV (-6) 6 d13_224 rfl #[vr dc, vr src, vi 2, vi 4, vr dst, vr fb, vi 0, vi (Int32.ofNat (X0 b0 * 262144 + X1 b0 0 * 4096)), vi 6, vi (Int32.ofNat (X1 b0 0)), .unset] (by decide) rfl (by decide) rfl ?_
  refine go_iload d13_227 rfl rfl ?_
  refine go_if_ge_t (pt := 278) d13_229 (by decide) ?_
  refine go_goto (pt := 28) d13_278 ?_
  refine go_iloadN d13_28 rfl rfl ?_
  refine go_iloadN d13_29 rfl rfl ?_
  refine go_icmp_ge_f d13_30 rfl (by decide) ?_
  refine go_iload d13_33 rfl rfl ?_
  refine go_bipush 18 d13_35 rfl ?_
  refine go_icmp_ne_t (pt := 90) d13_37 (by decide) ?_
  refine go_iloadN d13_90 rfl rfl ?_
  refine go_iloadN d13_91 rfl rfl ?_
  refine go_icmp_lt_t (pt := 98) d13_92 (by decide) ?_
  refine go_aloadN d13_98 rfl rfl rfl ?_
  refine go_iloadN d13_99 rfl rfl ?_
  refine go_iincV 1 3 d13_100 rfl #[vr dc, vr src, vi 3, vi 4, vr dst, vr fb, vi 0, vi (Int32.ofNat (X0 b0 * 262144 + X1 b0 0 * 4096)), vi 6, vi (Int32.ofNat (X1 b0 0)), .unset] (by decide) rfl (by decide) rfl ?_
  refine go_baload (v := (.int ((61 : Int32).toInt8.toInt32))) 2 d13_103 rfl A ⟨by decide, by decide⟩ (by decide) rfl ?_
  refine go_sipush 255 d13_104 rfl ?_
  refine go_iand d13_107 rfl (go_eq (y := 61) (by decide) ?_)
  refine go_istore d13_108 rfl #[vr dc, vr src, vi 3, vi 4, vr dst, vr fb, vi 0, vi (Int32.ofNat (X0 b0 * 262144 + X1 b0 0 * 4096)), vi 6, vi 61, .unset] rfl ?_
  refine go_aload d13_110 rfl rfl rfl ?_
  refine go_iload d13_112 rfl rfl ?_
  refine go_iaload (v := (.int (-2))) 61 d13_114 rfl hAg ⟨by decide, by decide⟩ (by decide) fb_eq ?_
  refine go_dup d13_115 rfl rfl ?_
  refine go_istore d13_116 rfl #[vr dc, vr src, vi 3, vi 4, vr dst, vr fb, vi 0, vi (Int32.ofNat (X0 b0 * 262144 + X1 b0 0 * 4096)), vi 6, vi (-2), .unset] rfl ?_
  refine go_if_ge_f d13_118 rfl (by decide) ?_
  refine go_iload d13_121 rfl rfl ?_
  refine go_bipush (-2) d13_123 rfl ?_
  refine go_icmp_ne_f d13_125 rfl (by decide) ?_
  refine go_iload d13_128 rfl rfl ?_
  refine go_bipush 6 d13_130 rfl ?_
  refine go_icmp_ne_f d13_132 rfl (by decide) ?_
  refine go_iloadN d13_135 rfl rfl ?_
  refine go_iloadN d13_136 rfl rfl ?_
  refine go_icmp_eq_f d13_137 rfl (by decide) ?_
  refine go_aloadN d13_140 rfl rfl rfl ?_
  refine go_iloadN d13_141 rfl rfl ?_
  refine go_iincV 1 4 d13_142 rfl #[vr dc, vr src, vi 4, vi 4, vr dst, vr fb, vi 0, vi (Int32.ofNat (X0 b0 * 262144 + X1 b0 0 * 4096)), vi 6, vi (-2), .unset] (by decide) rfl (by decide) rfl ?_
  refine go_baload (v := (.int ((61 : Int32).toInt8.toInt32))) 3 d13_145 rfl A ⟨by decide, by decide⟩ (by decide) rfl ?_
  refine go_bipush 61 d13_146 rfl ?_
  refine go_icmp_ne_f d13_148 rfl (by decide) ?_
  refine go_iload d13_151 rfl rfl ?_
  refine go_bipush 18 d13_153 rfl ?_
  refine go_icmp_ne_t (pt := 281) d13_155 (by decide) ?_
  refine go_iload d13_281 rfl rfl ?_
  refine go_bipush 6 d13_283 rfl ?_
  refine go_icmp_ne_f d13_285 rfl (by decide) ?_
  refine go_aload d13_288 rfl rfl rfl ?_
  refine go_iload d13_290 rfl rfl ?_
  refine go_iincV 1 1 d13_292 rfl #[vr dc, vr src, vi 4, vi 4, vr dst, vr fb, vi 1, vi (Int32.ofNat (X0 b0 * 262144 + X1 b0 0 * 4096)), vi 6, vi (-2), .unset] (by decide) rfl (by decide) rfl ?_
  refine go_iload d13_295 rfl rfl ?_
  refine go_bipush 16 d13_297 rfl ?_
  refine go_ishr d13_299 rfl (go_eq (y := Int32.ofNat ((X0 b0 * 262144 + X1 b0 0 * 4096) / 65536)) (shrE (k := 16) (by decide) (by decide) (by omega) rfl) ?_)
  refine go_i2b d13_300 rfl (go_eq (y := (Int32.ofNat b0).toInt8.toInt32) (by8 (by simp only [X0, X1, X2, X3] <;> omega)) ?_)
  refine go_bastoreV 0 ((Int32.ofNat b0).toInt8.toInt32) d13_301 rfl (i8i8 _) B ⟨by decide, by decide⟩ (by decide) (by show 0 < 1; decide) (List.Mem.head _) ?_
  intro h103 W104 B105
  have B106 : Arv Z h103 dst kd .byte 1 [(lv (Int32.ofNat b0))] (.int 0) := B105
  refine go_goto (pt := 358) d13_302 ?_
  refine go_iloadN d13_358 rfl rfl ?_
  refine go_iloadN d13_359 rfl rfl ?_
  refine go_icmp_ge_t (pt := 416) d13_360 (by decide) ?_
  refine go_iload d13_416 rfl rfl ?_
  refine go_retI d13_418 [] rfl (by decide) (by decide) (fun _ q => nomatch q) ?_
  exact ⟨rfl, rfl, ((Keep.refl h [dst]).wr W104 (Or.inl (List.Mem.head _))), B106⟩
set_option maxRecDepth 65536 in
set_option maxHeartbeats 4000000 in
theorem c_da_1 (hB : Base Z a0) (b0 b1 b2 b3 b4 b5 : Nat) (hb0 : b0 < 256) (hb1 : b1 < 256) (hb2 : b2 < 256) (hb3 : b3 < 256) (hb4 : b4 < 256) (hb5 : b5 < 256) {dc : Addr} (D0 : IsDec Z dc) {src : Addr} {ks : ClassId} {h : Heap} (A : Arv Z h src ks .byte 4 [(lv (T (X0 b0))), (lv (T (X1 b0 0))), (lv (61 : Int32)), (lv (61 : Int32))] (.int 0)) :
    Con l Z ELc n0 (⟨"java/util/Base64$Decoder", "decode", "([B)[B"⟩ : MethodName) kb11 4 (Option.some (FieldType.array FieldType.byte)) [] (⟨1, 1, 1, 22⟩ : Room) #[.ref dc, .ref src] h [] (fun v h' sf' => ∃ r kr, v = some (.ref r) ∧ sf' = [] ∧ Ext h h' ∧ h.size ≤ r ∧ Arv Z h' r kr .byte 1 [(lv (Int32.ofNat b0))] (.int 0)) := by
  refine con_ofA hB (ls := #[.val (.ref dc), .val (.ref src), .unset, .unset]) (fun m => by simp [entryFrame, mkF, argsToLocals, Value.category]) ?_
  show Go _ _ _ _ _ _ "java/util/Base64$Decoder" kb11 4 _ "decode" _ h [] 0 0 0 #[vr dc, vr src, .unset, .unset] []
  refine Go.old (fun hOld => ?_)
  obtain ⟨DX, D1, D2⟩ := id D0
  have DXh := Exa.ext hOld.2 DX
  have D1h := Fld.ext hOld.2 D1
  have D2h := Fld.ext hOld.2 D2
  refine go_aloadN d11_0 rfl rfl rfl ?_
  refine go_aloadN d11_1 rfl rfl rfl ?_
  refine go_iconst 0 d11_2 rfl ?_
  refine go_aloadN d11_3 rfl rfl rfl ?_
  refine go_alen d11_4 rfl A ?_
  refine go_virtual dc [(.ref src), (.int 0), (.int 4)] [] 0 d11_5 rfl DXh (wd hB 79 rfl) (declares_of (wd hB 80 rfl) (wd hB 83 rfl)) (nf_of (wd hB 82 rfl)) (wd hB 82 rfl) (wd hB 80 rfl) (wd hB 34 rfl) (wd hB 83 rfl) (c_dol_1 hB b0 b1 b2 b3 b4 b5 hb0 hb1 hb2 hb3 hb4 hb5 D0 A) (fun _ q => nomatch q) (lenOf pd_9 rfl) rfl rfl rfl (fun v101 h102 s103 q104 => ?_)
  obtain ⟨rfl, rfl, rfl⟩ := q104
  show Go _ _ _ _ _ _ _ _ _ _ _ _ h [] 0 0 8 _ [(.int 1)]
  refine go_newarr (ty := .byte) (ad := "[B") 1 d11_8 rfl rfl (wd hB 18 rfl) (by decide) (by decide) (by decide) (by decide) (by decide) (by decide) ?_
  intro h110 x105 hx106 E107 ⟨A108, k109, B111⟩
  have B112 : Arv Z h110 x105 k109 .byte 1 [(.int 0)] (.int 0) := B111.pad (pad_rep [] (.int 0) 1)
  refine go_astoreN d11_10 rfl #[vr dc, vr src, vr x105, .unset] rfl rfl ?_
  refine go_aloadN d11_11 rfl rfl rfl ?_
  refine go_aloadN d11_12 rfl rfl rfl ?_
  refine go_iconst 0 d11_13 rfl ?_
  refine go_aloadN d11_14 rfl rfl rfl ?_
  have F113 := (A.ext E107)
  refine go_alen d11_15 rfl F113 ?_
  refine go_aloadN d11_16 rfl rfl rfl ?_
  have F118 := (Exa.ext E107 DXh)
  refine go_virtual dc [(.ref src), (.int 0), (.int 4), (.ref x105)] [] 0 d11_17 rfl F118 (wd hB 87 rfl) (declares_of (wd hB 88 rfl) (wd hB 91 rfl)) (nf_of (wd hB 90 rfl)) (wd hB 90 rfl) (wd hB 88 rfl) (wd hB 34 rfl) (wd hB 91 rfl) (c_d0_1 hB b0 b1 b2 b3 b4 b5 hb0 hb1 hb2 hb3 hb4 hb5 D0 (Nat.ne_of_lt (Nat.lt_of_lt_of_le A.lt (Nat.le_of_eq hx106.symm))) F113 B112) (allS (List.Mem.head _) (fun _ q => nomatch q)) (lenOf pd_10 rfl) rfl rfl rfl (fun v114 h115 s116 q117 => ?_)
  obtain ⟨rfl, rfl, K119, B120⟩ := q117
  show Go _ _ _ _ _ _ _ _ _ _ _ _ h115 [x105] 1 1 20 _ [(.int 1)]
  refine go_istoreN d11_20 rfl #[vr dc, vr src, vr x105, vi 1] rfl ?_
  refine go_iloadN d11_21 rfl rfl ?_
  refine go_aloadN d11_22 rfl rfl rfl ?_
  refine go_alen d11_23 rfl B120 ?_
  refine go_icmp_eq_t (pt := 33) d11_24 (by decide) ?_
  refine go_aloadN d11_33 rfl rfl rfl ?_
  refine go_retA d11_34 [] rfl rfl rfl rfl (by decide) (by decide) (fun _ q => nomatch q) ?_
  exact ⟨_, _, rfl, rfl, (ext_of_keep (((Keep.refl h []).ext E107).trans K119 (allS (Or.inr (Nat.le_of_eq hx106.symm)) all0))), (Nat.le_of_eq hx106.symm), B120⟩
set_option maxRecDepth 65536 in
set_option maxHeartbeats 4000000 in
theorem c_ds_1 (hB : Base Z a0) (b0 b1 b2 b3 b4 b5 : Nat) (hb0 : b0 < 256) (hb1 : b1 < 256) (hb2 : b2 < 256) (hb3 : b3 < 256) (hb4 : b4 < 256) (hb5 : b5 < 256) {dc : Addr} (D0 : IsDec Z dc) {is ut : Addr} (SI : Sta Z Z.heap "sun/nio/cs/ISO_8859_1" "INSTANCE" "Lsun/nio/cs/ISO_8859_1;" (.ref is)) (SU : Sta Z Z.heap "sun/nio/cs/UTF_8" "INSTANCE" "Lsun/nio/cs/UTF_8;" (.ref ut)) (IX : Exa Z Z.heap is "sun/nio/cs/ISO_8859_1") (UX : Exa Z Z.heap ut "sun/nio/cs/UTF_8") {s d : Addr} {k : ClassId} {h : Heap} (E : Exa Z h s "java/lang/String") (C : Fld Z h s "java/lang/String" "coder" "B" (.int 0)) (V : Fld Z h s "java/lang/String" "value" "[B" (.ref d)) (A : Arv Z h d k .byte 4 [(lv (T (X0 b0))), (lv (T (X1 b0 0))), (lv (61 : Int32)), (lv (61 : Int32))] (.int 0)) (X : Exa Z h d "[B") :
    Con l Z ELc n0 (⟨"java/util/Base64$Decoder", "decode", "(Ljava/lang/String;)[B"⟩ : MethodName) kb5 2 (Option.some (FieldType.array FieldType.byte)) [] (⟨5, 2, 9, 76⟩ : Room) #[.ref dc, .ref s] h [] (fun v h' sf' => ∃ r kr, v = some (.ref r) ∧ sf' = [] ∧ Ext h h' ∧ h.size ≤ r ∧ Arv Z h' r kr .byte 1 [(lv (Int32.ofNat b0))] (.int 0)) := by
  refine con_ofA hB (ls := #[.val (.ref dc), .val (.ref s)]) (fun m => by simp [entryFrame, mkF, argsToLocals, Value.category]) ?_
  show Go _ _ _ _ _ _ "java/util/Base64$Decoder" kb5 2 _ "decode" _ h [] 0 0 0 #[vr dc, vr s] []
  refine Go.old (fun hOld => ?_)
  obtain ⟨DX, D1, D2⟩ := id D0
  have DXh := Exa.ext hOld.2 DX
  have D1h := Fld.ext hOld.2 D1
  have D2h := Fld.ext hOld.2 D2
  have IXh := Exa.ext hOld.2 IX
  have UXh := Exa.ext hOld.2 UX
  refine go_aloadN d5_0 rfl rfl rfl ?_
  refine go_aloadN d5_1 rfl rfl rfl ?_
  refine go_getstatic d5_2 rfl (wd hB 40 rfl) Via.refl SI ?_
  refine go_virtual s [(.ref is)] [(.ref dc)] 1 d5_5 rfl E (wd hB 42 rfl) (wd hB 43 rfl) (nf_of (wd hB 45 rfl)) (wd hB 45 rfl) (wd hB 44 rfl) (wd hB 6 rfl) (wd hB 46 rfl) (c_gb hB SI SU IX UX (by decide) A X E C V) (fun _ q => nomatch q) (lenOf pd_11 rfl) rfl rfl rfl (fun v101 h102 s103 q104 => ?_)
  obtain ⟨x105, rfl, rfl, E106, g107, X108, A109⟩ := q104
  show Go _ _ _ _ _ _ _ _ _ _ _ _ h102 [x105] 1 8 8 _ [(.ref x105), (.ref dc)]
  have F114 := (Exa.ext E106 DXh)
  refine go_virtual dc [(.ref x105)] [] 0 d5_8 rfl F114 (wd hB 74 rfl) (wd hB 75 rfl) (nf_of (wd hB 77 rfl)) (wd hB 77 rfl) (wd hB 76 rfl) (wd hB 34 rfl) (wd hB 78 rfl) (c_da_1 hB b0 b1 b2 b3 b4 b5 hb0 hb1 hb2 hb3 hb4 hb5 D0 A109) (fun _ q => nomatch q) (lenOf pd_12 rfl) rfl rfl rfl (fun v110 h111 s112 q113 => ?_)
  obtain ⟨r115, k116, rfl, rfl, E117, g118, A119⟩ := q113
  show Go _ _ _ _ _ _ _ _ _ _ _ _ h111 [x105] 2 9 11 _ [(.ref r115)]
  refine go_retA d5_11 [] rfl rfl rfl rfl (by decide) (by decide) (fun _ q => nomatch q) ?_
  exact ⟨_, _, rfl, rfl, (ext_of_keep (((Keep.refl h []).ext E106).ext E117)), (Nat.le_trans E106.1 g118), A119⟩
set_option maxRecDepth 65536 in
set_option maxHeartbeats 4000000 in
theorem c_dol_2 (hB : Base Z a0) (b0 b1 b2 b3 b4 b5 : Nat) (hb0 : b0 < 256) (hb1 : b1 < 256) (hb2 : b2 < 256) (hb3 : b3 < 256) (hb4 : b4 < 256) (hb5 : b5 < 256) {dc : Addr} (D0 : IsDec Z dc) {src : Addr} {ks : ClassId} {h : Heap} (A : Arv Z h src ks .byte 4 [(lv (T (X0 b0))), (lv (T (X1 b0 b1))), (lv (T (X2 b1 0))), (lv (61 : Int32))] (.int 0)) :
    Con l Z ELc n0 (⟨"java/util/Base64$Decoder", "decodedOutLength", "([BII)I"⟩ : MethodName) kb12 9 (Option.some FieldType.int) [] (⟨0, 0, 0, 0⟩ : Room) #[.ref dc, .ref src, .int 0, .int 4] h [] (fun v h' sf' => v = some (.int 2) ∧ sf' = [] ∧ h = h') := by
  refine con_ofA hB (ls := #[.val (.ref dc), .val (.ref src), .val (.int 0), .val (.int 4), .unset, .unset, .unset, .unset, .unset]) (fun m => by simp [entryFrame, mkF, argsToLocals, Value.category]) ?_
  show Go _ _ _ _ _ _ "java/util/Base64$Decoder" kb12 9 _ "decodedOutLength" _ h [] 0 0 0 #[vr dc, vr src, vi 0, vi 4, .unset, .unset, .unset, .unset, .unset] []
  have lt101 : X0 b0 < 64 := (x0_lt hb0)
  have lt102 : X1 b0 b1 < 64 := (x1_lt hb0 hb1)
  have lt103 : X2 b1 0 < 64 := (x2_lt hb1 (by decide : 0 < 256))
  refine Go.old (fun hOld => ?_)
  obtain ⟨DX, D1, D2⟩ := id D0
  have DXh := Exa.ext hOld.2 DX
  have D1h := Fld.ext hOld.2 D1
  have D2h := Fld.ext hOld.2 D2
  obtain ⟨fb, kf, hSf, hAf⟩ := hB.2.2.2.2.2.2.2.1
  have hAg := hAf.ext hOld.2
  refine go_aloadN d12_0 rfl rfl rfl ?_
  refine go_getfield d12_1 rfl (wd hB 84 rfl) Via.refl D1h ?_
  refine go_if_eq_t (pt := 13) d12_4 (by decide) ?_
  refine go_getstatic d12_13 rfl (wd hB 86 rfl) Via.refl hSf ?_
  refine go_astore d12_16 rfl #[vr dc, vr src, vi 0, vi 4, vr fb, .unset, .unset, .unset, .unset] rfl rfl ?_
  refine go_iconst 0 d12_18 rfl ?_
  refine go_istore d12_19 rfl #[vr dc, vr src, vi 0, vi 4, vr fb, vi 0, .unset, .unset, .unset] rfl ?_
  refine go_iloadN d12_21 rfl rfl ?_
  refine go_iloadN d12_22 rfl rfl ?_
  refine go_isub d12_23 rfl (go_eq (y := 4) (by decide) ?_)
  refine go_istore d12_24 rfl #[vr dc, vr src, vi 0, vi 4, vr fb, vi 0, vi 4, .unset, .unset] rfl ?_
  refine go_iload d12_26 rfl rfl ?_
  refine go_if_ne_t (pt := 33) d12_28 (by decide) ?_
  refine go_iload d12_33 rfl rfl ?_
  refine go_iconst 2 d12_35 rfl ?_
  refine go_icmp_ge_t (pt := 66) d12_36 (by decide) ?_
  refine go_aloadN d12_66 rfl rfl rfl ?_
  refine go_getfield d12_67 rfl (wd hB 176 rfl) Via.refl D2h ?_
  refine go_if_eq_t (pt := 141) d12_70 (by decide) ?_
  refine go_aloadN d12_141 rfl rfl rfl ?_
  refine go_iloadN d12_142 rfl rfl ?_
  refine go_iconst 1 d12_143 rfl ?_
  refine go_isub d12_144 rfl (go_eq (y := 3) (by decide) ?_)
  refine go_baload (v := (.int ((61 : Int32).toInt8.toInt32))) 3 d12_145 rfl A ⟨by decide, by decide⟩ (by decide) rfl ?_
  refine go_bipush 61 d12_146 rfl ?_
  refine go_icmp_ne_f d12_148 rfl (by decide) ?_
  refine go_iincV 1 1 d12_151 rfl #[vr dc, vr src, vi 0, vi 4, vr fb, vi 1, vi 4, .unset, .unset] (by decide) rfl (by decide) rfl ?_
  refine go_aloadN d12_154 rfl rfl rfl ?_
  refine go_iloadN d12_155 rfl rfl ?_
  refine go_iconst 2 d12_156 rfl ?_
  refine go_isub d12_157 rfl (go_eq (y := 2) (by decide) ?_)
  refine go_baload (v := (.int ((T (X2 b1 0)).toInt8.toInt32))) 2 d12_158 rfl A ⟨by decide, by decide⟩ (by decide) rfl ?_
  refine go_bipush 61 d12_159 rfl ?_
  refine go_icmp_ne_t (pt := 167) d12_161 (T_ne61 lt103) ?_
  refine go_iload d12_167 rfl rfl ?_
  refine go_if_ne_t (pt := 187) d12_169 (by decide) ?_
  refine go_iconst 3 d12_187 rfl ?_
  refine go_iload d12_188 rfl rfl ?_
  refine go_i2l d12_190 rfl (go_eqL (y := 4) (by decide) ?_)
  refine go_ldc2J d12_191 rfl (wd hB 178 rfl) ?_
  refine go_ladd d12_194 rfl (go_eqL (y := 7) (by decide) ?_)
  refine go_ldc2J d12_195 rfl (wd hB 179 rfl) ?_
  refine go_ldiv d12_198 rfl (by decide) (go_eqL (y := 1) (by decide) ?_)
  refine go_l2i d12_199 rfl (go_eq (y := 1) (by decide) ?_)
  refine go_imul d12_200 rfl (go_eq (y := 3) (by decide) ?_)
  refine go_iload d12_201 rfl rfl ?_
  refine go_isub d12_203 rfl (go_eq (y := 2) (by decide) ?_)
  refine go_retI d12_204 [] rfl (by decide) (by decide) (fun _ q => nomatch q) ?_
  exact ⟨rfl, rfl, rfl⟩
set_option maxRecDepth 65536 in
set_option maxHeartbeats 4000000 in
theorem c_d0_2 (hB : Base Z a0) (b0 b1 b2 b3 b4 b5 : Nat) (hb0 : b0 < 256) (hb1 : b1 < 256) (hb2 : b2 < 256) (hb3 : b3 < 256) (hb4 : b4 < 256) (hb5 : b5 < 256) {dc : Addr} (D0 : IsDec Z dc) {src dst : Addr} {ks kd : ClassId} (hsd : src ≠ dst) {h : Heap} (A : Arv Z h src ks .byte 4 [(lv (T (X0 b0))), (lv (T (X1 b0 b1))), (lv (T (X2 b1 0))), (lv (61 : Int32))] (.int 0)) (B : Arv Z h dst kd .byte 2 [(.int 0), (.int 0)] (.int 0)) :
    Con l Z ELc n0 (⟨"java/util/Base64$Decoder", "decode0", "([BII[B)I"⟩ : MethodName) kb13 11 (Option.some FieldType.int) [] (⟨0, 0, 0, 0⟩ : Room) #[.ref dc, .ref src, .int 0, .int 4, .ref dst] h [dst] (fun v h' sf' => v = some (.int 2) ∧ sf' = [] ∧ Keep h h' [dst] ∧ Arv Z h' dst kd .byte 2 [(lv (Int32.ofNat b0)), (lv (Int32.ofNat b1))] (.int 0)) := by
  refine con_ofA hB (ls := #[.val (.ref dc), .val (.ref src), .val (.int 0), .val (.int 4), .val (.ref dst), .unset, .unset, .unset, .unset, .unset, .unset]) (fun m => by simp [entryFrame, mkF, argsToLocals, Value.category]) ?_
  show Go _ _ _ _ _ _ "java/util/Base64$Decoder" kb13 11 _ "decode0" _ h [dst] 0 0 0 #[vr dc, vr src, vi 0, vi 4, vr dst, .unset, .unset, .unset, .unset, .unset, .unset] []
  have lt101 : X0 b0 < 64 := (x0_lt hb0)
  have lt102 : X1 b0 b1 < 64 := (x1_lt hb0 hb1)
  have lt103 : X2 b1 0 < 64 := (x2_lt hb1 (by decide : 0 < 256))
  refine Go.owned (fun hOw => ?_)
  have hge := (hOw dst (List.Mem.head _)).2
  refine Go.old (fun hOld => ?_)
  obtain ⟨DX, D1, D2⟩ := id D0
  have DXh := Exa.ext hOld.2 DX
  have D1h := Fld.ext hOld.2 D1
  have D2h := Fld.ext hOld.2 D2
  obtain ⟨fb, kf, hSf, hAf⟩ := hB.2.2.2.2.2.2.2.1
  have hAg := hAf.ext hOld.2
  refine go_aloadN d13_0 rfl rfl rfl ?_
  refine go_getfield d13_1 rfl (wd hB 84 rfl) Via.refl D1h ?_
  refine go_if_eq_t (pt := 13) d13_4 (by decide) ?_
  refine go_getstatic d13_13 rfl (wd hB 86 rfl) Via.refl hSf ?_
  refine go_astore d13_16 rfl #[vr dc, vr src, vi 0, vi 4, vr dst, vr fb, .unset, .unset, .unset, .unset, .unset] rfl rfl ?_
  refine go_iconst 0 d13_18 rfl ?_
  refine go_istore d13_19 rfl #[vr dc, vr src, vi 0, vi 4, vr dst, vr fb, vi 0, .unset, .unset, .unset, .unset] rfl ?_
  refine go_iconst 0 d13_21 rfl ?_
  refine go_istore d13_22 rfl #[vr dc, vr src, vi 0, vi 4, vr dst, vr fb, vi 0, vi 0, .unset, .unset, .unset] rfl ?_
  refine go_bipush 18 d13_24 rfl ?_
  refine go_istore d13_26 rfl #[vr dc, vr src, vi 0, vi 4, vr dst, vr fb, vi 0, vi 0, vi 18, .unset, .unset] rfl ?_
  refine go_iloadN d13_28 rfl rfl ?_
  refine go_iloadN d13_29 rfl rfl ?_
  refine go_icmp_ge_f d13_30 rfl (by decide) ?_
  refine go_iload d13_33 rfl rfl ?_
  refine go_bipush 18 d13_35 rfl ?_
  refine go_icmp_ne_f d13_37 rfl (by decide) ?_
  refine go_iloadN d13_40 rfl rfl ?_
  refine go_iloadN d13_41 rfl rfl ?_
  refine go_iconst 4 d13_42 rfl ?_
  refine go_isub d13_43 rfl (go_eq (y := 0) (by decide) ?_)
  refine go_icmp_ge_t (pt := 90) d13_44 (by decide) ?_
  refine go_iloadN d13_90 rfl rfl ?_
  refine go_iloadN d13_91 rfl rfl ?_
  refine go_icmp_lt_t (pt := 98) d13_92 (by decide) ?_
  refine go_aloadN d13_98 rfl rfl rfl ?_
  refine go_iloadN d13_99 rfl rfl ?_
  refine go_iincV 1 1 d13_100 rfl #[vr dc, vr src, vi 1, vi 4, vr dst, vr fb, vi 0, vi 0, vi 18, .unset, .unset] (by decide) rfl (by decide) rfl ?_
  refine go_baload (v := (.int ((T (X0 b0)).toInt8.toInt32))) 0 d13_103 rfl A ⟨by decide, by decide⟩ (by decide) rfl ?_
  refine go_sipush 255 d13_104 rfl ?_
  refine go_iand d13_107 rfl (go_eq (y := T (X0 b0)) (T_isC lt101).back ?_)
  refine go_istore d13_108 rfl #[vr dc, vr src, vi 1, vi 4, vr dst, vr fb, vi 0, vi 0, vi 18, vi (T (X0 b0)), .unset] rfl ?_
  refine go_aload d13_110 rfl rfl rfl ?_
  refine go_iload d13_112 rfl rfl ?_
  refine go_iaload (v := (.int (Int32.ofNat (X0 b0)))) (tbN (X0 b0)) d13_114 rfl hAg (T_in lt101) (T_cl lt101) (fb_at lt101) ?_
  refine go_dup d13_115 rfl rfl ?_
  refine go_istore d13_116 rfl #[vr dc, vr src, vi 1, vi 4, vr dst, vr fb, vi 0, vi 0, vi 18, vi (Int32.ofNat (X0 b0)), .unset] rfl ?_
  refine go_if_ge_t (pt := 214) d13_118 (ofN_nneg (by omega)) ?_
  refine go_iload d13_214 rfl rfl ?_
  refine go_iload d13_216 rfl rfl ?_
  refine go_iload d13_218 rfl rfl ?_
  refine go_ishl d13_220 rfl (go_eq (y := Int32.ofNat (X0 b0 * 262144)) (shlE (k := 18) (by decide) (by decide) (by omega) rfl (by omega)) ?_)
  refine go_ior d13_221 rfl (go_eq (y := Int32.ofNat (X0 b0 * 262144)) Int32.zero_or ?_)
  refine go_istore d13_222 rfl #[vr dc, vr src, vi 1, vi 4, vr dst, vr fb, vi 0, vi (Int32.ofNat (X0 b0 * 262144)), vi 18, vi (Int32.ofNat (X0 b0)), .unset] rfl ?_
  refine go_iincV (-6) 12 d13_224 rfl #[vr dc, vr src, vi 1, vi 4, vr dst, vr fb, vi 0, vi (Int32.ofNat (X0 b0 * 262144)), vi 12, vi (Int32.ofNat (X0 b0)), .unset] (by decide) rfl (by decide) rfl ?_
  refine go_iload d13_227 rfl rfl ?_
  refine go_if_ge_t (pt := 278) d13_229 (by decide) ?_
  refine go_goto (pt := 28) d13_278 ?_
  refine go_iloadN d13_28 rfl rfl ?_
  refine go_iloadN d13_29 rfl rfl ?_
  refine go_icmp_ge_f d13_30 rfl (by decide) ?_
  refine go_iload d13_33 rfl rfl ?_
  refine go_bipush 18 d13_35 rfl ?_
  refine go_icmp_ne_t (pt := 90) d13_37 (by decide) ?_
  refine go_iloadN d13_90 rfl rfl ?_
  refine go_iloadN d13_91 rfl rfl ?_
  refine go_icmp_lt_t (pt := 98) d13_92 (by decide) ?_
  refine go_aloadN d13_98 rfl rfl rfl ?_
  refine go_iloadN d13_99 rfl rfl ?_
  refine go_iincV 1 2 d13_100 rfl #[vr dc, vr src, vi 2, vi 4, vr dst, vr fb, vi 0, vi (Int32.ofNat (X0 b0 * 262144)), vi 12, vi (Int32.ofNat (X0 b0)), .unset] (by decide) rfl (by decide) rfl ?_
  refine go_baload (v := (.int ((T (X1 b0 b1)).toInt8.toInt32))) 1 d13_103 rfl A ⟨by decide, by decide⟩ (by decide) rfl ?_
  refine go_sipush 255 d13_104 rfl ?_
  refine go_iand d13_107 rfl (go_eq (y := T (X1 b0 b1)) (T_isC lt102).back ?_)
  refine go_istore d13_108 rfl #[vr dc, vr src, vi 2, vi 4, vr dst, vr fb, vi 0, vi (Int32.ofNat (X0 b0 * 262144)), vi 12, vi (T (X1 b0 b1)), .unset] rfl ?_
  refine go_aload d13_110 rfl rfl rfl ?_
  refine go_iload d13_112 rfl rfl ?_
  refine go_iaload (v := (.int (Int32.ofNat (X1 b0 b1)))) (tbN (X1 b0 b1)) d13_114 rfl hAg (T_in lt102) (T_cl lt102) (fb_at lt102) ?_
  refine go_dup d13_115 rfl rfl ?_
  refine go_istore d13_116 rfl #[vr dc, vr src, vi 2, vi 4, vr dst, vr fb, vi 0, vi (Int32.ofNat (X0 b0 * 262144)), vi 12, vi (Int32.ofNat (X1 b0 b1)), .unset] rfl ?_
  refine go_if_ge_t (pt := 214) d13_118 (ofN_nneg (by omega)) ?_
  refine go_iload d13_214 rfl rfl ?_
  refine go_iload d13_216 rfl rfl ?_
  refine go_iload d13_218 rfl rfl ?_
  refine go_ishl d13_220 rfl (go_eq (y := Int32.ofNat (X1 b0 b1 * 4096)) (shlE (k := 12) (by decide) (by decide) (by omega) rfl (by omega)) ?_)
  refine go_ior d13_221 rfl (go_eq (y := Int32.ofNat (X0 b0 * 262144 + X1 b0 b1 * 4096)) (orE (k := 18) (by omega) (by omega) rfl (by omega)) ?_)
  refine go_istore d13_222 rfl #[vr dc, vr src, vi 2, vi 4, vr dst, vr fb, vi 0, vi (Int32.ofNat (X0 b0 * 262144 + X1 b0 b1 * 4096)), vi 12, vi (Int32.ofNat (X1 b0 b1)), .unset] rfl ?_
  refine go_iincV (-6) 6 d13_224 rfl #[vr dc, vr src, vi 2, vi 4, vr dst, vr fb, vi 0, vi (Int32.ofNat (X0 b0 * 262144 + X1 b0 b1 * 4096)), vi 6, vi (Int32.ofNat (X1 b0 b1)), .unset] (by decide) rfl (by decide) rfl ?_
  refine go_iload d13_227 rfl rfl ?_
  refine go_if_ge_t (pt := 278) d13_229 (by decide) ?_
  refine go_goto (pt := 28) d13_278 ?_
  refine go_iloadN d13_28 rfl rfl ?_
  refine go_iloadN d13_29 rfl rfl ?_
  refine go_icmp_ge_f d13_30 rfl (by decide) ?_
  refine go_iload d13_33 rfl rfl ?_
  refine go_bipush 18 d13_35 rfl ?_
  refine go_icmp_ne_t (pt := 90) d13_37 (by decide) ?_
  refine go_iloadN d13_90 rfl rfl ?_
  refine go_iloadN d13_91 rfl rfl ?_
  refine go_icmp_lt_t (pt := 98) d13_92 (by decide) ?_
  refine go_aloadN d13_98 rfl rfl rfl ?_
  refine go_iloadN d13_99 rfl rfl ?_
  refine go_iincV 1 3 d13_100 rfl #[vr dc, vr src, vi 3, vi 4, vr dst, vr fb, vi 0, vi (Int32.ofNat (X0 b0 * 262144 + X1 b0 b1 * 4096)), vi 6, vi (Int32.ofNat (X1 b0 b1)), .unset] (by decide) rfl (by decide) rfl ?_
  refine go_baload (v := (.int ((T (X2 b1 0)).toInt8.toInt32))) 2 d13_103 rfl A ⟨by decide, by decide⟩ (by decide) rfl ?_
  refine go_sipush 255 d13_104 rfl ?_
  refine go_iand d13_107 rfl (go_eq (y := T (X2 b1 0)) (T_isC lt103).back ?_)
  refine go_istore d13_108 rfl #[vr dc, vr src, vi 3, vi 4, vr dst, vr fb, vi 0, vi (Int32.ofNat (X0 b0 * 262144 + X1 b0 b1 * 4096)), vi 6, vi (T (X2 b1 0)), .unset] rfl ?_
  refine go_aload d13_110 rfl rfl rfl ?_
  refine go_iload d13_112 rfl rfl ?_
  refine go_iaload (v := (.int (Int32.ofNat (X2 b1 0)))) (tbN (X2 b1 0)) d13_114 rfl hAg (T_in lt103) (T_cl lt103) (fb_at lt103) ?_
  refine go_dup d13_115 rfl rfl ?_
  refine go_istore d13_116 rfl #[vr dc, vr src, vi 3, vi 4, vr dst, vr fb, vi 0, vi (Int32.ofNat (X0 b0 * 262144 + X1 b0 b1 * 4096)), vi 6, vi (Int32.ofNat (X2 b1 0)), .unset] rfl ?_
  refine go_if_ge_t (pt := 214) d13_118 (ofN_nneg (by omega)) ?_
  refine go_iload d13_214 rfl rfl ?_
  refine go_iload d13_216 rfl rfl ?_
  refine go_iload d13_218 rfl rfl ?_
  refine go_ishl d13_220 rfl (go_eq (y := Int32.ofNat (X2 b1 0 * 64)) (shlE (k := 6) (by decide) (by decide) (by omega) rfl (by omega)) ?_)
  refine go_ior d13_221 rfl (go_eq (y := Int32.ofNat (X0 b0 * 262144 + X1 b0 b1 * 4096 + X2 b1 0 * 64)) (orE (k := 12) (by omega) (by omega) rfl (by omega)) ?_)
  refine go_istore d13_222 rfl #[vr dc, vr src, vi 3, vi 4, vr dst, vr fb, vi 0, vi (Int32.ofNat (X0 b0 * 262144 + X1 b0 b1 * 4096 + X2 b1 0 * 64)), vi 6, vi (Int32.ofNat (X2 b1 0)), .unset] rfl ?_
  refine go_iincV (-6) 0 d13_224 rfl #[vr dc, vr src, vi 3, vi 4, vr dst, vr fb, vi 0, vi (Int32.ofNat (X0 b0 * 262144 + X1 b0 b1 * 4096 + X2 b1 0 * 64)), vi 0, vi (Int32.ofNat (X2 b1 0)), .unset] (by decide) rfl (by decide) rfl ?_
  refine go_iload d13_227 rfl rfl ?_
  refine go_if_ge_t (pt := 278) d13_229 (by decide) ?_
  refine go_goto (pt := 28) d13_278 ?_
  refine go_iloadN d13_28 rfl rfl ?_
  refine go_iloadN d13_29 rfl rfl ?_
  refine go_icmp_ge_f d13_30 rfl (by decide) ?_
  refine go_iload d13_33 rfl rfl ?_
  refine go_bipush 18 d13_35 rfl ?_
  refine go_icmp_ne_t (pt := 90) d13_37 (by decide) ?_
  refine go_iloadN d13_90 rfl rfl ?_
  refine go_iloadN d13_91 rfl rfl ?_
  refine go_icmp_lt_t (pt := 98) d13_92 (by decide) ?_
  refine go_aloadN d13_98 rfl rfl rfl ?_
  refine go_iloadN d13_99 rfl rfl ?_
  refine go_iincV 1 4 d13_100 rfl #[vr dc, vr src, vi 4, vi 4, vr dst, vr fb, vi 0, vi (Int32.ofNat (X0 b0 * 262144 + X1 b0 b1 * 4096 + X2 b1 0 * 64)), vi 0, vi (Int32.ofNat (X2 b1 0)), .unset] (by decide) rfl (by decide) rfl ?_
  refine go_baload (v := (.int ((61 : Int32).toInt8.toInt32))) 3 d13_103 rfl A ⟨by decide, by decide⟩ (by decide) rfl ?_
  refine go_sipush 255 d13_104 rfl ?_
  refine go_iand d13_107 rfl (go_eq (y := 61) (by decide) ?_)
  refine go_istore d13_108 rfl #[vr dc, vr src, vi 4, vi 4, vr dst, vr fb, vi 0, vi (Int32.ofNat (X0 b0 * 262144 + X1 b0 b1 * 4096 + X2 b1 0 * 64)), vi 0, vi 61, .unset] rfl ?_
  refine go_aload d13_110 rfl rfl rfl ?_
  refine go_iload d13_112 rfl rfl ?_
  refine go_iaload (v := (.int (-2))) 61 d13_114 rfl hAg ⟨by decide, by decide⟩ (by decide) fb_eq ?_
  refine go_dup d13_115 rfl rfl ?_
  refine go_istore d13_116 rfl #[vr dc, vr src, vi 4, vi 4, vr dst, vr fb, vi 0, vi (Int32.ofNat (X0 b0 * 262144 + X1 b0 b1 * 4096 + X2 b1 0 * 64)), vi 0, vi (-2), .unset] rfl ?_
  refine go_if_ge_f d13_118 rfl (by decide) ?_
  refine go_iload d13_121 rfl rfl ?_
  refine go_bipush (-2) d13_123 rfl ?_
  refine go_icmp_ne_f d13_125 rfl (by decide) ?_
  refine go_iload d13_128 rfl rfl ?_
  refine go_bipush 6 d13_130 rfl ?_
  refine go_icmp_ne_t (pt := 151) d13_132 (by decide) ?_
  refine go_iload d13_151 rfl rfl ?_
  refine go_bipush 18 d13_153 rfl ?_
  refine go_icmp_ne_t (pt := 281) d13_155 (by decide) ?_
  refine go_iload d13_281 rfl rfl ?_
  refine go_bipush 6 d13_283 rfl ?_
  refine go_icmp_ne_t (pt := 305) d13_285 (by decide) ?_
  refine go_iload d13_305 rfl rfl ?_
  refine go_if_ne_f d13_307 rfl (by decide) ?_
  refine go_aload d13_310 rfl rfl rfl ?_
  refine go_iload d13_312 rfl rfl ?_
  refine go_iincV 1 1 d13_314 rfl #[vr dc, vr src, vi 4, vi 4, vr dst, vr fb, vi 1, vi (Int32.ofNat (X0 b0 * 262144 + X1 b0 b1 * 4096 + X2 b1 0 * 64)), vi 0, vi (-2), .unset] (by decide) rfl (by decide) rfl ?_
  refine go_iload d13_317 rfl rfl ?_
  refine go_bipush 16 d13_319 rfl ?_
  refine go_ishr d13_321 rfl (go_eq (y := Int32.ofNat ((X0 b0 * 262144 + X1 b0 b1 * 4096 + X2 b1 0 * 64) / 65536)) (shrE (k := 16) (by decide) (by decide) (by omega) rfl) ?_)
  refine go_i2b d13_322 rfl (go_eq (y := (Int32.ofNat b0).toInt8.toInt32) (by8 (by simp only [X0, X1, X2, X3] <;> omega)) ?_)
  refine go_bastoreV 0 ((Int32.ofNat b0).toInt8.toInt32) d13_323 rfl (i8i8 _) B ⟨by decide, by decide⟩ (by decide) (by show 0 < 2; decide) (List.Mem.head _) ?_
  intro h104 W105 B106
  have B107 : Arv Z h104 dst kd .byte 2 [(lv (Int32.ofNat b0)), (.int 0)] (.int 0) := B106
  refine go_aload d13_324 rfl rfl rfl ?_
  refine go_iload d13_326 rfl rfl ?_
  refine go_iincV 1 2 d13_328 rfl #[vr dc, vr src, vi 4, vi 4, vr dst, vr fb, vi 2, vi (Int32.ofNat (X0 b0 * 262144 + X1 b0 b1 * 4096 + X2 b1 0 * 64)), vi 0, vi (-2), .unset] (by decide) rfl (by decide) rfl ?_
  refine go_iload d13_331 rfl rfl ?_
  refine go_bipush 8 d13_333 rfl ?_
  refine go_ishr d13_335 rfl (go_eq (y := Int32.ofNat ((X0 b0 * 262144 + X1 b0 b1 * 4096 + X2 b1 0 * 64) / 256)) (shrE (k := 8) (by decide) (by decide) (by omega) rfl) ?_)
  refine go_i2b d13_336 rfl (go_eq (y := (Int32.ofNat b1).toInt8.toInt32) (by8 (by simp only [X0, X1, X2, X3] <;> omega)) ?_)
  refine go_bastoreV 1 ((Int32.ofNat b1).toInt8.toInt32) d13_337 rfl (i8i8 _) B107 ⟨by decide, by decide⟩ (by decide) (by show 1 < 2; decide) (List.Mem.head _) ?_
  intro h108 W109 B110
  have B111 : Arv Z h108 dst kd .byte 2 [(lv (Int32.ofNat b0)), (lv (Int32.ofNat b1))] (.int 0) := B110
  refine go_goto (pt := 358) d13_338 ?_
  refine go_iloadN d13_358 rfl rfl ?_
  refine go_iloadN d13_359 rfl rfl ?_
  refine go_icmp_ge_t (pt := 416) d13_360 (by decide) ?_
  refine go_iload d13_416 rfl rfl ?_
  refine go_retI d13_418 [] rfl (by decide) (by decide) (fun _ q => nomatch q) ?_
  exact ⟨rfl, rfl, (((Keep.refl h [dst]).wr W105 (Or.inl (List.Mem.head _))).wr W109 (Or.inl (List.Mem.head _))), B111⟩
set_option maxRecDepth 65536 in
set_option maxHeartbeats 4000000 in
theorem c_da_2 (hB : Base Z a0) (b0 b1 b2 b3 b4 b5 : Nat) (hb0 : b0 < 256) (hb1 : b1 < 256) (hb2 : b2 < 256) (hb3 : b3 < 256) (hb4 : b4 < 256) (hb5 : b5 < 256) {dc : Addr} (D0 : IsDec Z dc) {src : Addr} {ks : ClassId} {h : Heap} (A : Arv Z h src ks .byte 4 [(lv (T (X0 b0))), (lv (T (X1 b0 b1))), (lv (T (X2 b1 0))), (lv (61 : Int32))] (.int 0)) :
    Con l Z ELc n0 (⟨"java/util/Base64$Decoder", "decode", "([B)[B"⟩ : MethodName) kb11 4 (Option.some (FieldType.array FieldType.byte)) [] (⟨1, 1, 2, 22⟩ : Room) #[.ref dc, .ref src] h [] (fun v h' sf' => ∃ r kr, v = some (.ref r) ∧ sf' = [] ∧ Ext h h' ∧ h.size ≤ r ∧ Arv Z h' r kr .byte 2 [(lv (Int32.ofNat b0)), (lv (Int32.ofNat b1))] (.int 0)) := by
  refine con_ofA hB (ls := #[.val (.ref dc), .val (.ref src), .unset, .unset]) (fun m => by simp [entryFrame, mkF, argsToLocals, Value.category]) ?_
  show Go _ _ _ _ _ _ "java/util/Base64$Decoder" kb11 4 _ "decode" _ h [] 0 0 0 #[vr dc, vr src, .unset, .unset] []
  refine Go.old (fun hOld => ?_)
  obtain ⟨DX, D1, D2⟩ := id D0
  have DXh := Exa.ext hOld.2 DX
  have D1h := Fld.ext hOld.2 D1
  have D2h := Fld.ext hOld.2 D2
  refine go_aloadN d11_0 rfl rfl rfl ?_
  refine go_aloadN d11_1 rfl rfl rfl ?_
  refine go_iconst 0 d11_2 rfl ?_
  refine go_aloadN d11_3 rfl rfl rfl ?_
  refine go_alen d11_4 rfl A ?_
  refine go_virtual dc [(.ref src), (.int 0), (.int 4)] [] 0 d11_5 rfl DXh (wd hB 79 rfl) (declares_of (wd hB 80 rfl) (wd hB 83 rfl)) (nf_of (wd hB 82 rfl)) (wd hB 82 rfl) (wd hB 80 rfl) (wd hB 34 rfl) (wd hB 83 rfl) (c_dol_2 hB b0 b1 b2 b3 b4 b5 hb0 hb1 hb2 hb3 hb4 hb5 D0 A) (fun _ q => nomatch q) (lenOf pd_9 rfl) rfl rfl rfl (fun v101 h102 s103 q104 => ?_)
  obtain ⟨rfl, rfl, rfl⟩ := q104
  show Go _ _ _ _ _ _ _ _ _ _ _ _ h [] 0 0 8 _ [(.int 2)]
  refine go_newarr (ty := .byte) (ad := "[B") 2 d11_8 rfl rfl (wd hB 18 rfl) (by decide) (by decide) (by decide) (by decide) (by decide) (by decide) ?_
  intro h110 x105 hx106 E107 ⟨A108, k109, B111⟩
  have B112 : Arv Z h110 x105 k109 .byte 2 [(.int 0), (.int 0)] (.int 0) := B111.pad (pad_rep [] (.int 0) 2)
  refine go_astoreN d11_10 rfl #[vr dc, vr src, vr x105, .unset] rfl rfl ?_
  refine go_aloadN d11_11 rfl rfl rfl ?_
  refine go_aloadN d11_12 rfl rfl rfl ?_
  refine go_iconst 0 d11_13 rfl ?_
  refine go_aloadN d11_14 rfl rfl rfl ?_
  have F113 := (A.ext E107)
  refine go_alen d11_15 rfl F113 ?_
  refine go_aloadN d11_16 rfl rfl rfl ?_
  have F118 := (Exa.ext E107 DXh)
  refine go_virtual dc [(.ref src), (.int 0), (.int 4), (.ref x105)] [] 0 d11_17 rfl F118 (wd hB 87 rfl) (declares_of (wd hB 88 rfl) (wd hB 91 rfl)) (nf_of (wd hB 90 rfl)) (wd hB 90 rfl) (wd hB 88 rfl) (wd hB 34 rfl) (wd hB 91 rfl) (c_d0_2 hB b0 b1 b2 b3 b4 b5 hb0 hb1 hb2 hb3 hb4 hb5 D0 (Nat.ne_of_lt (Nat.lt_of_lt_of_le A.lt (Nat.le_of_eq hx106.symm))) F113 B112) (allS (List.Mem.head _) (fun _ q => nomatch q)) (lenOf pd_10 rfl) rfl rfl rfl (fun v114 h115 s116 q117 => ?_)
  obtain ⟨rfl, rfl, K119, B120⟩ := q117
  show Go _ _ _ _ _ _ _ _ _ _ _ _ h115 [x105] 1 2 20 _ [(.int 2)]
  refine go_istoreN d11_20 rfl #[vr dc, vr src, vr x105, vi 2] rfl ?_
  refine go_iloadN d11_21 rfl rfl ?_
  refine go_aloadN d11_22 rfl rfl rfl ?_
  refine go_alen d11_23 rfl B120 ?_
  refine go_icmp_eq_t (pt := 33) d11_24 (by decide) ?_
  refine go_aloadN d11_33 rfl rfl rfl ?_
  refine go_retA d11_34 [] rfl rfl rfl rfl (by decide) (by decide) (fun _ q => nomatch q) ?_
  exact ⟨_, _, rfl, rfl, (ext_of_keep (((Keep.refl h []).ext E107).trans K119 (allS (Or.inr (Nat.le_of_eq hx106.symm)) all0))), (Nat.le_of_eq hx106.symm), B120⟩
set_option maxRecDepth 65536 in
set_option maxHeartbeats 4000000 in
theorem c_ds_2 (hB : Base Z a0) (b0 b1 b2 b3 b4 b5 : Nat) (hb0 : b0 < 256) (hb1 : b1 < 256) (hb2 : b2 < 256) (hb3 : b3 < 256) (hb4 : b4 < 256) (hb5 : b5 < 256) {dc : Addr} (D0 : IsDec Z dc) {is ut : Addr} (SI : Sta Z Z.heap "sun/nio/cs/ISO_8859_1" "INSTANCE" "Lsun/nio/cs/ISO_8859_1;" (.ref is)) (SU : Sta Z Z.heap "sun/nio/cs/UTF_8" "INSTANCE" "Lsun/nio/cs/UTF_8;" (.ref ut)) (IX : Exa Z Z.heap is "sun/nio/cs/ISO_8859_1") (UX : Exa Z Z.heap ut "sun/nio/cs/UTF_8") {s d : Addr} {k : ClassId} {h : Heap} (E : Exa Z h s "java/lang/String") (C : Fld Z h s "java/lang/String" "coder" "B" (.int 0)) (V : Fld Z h s "java/lang/String" "value" "[B" (.ref d)) (A : Arv Z h d k .byte 4 [(lv (T (X0 b0))), (lv (T (X1 b0 b1))), (lv (T (X2 b1 0))), (lv (61 : Int32))] (.int 0)) (X : Exa Z h d "[B") :
    Con l Z ELc n0 (⟨"java/util/Base64$Decoder", "decode", "(Ljava/lang/String;)[B"⟩ : MethodName) kb5 2 (Option.some (FieldType.array FieldType.byte)) [] (⟨5, 2, 10, 76⟩ : Room) #[.ref dc, .ref s] h [] (fun v h' sf' => ∃ r kr, v = some (.ref r) ∧ sf' = [] ∧ Ext h h' ∧ h.size ≤ r ∧ Arv Z h' r kr .byte 2 [(lv (Int32.ofNat b0)), (lv (Int32.ofNat b1))] (.int 0)) := by
  refine con_ofA hB (ls := #[.val (.ref dc), .val (.ref s)]) (fun m => by simp [entryFrame, mkF, argsToLocals, Value.category]) ?_
  show Go _ _ _ _ _ _ "java/util/Base64$Decoder" kb5 2 _ "decode" _ h [] 0 0 0 #[vr dc, vr s] []
  refine Go.old (fun hOld => ?_)
  obtain ⟨DX, D1, D2⟩ := id D0
  have DXh := Exa.ext hOld.2 DX
  have D1h := Fld.ext hOld.2 D1
  have D2h := Fld.ext hOld.2 D2
  have IXh := Exa.ext hOld.2 IX
  have UXh := Exa.ext hOld.2 UX
  refine go_aloadN d5_0 rfl rfl rfl ?_
  refine go_aloadN d5_1 rfl rfl rfl ?_
  refine go_getstatic d5_2 rfl (wd hB 40 rfl) Via.refl SI ?_
  refine go_virtual s [(.ref is)] [(.ref dc)] 1 d5_5 rfl E (wd hB 42 rfl) (wd hB 43 rfl) (nf_of (wd hB 45 rfl)) (wd hB 45 rfl) (wd hB 44 rfl) (wd hB 6 rfl) (wd hB 46 rfl) (c_gb hB SI SU IX UX (by decide) A X E C V) (fun _ q => nomatch q) (lenOf pd_11 rfl) rfl rfl rfl (fun v101 h102 s103 q104 => ?_)
  obtain ⟨x105, rfl, rfl, E106, g107, X108, A109⟩ := q104
  show Go _ _ _ _ _ _ _ _ _ _ _ _ h102 [x105] 1 8 8 _ [(.ref x105), (.ref dc)]
  have F114 := (Exa.ext E106 DXh)
  refine go_virtual dc [(.ref x105)] [] 0 d5_8 rfl F114 (wd hB 74 rfl) (wd hB 75 rfl) (nf_of (wd hB 77 rfl)) (wd hB 77 rfl) (wd hB 76 rfl) (wd hB 34 rfl) (wd hB 78 rfl) (c_da_2 hB b0 b1 b2 b3 b4 b5 hb0 hb1 hb2 hb3 hb4 hb5 D0 A109) (fun _ q => nomatch q) (lenOf pd_12 rfl) rfl rfl rfl (fun v110 h111 s112 q113 => ?_)
  obtain ⟨r115, k116, rfl, rfl, E117, g118, A119⟩ := q113
  show Go _ _ _ _ _ _ _ _ _ _ _ _ h111 [x105] 2 10 11 _ [(.ref r115)]
  refine go_retA d5_11 [] rfl rfl rfl rfl (by decide) (by decide) (fun _ q => nomatch q) ?_
  exact ⟨_, _, rfl, rfl, (ext_of_keep (((Keep.refl h []).ext E106).ext E117)), (Nat.le_trans E106.1 g118), A119⟩
set_option maxRecDepth 65536 in
set_option maxHeartbeats 4000000 in
theorem c_dol_3 (hB : Base Z a0) (b0 b1 b2 b3 b4 b5 : Nat) (hb0 : b0 < 256) (hb1 : b1 < 256) (hb2 : b2 < 256) (hb3 : b3 < 256) (hb4 : b4 < 256) (hb5 : b5 < 256) {dc : Addr} (D0 : IsDec Z dc) {src : Addr} {ks : ClassId} {h : Heap} (A : Arv Z h src ks .byte 4 [(lv (T (X0 b0))), (lv (T (X1 b0 b1))), (lv (T (X2 b1 b2))), (lv (T (X3 b2)))] (.int 0)) :
    Con l Z ELc n0 (⟨"java/util/Base64$Decoder", "decodedOutLength", "([BII)I"⟩ : MethodName) kb12 9 (Option.some FieldType.int) [] (⟨0, 0, 0, 0⟩ : Room) #[.ref dc, .ref src, .int 0, .int 4] h [] (fun v h' sf' => v = some (.int 3) ∧ sf' = [] ∧ h = h') := by
  refine con_ofA hB (ls := #[.val (.ref dc), .val (.ref src), .val (.int 0), .val (.int 4), .unset, .unset, .unset, .unset, .unset]) (fun m => by simp [entryFrame, mkF, argsToLocals, Value.category]) ?_
  show Go _ _ _ _ _ _ "java/util/Base64$Decoder" kb12 9 _ "decodedOutLength" _ h [] 0 0 0 #[vr dc, vr src, vi 0, vi 4, .unset, .unset, .unset, .unset, .unset] []
  have lt101 : X0 b0 < 64 := (x0_lt hb0)
  have lt102 : X1 b0 b1 < 64 := (x1_lt hb0 hb1)
  have lt103 : X2 b1 b2 < 64 := (x2_lt hb1 hb2)
  have lt104 : X3 b2 < 64 := (x3_lt hb2)
  refine Go.old (fun hOld => ?_)
  obtain ⟨DX, D1, D2⟩ := id D0
  have DXh := Exa.ext hOld.2 DX
  have D1h := Fld.ext hOld.2 D1
  have D2h := Fld.ext hOld.2 D2
  obtain ⟨fb, kf, hSf, hAf⟩ := hB.2.2.2.2.2.2.2.1
  have hAg := hAf.ext hOld.2
  refine go_aloadN d12_0 rfl rfl rfl ?_
  refine go_getfield d12_1 rfl (wd hB 84 rfl) Via.refl D1h ?_
  refine go_if_eq_t (pt := 13) d12_4 (by decide) ?_
  refine go_getstatic d12_13 rfl (wd hB 86 rfl) Via.refl hSf ?_
  refine go_astore d12_16 rfl #[vr dc, vr src, vi 0, vi 4, vr fb, .unset, .unset, .unset, .unset] rfl rfl ?_
  refine go_iconst 0 d12_18 rfl ?_
  refine go_istore d12_19 rfl #[vr dc, vr src, vi 0, vi 4, vr fb, vi 0, .unset, .unset, .unset] rfl ?_
  refine go_iloadN d12_21 rfl rfl ?_
  refine go_iloadN d12_22 rfl rfl ?_
  refine go_isub d12_23 rfl (go_eq (y := 4) (by decide) ?_)
  refine go_istore d12_24 rfl #[vr dc, vr src, vi 0, vi 4, vr fb, vi 0, vi 4, .unset, .unset] rfl ?_
  refine go_iload d12_26 rfl rfl ?_
  refine go_if_ne_t (pt := 33) d12_28 (by decide) ?_
  refine go_iload d12_33 rfl rfl ?_
  refine go_iconst 2 d12_35 rfl ?_
  refine go_icmp_ge_t (pt := 66) d12_36 (by decide) ?_
  refine go_aloadN d12_66 rfl rfl rfl ?_
  refine go_getfield d12_67 rfl (wd hB 176 rfl) Via.refl D2h ?_
  refine go_if_eq_t (pt := 141) d12_70 (by decide) ?_
  refine go_aloadN d12_141 rfl rfl rfl ?_
  refine go_iloadN d12_142 rfl rfl ?_
  refine go_iconst 1 d12_143 rfl ?_
  refine go_isub d12_144 rfl (go_eq (y := 3) (by decide) ?_)
  refine go_baload (v := (.int ((T (X3 b2)).toInt8.toInt32))) 3 d12_145 rfl A ⟨by decide, by decide⟩ (by decide) rfl ?_
  refine go_bipush 61 d12_146 rfl ?_
  refine go_icmp_ne_t (pt := 167) d12_148 (T_ne61 lt104) ?_
  refine go_iload d12_167 rfl rfl ?_
  refine go_if_ne_f d12_169 rfl (by decide) ?_
  refine go_iload d12_172 rfl rfl ?_
  refine go_iconst 3 d12_174 rfl ?_
  refine go_iand d12_175 rfl (go_eq (y := 0) (by decide) ?_)
  refine go_if_eq_t (pt := 187) d12_176 (by decide) ?_
  refine go_iconst 3 d12_187 rfl ?_
  refine go_iload d12_188 rfl rfl ?_
  refine go_i2l d12_190 rfl (go_eqL (y := 4) (by decide) ?_)
  refine go_ldc2J d12_191 rfl (wd hB 178 rfl) ?_
  refine go_ladd d12_194 rfl (go_eqL (y := 7) (by decide) ?_)
  refine go_ldc2J d12_195 rfl (wd hB 179 rfl) ?_
  refine go_ldiv d12_198 rfl (by decide) (go_eqL (y := 1) (by decide) ?_)
  refine go_l2i d12_199 rfl (go_eq (y := 1) (by decide) ?_)
  refine go_imul d12_200 rfl (go_eq (y := 3) (by decide) ?_)
  refine go_iload d12_201 rfl rfl ?_
  refine go_isub d12_203 rfl (go_eq (y := 3) (by decide) ?_)
  refine go_retI d12_204 [] rfl (by decide) (by decide) (fun _ q => nomatch q) ?_
  exact ⟨rfl, rfl, rfl⟩
set_option maxRecDepth 65536 in
set_option maxHeartbeats 4000000 in
theorem c_d0_3 (hB : Base Z a0) (b0 b1 b2 b3 b4 b5 : Nat) (hb0 : b0 < 256) (hb1 : b1 < 256) (hb2 : b2 < 256) (hb3 : b3 < 256) (hb4 : b4 < 256) (hb5 : b5 < 256) {dc : Addr} (D0 : IsDec Z dc) {src dst : Addr} {ks kd : ClassId} (hsd : src ≠ dst) {h : Heap} (A : Arv Z h src ks .byte 4 [(lv (T (X0 b0))), (lv (T (X1 b0 b1))), (lv (T (X2 b1 b2))), (lv (T (X3 b2)))] (.int 0)) (B : Arv Z h dst kd .byte 3 [(.int 0), (.int 0), (.int 0)] (.int 0)) :
    Con l Z ELc n0 (⟨"java/util/Base64$Decoder", "decode0", "([BII[B)I"⟩ : MethodName) kb13 11 (Option.some FieldType.int) [] (⟨0, 0, 0, 0⟩ : Room) #[.ref dc, .ref src, .int 0, .int 4, .ref dst] h [dst] (fun v h' sf' => v = some (.int 3) ∧ sf' = [] ∧ Keep h h' [dst] ∧ Arv Z h' dst kd .byte 3 [(lv (Int32.ofNat b0)), (lv (Int32.ofNat b1)), (lv (Int32.ofNat b2))] (.int 0)) := by
  refine con_ofA hB (ls := #[.val (.ref dc), .val (.ref src), .val (.int 0), .val (.int 4), .val (.ref dst), .unset, .unset, .unset, .unset, .unset, .unset]) (fun m => by simp [entryFrame, mkF, argsToLocals, Value.category]) ?_
  show Go _ _ _ _ _ _ "java/util/Base64$Decoder" kb13 11 _ "decode0" _ h [dst] 0 0 0 #[vr dc, vr src, vi 0, vi 4, vr dst, .unset, .unset, .unset, .unset, .unset, .unset] []
  have lt101 : X0 b0 < 64 := (x0_lt hb0)
  have lt102 : X1 b0 b1 < 64 := (x1_lt hb0 hb1)
  have lt103 : X2 b1 b2 < 64 := (x2_lt hb1 hb2)
  have lt104 : X3 b2 < 64 := (x3_lt hb2)
  refine Go.owned (fun hOw => ?_)
  have hge := (hOw dst (List.Mem.head _)).2
  refine Go.old (fun hOld => ?_)
  obtain ⟨DX, D1, D2⟩ := id D0
  have DXh := Exa.ext hOld.2 DX
  have D1h := Fld.ext hOld.2 D1
  have D2h := Fld.ext hOld.2 D2
  obtain ⟨fb, kf, hSf, hAf⟩ := hB.2.2.2.2.2.2.2.1
  have hAg := hAf.ext hOld.2
  refine go_aloadN d13_0 rfl rfl rfl ?_
  refine go_getfield d13_1 rfl (wd hB 84 rfl) Via.refl D1h ?_
  refine go_if_eq_t (pt := 13) d13_4 (by decide) ?_
  refine go_getstatic d13_13 rfl (wd hB 86 rfl) Via.refl hSf ?_
  refine go_astore d13_16 rfl #[vr dc, vr src, vi 0, vi 4, vr dst, vr fb, .unset, .unset, .unset, .unset, .unset] rfl rfl ?_
  refine go_iconst 0 d13_18 rfl ?_
  refine go_istore d13_19 rfl #[vr dc, vr src, vi 0, vi 4, vr dst, vr fb, vi 0, .unset, .unset, .unset, .unset] rfl ?_
  refine go_iconst 0 d13_21 rfl ?_
  refine go_istore d13_22 rfl #[vr dc, vr src, vi 0, vi 4, vr dst, vr fb, vi 0, vi 0, .unset, .unset, .unset] rfl ?_
  refine go_bipush 18 d13_24 rfl ?_
  refine go_istore d13_26 rfl #[vr dc, vr src, vi 0, vi 4, vr dst, vr fb, vi 0, vi 0, vi 18, .unset, .unset] rfl ?_
  refine go_iloadN d13_28 rfl rfl ?_
  refine go_iloadN d13_29 rfl rfl ?_
  refine go_icmp_ge_f d13_30 rfl (by decide) ?_
  refine go_iload d13_33 rfl rfl ?_
  refine go_bipush 18 d13_35 rfl ?_
  refine go_icmp_ne_f d13_37 rfl (by decide) ?_
  refine go_iloadN d13_40 rfl rfl ?_
  refine go_iloadN d13_41 rfl rfl ?_
  refine go_iconst 4 d13_42 rfl ?_
  refine go_isub d13_43 rfl (go_eq (y := 0) (by decide) ?_)
  refine go_icmp_ge_t (pt := 90) d13_44 (by decide) ?_
  refine go_iloadN d13_90 rfl rfl ?_
  refine go_iloadN d13_91 rfl rfl ?_
  refine go_icmp_lt_t (pt := 98) d13_92 (by decide) ?_
  refine go_aloadN d13_98 rfl rfl rfl ?_
  refine go_iloadN d13_99 rfl rfl ?_
  refine go_iincV 1 1 d13_100 rfl #[vr dc, vr src, vi 1, vi 4, vr dst, vr fb, vi 0, vi 0, vi 18, .unset, .unset] (by decide) rfl (by decide) rfl ?_
  refine go_baload (v := (.int ((T (X0 b0)).toInt8.toInt32))) 0 d13_103 rfl A ⟨by decide, by decide⟩ (by decide) rfl ?_
  refine go_sipush 255 d13_104 rfl ?_
  refine go_iand d13_107 rfl (go_eq (y := T (X0 b0)) (T_isC lt101).back ?_)
  refine go_istore d13_108 rfl #[vr dc, vr src, vi 1, vi 4, vr dst, vr fb, vi 0, vi 0, vi 18, vi (T (X0 b0)), .unset] rfl ?_
  refine go_aload d13_110 rfl rfl rfl ?_
  refine go_iload d13_112 rfl rfl ?_
  refine go_iaload (v := (.int (Int32.ofNat (X0 b0)))) (tbN (X0 b0)) d13_114 rfl hAg (T_in lt101) (T_cl lt101) (fb_at lt101) ?_
  refine go_dup d13_115 rfl rfl ?_
  refine go_istore d13_116 rfl #[vr dc, vr src, vi 1, vi 4, vr dst, vr fb, vi 0, vi 0, vi 18, vi (Int32.ofNat (X0 b0)), .unset] rfl ?_
  refine go_if_ge_t (pt := 214) d13_118 (ofN_nneg (by omega)) ?_
  refine go_iload d13_214 rfl rfl ?_
  refine go_iload d13_216 rfl rfl ?_
  refine go_iload d13_218 rfl rfl ?_
  refine go_ishl d13_220 rfl (go_eq (y := Int32.ofNat (X0 b0 * 262144)) (shlE (k := 18) (by decide) (by decide) (by omega) rfl (by omega)) ?_)
  refine go_ior d13_221 rfl (go_eq (y := Int32.ofNat (X0 b0 * 262144)) Int32.zero_or ?_)
  refine go_istore d13_222 rfl #[vr dc, vr src, vi 1, vi 4, vr dst, vr fb, vi 0, vi (Int32.ofNat (X0 b0 * 262144)), vi 18, vi (Int32.ofNat (X0 b0)), .unset] rfl ?_
  refine go_iincV (-6) 12 d13_224 rfl #[vr dc, vr src, vi 1, vi 4, vr dst, vr fb, vi 0, vi (Int32.ofNat (X0 b0 * 262144)), vi 12, vi (Int32.ofNat (X0 b0)), .unset] (by decide) rfl (by decide) rfl ?_
  refine go_iload d13_227 rfl rfl ?_
  refine go_if_ge_t (pt := 278) d13_229 (by decide) ?_
  refine go_goto (pt := 28) d13_278 ?_
  refine go_iloadN d13_28 rfl rfl ?_
  refine go_iloadN d13_29 rfl rfl ?_
  refine go_icmp_ge_f d13_30 rfl (by decide) ?_
  refine go_iload d13_33 rfl rfl ?_
  refine go_bipush 18 d13_35 rfl ?_
  refine go_icmp_ne_t (pt := 90) d13_37 (by decide) ?_
  refine go_iloadN d13_90 rfl rfl ?_
  refine go_iloadN d13_91 rfl rfl ?_
  refine go_icmp_lt_t (pt := 98) d13_92 (by decide) ?_
  refine go_aloadN d13_98 rfl rfl rfl ?_
  refine go_iloadN d13_99 rfl rfl ?_
  refine go_iincV 1 2 d13_100 rfl #[vr dc, vr src, vi 2, vi 4, vr dst, vr fb, vi 0, vi (Int32.ofNat (X0 b0 * 262144)), vi 12, vi (Int32.ofNat (X0 b0)), .unset] (by decide) rfl (by decide) rfl ?_
  refine go_baload (v := (.int ((T (X1 b0 b1)).toInt8.toInt32))) 1 d13_103 rfl A ⟨by decide, by decide⟩ (by decide) rfl ?_
  refine go_sipush 255 d13_104 rfl ?_
  refine go_iand d13_107 rfl (go_eq (y := T (X1 b0 b1)) (T_isC lt102).back ?_)
  refine go_istore d13_108 rfl #[vr dc, vr src, vi 2, vi 4, vr dst, vr fb, vi 0, vi (Int32.ofNat (X0 b0 * 262144)), vi 12, vi (T (X1 b0 b1)), .unset] rfl ?_
  refine go_aload d13_110 rfl rfl rfl ?_
  refine go_iload d13_112 rfl rfl ?_
  refine go_iaload (v := (.int (Int32.ofNat (X1 b0 b1)))) (tbN (X1 b0 b1)) d13_114 rfl hAg (T_in lt102) (T_cl lt102) (fb_at lt102) ?_
  refine go_dup d13_115 rfl rfl ?_
  refine go_istore d13_116 rfl #[vr dc, vr src, vi 2, vi 4, vr dst, vr fb, vi 0, vi (Int32.ofNat (X0 b0 * 262144)), vi 12, vi (Int32.ofNat (X1 b0 b1)), .unset] rfl ?_
  refine go_if_ge_t (pt := 214) d13_118 (ofN_nneg (by omega)) ?_
  refine go_iload d13_214 rfl rfl ?_
  refine go_iload d13_216 rfl rfl ?_
  refine go_iload d13_218 rfl rfl ?_
  refine go_ishl d13_220 rfl (go_eq (y := Int32.ofNat (X1 b0 b1 * 4096)) (shlE (k := 12) (by decide) (by decide) (by omega) rfl (by omega)) ?_)
  refine go_ior d13_221 rfl (go_eq (y := Int32.ofNat (X0 b0 * 262144 + X1 b0 b1 * 4096)) (orE (k := 18) (by omega) (by omega) rfl (by omega)) ?_)
  refine go_istore d13_222 rfl #[vr dc, vr src, vi 2, vi 4, vr dst, vr fb, vi 0, vi (Int32.ofNat (X0 b0 * 262144 + X1 b0 b1 * 4096)), vi 12, vi (Int32.ofNat (X1 b0 b1)), .unset] rfl ?_
  refine go_iincV (-6) 6 d13_224 rfl #[vr dc, vr src, vi 2, vi 4, vr dst, vr fb, vi 0, vi (Int32.ofNat (X0 b0 * 262144 + X1 b0 b1 * 4096)), vi 6, vi (Int32.ofNat (X1 b0 b1)), .unset] (by decide) rfl (by decide) rfl ?_
  refine go_iload d13_227 rfl rfl ?_
  refine go_if_ge_t (pt := 278) d13_229 (by decide) ?_
  refine go_goto (pt := 28) d13_278 ?_
  refine go_iloadN d13_28 rfl rfl ?_
  refine go_iloadN d13_29 rfl rfl ?_
  refine go_icmp_ge_f d13_30 rfl (by decide) ?_
  refine go_iload d13_33 rfl rfl ?_
  refine go_bipush 18 d13_35 rfl ?_
  refine go_icmp_ne_t (pt := 90) d13_37 (by decide) ?_
  refine go_iloadN d13_90 rfl rfl ?_
  refine go_iloadN d13_91 rfl rfl ?_
  refine go_icmp_lt_t (pt := 98) d13_92 (by decide) ?_
  refine go_aloadN d13_98 rfl rfl rfl ?_
  refine go_iloadN d13_99 rfl rfl ?_
  refine go_iincV 1 3 d13_100 rfl #[vr dc, vr src, vi 3, vi 4, vr dst, vr fb, vi 0, vi (Int32.ofNat (X0 b0 * 262144 + X1 b0 b1 * 4096)), vi 6, vi (Int32.ofNat (X1 b0 b1)), .unset] (by decide) rfl (by decide) rfl ?_
  refine go_baload (v := (.int ((T (X2 b1 b2)).toInt8.toInt32))) 2 d13_103 rfl A ⟨by decide, by decide⟩ (by decide) rfl ?_
  refine go_sipush 255 d13_104 rfl ?_
  refine go_iand d13_107 rfl (go_eq (y := T (X2 b1 b2)) (T_isC lt103).back ?_)
  refine go_istore d13_108 rfl #[vr dc, vr src, vi 3, vi 4, vr dst, vr fb, vi 0, vi (Int32.ofNat (X0 b0 * 262144 + X1 b0 b1 * 4096)), vi 6, vi (T (X2 b1 b2)), .unset] rfl ?_
  refine go_aload d13_110 rfl rfl rfl ?_
  refine go_iload d13_112 rfl rfl ?_
  refine go_iaload (v := (.int (Int32.ofNat (X2 b1 b2)))) (tbN (X2 b1 b2)) d13_114 rfl hAg (T_in lt103) (T_cl lt103) (fb_at lt103) ?_
  refine go_dup d13_115 rfl rfl ?_
  refine go_istore d13_116 rfl #[vr dc, vr src, vi 3, vi 4, vr dst, vr fb, vi 0, vi (Int32.ofNat (X0 b0 * 262144 + X1 b0 b1 * 4096)), vi 6, vi (Int32.ofNat (X2 b1 b2)), .unset] rfl ?_
  refine go_if_ge_t (pt := 214) d13_118 (ofN_nneg (by omega)) ?_
  refine go_iload d13_214 rfl rfl ?_
  refine go_iload d13_216 rfl rfl ?_
  refine go_iload d13_218 rfl rfl ?_
  refine go_ishl d13_220 rfl (go_eq (y := Int32.ofNat (X2 b1 b2 * 64)) (shlE (k := 6) (by decide) (by decide) (by omega) rfl (by omega)) ?_)
  refine go_ior d13_221 rfl (go_eq (y := Int32.ofNat (X0 b0 * 262144 + X1 b0 b1 * 4096 + X2 b1 b2 * 64)) (orE (k := 12) (by omega) (by omega) rfl (by omega)) ?_)
  refine go_istore d13_222 rfl #[vr dc, vr src, vi 3, vi 4, vr dst, vr fb, vi 0, vi (Int32.ofNat (X0 b0 * 262144 + X1 b0 b1 * 4096 + X2 b1 b2 * 64)), vi 6, vi (Int32.ofNat (X2 b1 b2)), .unset] rfl ?_
  refine go_iincV (-6) 0 d13_224 rfl #[vr dc, vr src, vi 3, vi 4, vr dst, vr fb, vi 0, vi (Int32.ofNat (X0 b0 * 262144 + X1 b0 b1 * 4096 + X2 b1 b2 * 64)), vi 0, vi (Int32.ofNat (X2 b1 b2)), .unset] (by decide) rfl (by decide) rfl ?_
  refine go_iload d13_227 rfl rfl ?_
  refine go_if_ge_t (pt := 278) d13_229 (by decide) ?_
  refine go_goto (pt := 28) d13_278 ?_
  refine go_iloadN d13_28 rfl rfl ?_
  refine go_iloadN d13_29 rfl rfl ?_
  refine go_icmp_ge_f d13_30 rfl (by decide) ?_
  refine go_iload d13_33 rfl rfl ?_
  refine go_bipush 18 d13_35 rfl ?_
  refine go_icmp_ne_t (pt := 90) d13_37 (by decide) ?_
  refine go_iloadN d13_90 rfl rfl ?_
  refine go_iloadN d13_91 rfl rfl ?_
  refine go_icmp_lt_t (pt := 98) d13_92 (by decide) ?_
  refine go_aloadN d13_98 rfl rfl rfl ?_
  refine go_iloadN d13_99 rfl rfl ?_
  refine go_iincV 1 4 d13_100 rfl #[vr dc, vr src, vi 4, vi 4, vr dst, vr fb, vi 0, vi (Int32.ofNat (X0 b0 * 262144 + X1 b0 b1 * 4096 + X2 b1 b2 * 64)), vi 0, vi (Int32.ofNat (X2 b1 b2)), .unset] (by decide) rfl (by decide) rfl ?_
  refine go_baload (v := (.int ((T (X3 b2)).toInt8.toInt32))) 3 d13_103 rfl A ⟨by decide, by decide⟩ (by decide) rfl ?_
  refine go_sipush 255 d13_104 rfl ?_
  refine go_iand d13_107 rfl (go_eq (y := T (X3 b2)) (T_isC lt104).back ?_)
  refine go_istore d13_108 rfl #[vr dc, vr src, vi 4, vi 4, vr dst, vr fb, vi 0, vi (Int32.ofNat (X0 b0 * 262144 + X1 b0 b1 * 4096 + X2 b1 b2 * 64)), vi 0, vi (T (X3 b2)), .unset] rfl ?_
  refine go_aload d13_110 rfl rfl rfl ?_
  refine go_iload d13_112 rfl rfl ?_
  refine go_iaload (v := (.int (Int32.ofNat (X3 b2)))) (tbN (X3 b2)) d13_114 rfl hAg (T_in lt104) (T_cl lt104) (fb_at lt104) ?_
  refine go_dup d13_115 rfl rfl ?_
  refine go_istore d13_116 rfl #[vr dc, vr src, vi 4, vi 4, vr dst, vr fb, vi 0, vi (Int32.ofNat (X0 b0 * 262144 + X1 b0 b1 * 4096 + X2 b1 b2 * 64)), vi 0, vi (Int32.ofNat (X3 b2)), .unset] rfl ?_
  refine go_if_ge_t (pt := 214) d13_118 (ofN_nneg (by omega)) ?_
  refine go_iload d13_214 rfl rfl ?_
  refine go_iload d13_216 rfl rfl ?_
  refine go_iload d13_218 rfl rfl ?_
  refine go_ishl d13_220 rfl (go_eq (y := Int32.ofNat (X3 b2)) (shl0 _) ?_)
  refine go_ior d13_221 rfl (go_eq (y := Int32.ofNat (X0 b0 * 262144 + X1 b0 b1 * 4096 + X2 b1 b2 * 64 + X3 b2)) (orE (k := 6) (by omega) (by omega) rfl (by omega)) ?_)
  refine go_istore d13_222 rfl #[vr dc, vr src, vi 4, vi 4, vr dst, vr fb, vi 0, vi (Int32.ofNat (X0 b0 * 262144 + X1 b0 b1 * 4096 + X2 b1 b2 * 64 + X3 b2)), vi 0, vi (Int32.ofNat (X3 b2)), .unset] rfl ?_
  refine go_iincV (-6) (-6) d13_224 rfl #[vr dc, vr src, vi 4, vi 4, vr dst, vr fb, vi 0, vi (Int32.ofNat (X0 b0 * 262144 + X1 b0 b1 * 4096 + X2 b1 b2 * 64 + X3 b2)), vi (-6), vi (Int32.ofNat (X3 b2)), .unset] (by decide) rfl (by decide) rfl ?_
  refine go_iload d13_227 rfl rfl ?_
  refine go_if_ge_f d13_229 rfl (by decide) ?_
  refine go_aload d13_232 rfl rfl rfl ?_
  refine go_iload d13_234 rfl rfl ?_
  refine go_iincV 1 1 d13_236 rfl #[vr dc, vr src, vi 4, vi 4, vr dst, vr fb, vi 1, vi (Int32.ofNat (X0 b0 * 262144 + X1 b0 b1 * 4096 + X2 b1 b2 * 64 + X3 b2)), vi (-6), vi (Int32.ofNat (X3 b2)), .unset] (by decide) rfl (by decide) rfl ?_
  refine go_iload d13_239 rfl rfl ?_
  refine go_bipush 16 d13_241 rfl ?_
  refine go_ishr d13_243 rfl (go_eq (y := Int32.ofNat ((X0 b0 * 262144 + X1 b0 b1 * 4096 + X2 b1 b2 * 64 + X3 b2) / 65536)) (shrE (k := 16) (by decide) (by decide) (by omega) rfl) ?_)
  refine go_i2b d13_244 rfl (go_eq (y := (Int32.ofNat b0).toInt8.toInt32) (by8 (by simp only [X0, X1, X2, X3] <;> omega)) ?_)
  refine go_bastoreV 0 ((Int32.ofNat b0).toInt8.toInt32) d13_245 rfl (i8i8 _) B ⟨by decide, by decide⟩ (by decide) (by show 0 < 3; decide) (List.Mem.head _) ?_
  intro h105 W106 B107
  have B108 : Arv Z h105 dst kd .byte 3 [(lv (Int32.ofNat b0)), (.int 0), (.int 0)] (.int 0) := B107
  refine go_aload d13_246 rfl rfl rfl ?_
  refine go_iload d13_248 rfl rfl ?_
  refine go_iincV 1 2 d13_250 rfl #[vr dc, vr src, vi 4, vi 4, vr dst, vr fb, vi 2, vi (Int32.ofNat (X0 b0 * 262144 + X1 b0 b1 * 4096 + X2 b1 b2 * 64 + X3 b2)), vi (-6), vi (Int32.ofNat (X3 b2)), .unset] (by decide) rfl (by decide) rfl ?_
  refine go_iload d13_253 rfl rfl ?_
  refine go_bipush 8 d13_255 rfl ?_
  refine go_ishr d13_257 rfl (go_eq (y := Int32.ofNat ((X0 b0 * 262144 + X1 b0 b1 * 4096 + X2 b1 b2 * 64 + X3 b2) / 256)) (shrE (k := 8) (by decide) (by decide) (by omega) rfl) ?_)
  refine go_i2b d13_258 rfl (go_eq (y := (Int32.ofNat b1).toInt8.toInt32) (by8 (by simp only [X0, X1, X2, X3] <;> omega)) ?_)
  refine go_bastoreV 1 ((Int32.ofNat b1).toInt8.toInt32) d13_259 rfl (i8i8 _) B108 ⟨by decide, by decide⟩ (by decide) (by show 1 < 3; decide) (List.Mem.head _) ?_
  intro h109 W110 B111
  have B112 : Arv Z h109 dst kd .byte 3 [(lv (Int32.ofNat b0)), (lv (Int32.ofNat b1)), (.int 0)] (.int 0) := B111
  refine go_aload d13_260 rfl rfl rfl ?_
  refine go_iload d13_262 rfl rfl ?_
  refine go_iincV 1 3 d13_264 rfl #[vr dc, vr src, vi 4, vi 4, vr dst, vr fb, vi 3, vi (Int32.ofNat (X0 b0 * 262144 + X1 b0 b1 * 4096 + X2 b1 b2 * 64 + X3 b2)), vi (-6), vi (Int32.ofNat (X3 b2)), .unset] (by decide) rfl (by decide) rfl ?_
  refine go_iload d13_267 rfl rfl ?_
  refine go_i2b d13_269 rfl (go_eq (y := (Int32.ofNat b2).toInt8.toInt32) (by8 (by simp only [X0, X1, X2, X3] <;> omega)) ?_)
  refine go_bastoreV 2 ((Int32.ofNat b2).toInt8.toInt32) d13_270 rfl (i8i8 _) B112 ⟨by decide, by decide⟩ (by decide) (by show 2 < 3; decide) (List.Mem.head _) ?_
  intro h113 W114 B115
  have B116 : Arv Z h113 dst kd .byte 3 [(lv (Int32.ofNat b0)), (lv (Int32.ofNat b1)), (lv (Int32.ofNat b2))] (.int 0) := B115
  refine go_bipush 18 d13_271 rfl ?_
  refine go_istore d13_273 rfl #[vr dc, vr src, vi 4, vi 4, vr dst, vr fb, vi 3, vi (Int32.ofNat (X0 b0 * 262144 + X1 b0 b1 * 4096 + X2 b1 b2 * 64 + X3 b2)), vi 18, vi (Int32.ofNat (X3 b2)), .unset] rfl ?_
  refine go_iconst 0 d13_275 rfl ?_
  refine go_istore d13_276 rfl #[vr dc, vr src, vi 4, vi 4, vr dst, vr fb, vi 3, vi 0, vi 18, vi (Int32.ofNat (X3 b2)), .unset] rfl ?_
  refine go_goto (pt := 28) d13_278 ?_
  refine go_iloadN d13_28 rfl rfl ?_
  refine go_iloadN d13_29 rfl rfl ?_
  refine go_icmp_ge_t (pt := 281) d13_30 (by decide) ?_
  refine go_iload d13_281 rfl rfl ?_
  refine go_bipush 6 d13_283 rfl ?_
  refine go_icmp_ne_t (pt := 305) d13_285 (by decide) ?_
  refine go_iload d13_305 rfl rfl ?_
  refine go_if_ne_t (pt := 341) d13_307 (by decide) ?_
  refine go_iload d13_341 rfl rfl ?_
  refine go_bipush 12 d13_343 rfl ?_
  refine go_icmp_ne_t (pt := 358) d13_345 (by decide) ?_
  refine go_iloadN d13_358 rfl rfl ?_
  refine go_iloadN d13_359 rfl rfl ?_
  refine go_icmp_ge_t (pt := 416) d13_360 (by decide) ?_
  refine go_iload d13_416 rfl rfl ?_
  refine go_retI d13_418 [] rfl (by decide) (by decide) (fun _ q => nomatch q) ?_
  exact ⟨rfl, rfl, ((((Keep.refl h [dst]).wr W106 (Or.inl (List.Mem.head _))).wr W110 (Or.inl (List.Mem.head _))).wr W114 (Or.inl (List.Mem.head _))), B116⟩
set_option maxRecDepth 65536 in
set_option maxHeartbeats 4000000 in
theorem c_da_3 (hB : Base Z a0) (b0 b1 b2 b3 b4 b5 : Nat) (hb0 : b0 < 256) (hb1 : b1 < 256) (hb2 : b2 < 256) (hb3 : b3 < 256) (hb4 : b4 < 256) (hb5 : b5 < 256) {dc : Addr} (D0 : IsDec Z dc) {src : Addr} {ks : ClassId} {h : Heap} (A : Arv Z h src ks .byte 4 [(lv (T (X0 b0))), (lv (T (X1 b0 b1))), (lv (T (X2 b1 b2))), (lv (T (X3 b2)))] (.int 0)) :
    Con l Z ELc n0 (⟨"java/util/Base64$Decoder", "decode", "([B)[B"⟩ : MethodName) kb11 4 (Option.some (FieldType.array FieldType.byte)) [] (⟨1, 1, 3, 22⟩ : Room) #[.ref dc, .ref src] h [] (fun v h' sf' => ∃ r kr, v = some (.ref r) ∧ sf' = [] ∧ Ext h h' ∧ h.size ≤ r ∧ Arv Z h' r kr .byte 3 [(lv (Int32.ofNat b0)), (lv (Int32.ofNat b1)), (lv (Int32.ofNat b2))] (.int 0)) := by
  refine con_ofA hB (ls := #[.val (.ref dc), .val (.ref src), .unset, .unset]) (fun m => by simp [entryFrame, mkF, argsToLocals, Value.category]) ?_
  show Go _ _ _ _ _ _ "java/util/Base64$Decoder" kb11 4 _ "decode" _ h [] 0 0 0 #[vr dc, vr src, .unset, .unset] []
  refine Go.old (fun hOld => ?_)
  obtain ⟨DX, D1, D2⟩ := id D0
  have DXh := Exa.ext hOld.2 DX
  have D1h := Fld.ext hOld.2 D1
  have D2h := Fld.ext hOld.2 D2
  refine go_aloadN d11_0 rfl rfl rfl ?_
  refine go_aloadN d11_1 rfl rfl rfl ?_
  refine go_iconst 0 d11_2 rfl ?_
  refine go_aloadN d11_3 rfl rfl rfl ?_
  refine go_alen d11_4 rfl A ?_
  refine go_virtual dc [(.ref src), (.int 0), (.int 4)] [] 0 d11_5 rfl DXh (wd hB 79 rfl) (declares_of (wd hB 80 rfl) (wd hB 83 rfl)) (nf_of (wd hB 82 rfl)) (wd hB 82 rfl) (wd hB 80 rfl) (wd hB 34 rfl) (wd hB 83 rfl) (c_dol_3 hB b0 b1 b2 b3 b4 b5 hb0 hb1 hb2 hb3 hb4 hb5 D0 A) (fun _ q => nomatch q) (lenOf pd_9 rfl) rfl rfl rfl (fun v101 h102 s103 q104 => ?_)
  obtain ⟨rfl, rfl, rfl⟩ := q104
  show Go _ _ _ _ _ _ _ _ _ _ _ _ h [] 0 0 8 _ [(.int 3)]
  refine go_newarr (ty := .byte) (ad := "[B") 3 d11_8 rfl rfl (wd hB 18 rfl) (by decide) (by decide) (by decide) (by decide) (by decide) (by decide) ?_
  intro h110 x105 hx106 E107 ⟨A108, k109, B111⟩
  have B112 : Arv Z h110 x105 k109 .byte 3 [(.int 0), (.int 0), (.int 0)] (.int 0) := B111.pad (pad_rep [] (.int 0) 3)
  refine go_astoreN d11_10 rfl #[vr dc, vr src, vr x105, .unset] rfl rfl ?_
  refine go_aloadN d11_11 rfl rfl rfl ?_
  refine go_aloadN d11_12 rfl rfl rfl ?_
  refine go_iconst 0 d11_13 rfl ?_
  refine go_aloadN d11_14 rfl rfl rfl ?_
  have F113 := (A.ext E107)
  refine go_alen d11_15 rfl F113 ?_
  refine go_aloadN d11_16 rfl rfl rfl ?_
  have F118 := (Exa.ext E107 DXh)
  refine go_virtual dc [(.ref src), (.int 0), (.int 4), (.ref x105)] [] 0 d11_17 rfl F118 (wd hB 87 rfl) (declares_of (wd hB 88 rfl) (wd hB 91 rfl)) (nf_of (wd hB 90 rfl)) (wd hB 90 rfl) (wd hB 88 rfl) (wd hB 34 rfl) (wd hB 91 rfl) (c_d0_3 hB b0 b1 b2 b3 b4 b5 hb0 hb1 hb2 hb3 hb4 hb5 D0 (Nat.ne_of_lt (Nat.lt_of_lt_of_le A.lt (Nat.le_of_eq hx106.symm))) F113 B112) (allS (List.Mem.head _) (fun _ q => nomatch q)) (lenOf pd_10 rfl) rfl rfl rfl (fun v114 h115 s116 q117 => ?_)
  obtain ⟨rfl, rfl, K119, B120⟩ := q117
  show Go _ _ _ _ _ _ _ _ _ _ _ _ h115 [x105] 1 3 20 _ [(.int 3)]
  refine go_istoreN d11_20 rfl #[vr dc, vr src, vr x105, vi 3] rfl ?_
  refine go_iloadN d11_21 rfl rfl ?_
  refine go_aloadN d11_22 rfl rfl rfl ?_
  refine go_alen d11_23 rfl B120 ?_
  refine go_icmp_eq_t (pt := 33) d11_24 (by decide) ?_
  refine go_aloadN d11_33 rfl rfl rfl ?_
  refine go_retA d11_34 [] rfl rfl rfl rfl (by decide) (by decide) (fun _ q => nomatch q) ?_
  exact ⟨_, _, rfl, rfl, (ext_of_keep (((Keep.refl h []).ext E107).trans K119 (allS (Or.inr (Nat.le_of_eq hx106.symm)) all0))), (Nat.le_of_eq hx106.symm), B120⟩
set_option maxRecDepth 65536 in
set_option maxHeartbeats 4000000 in
theorem c_ds_3 (hB : Base Z a0) (b0 b1 b2 b3 b4 b5 : Nat) (hb0 : b0 < 256) (hb1 : b1 < 256) (hb2 : b2 < 256) (hb3 : b3 < 256) (hb4 : b4 < 256) (hb5 : b5 < 256) {dc : Addr} (D0 : IsDec Z dc) {is ut : Addr} (SI : Sta Z Z.heap "sun/nio/cs/ISO_8859_1" "INSTANCE" "Lsun/nio/cs/ISO_8859_1;" (.ref is)) (SU : Sta Z Z.heap "sun/nio/cs/UTF_8" "INSTANCE" "Lsun/nio/cs/UTF_8;" (.ref ut)) (IX : Exa Z Z.heap is "sun/nio/cs/ISO_8859_1") (UX : Exa Z Z.heap ut "sun/nio/cs/UTF_8") {s d : Addr} {k : ClassId} {h : Heap} (E : Exa Z h s "java/lang/String") (C : Fld Z h s "java/lang/String" "coder" "B" (.int 0)) (V : Fld Z h s "java/lang/String" "value" "[B" (.ref d)) (A : Arv Z h d k .byte 4 [(lv (T (X0 b0))), (lv (T (X1 b0 b1))), (lv (T (X2 b1 b2))), (lv (T (X3 b2)))] (.int 0)) (X : Exa Z h d "[B") :
    Con l Z ELc n0 (⟨"java/util/Base64$Decoder", "decode", "(Ljava/lang/String;)[B"⟩ : MethodName) kb5 2 (Option.some (FieldType.array FieldType.byte)) [] (⟨5, 2, 11, 76⟩ : Room) #[.ref dc, .ref s] h [] (fun v h' sf' => ∃ r kr, v = some (.ref r) ∧ sf' = [] ∧ Ext h h' ∧ h.size ≤ r ∧ Arv Z h' r kr .byte 3 [(lv (Int32.ofNat b0)), (lv (Int32.ofNat b1)), (lv (Int32.ofNat b2))] (.int 0)) := by
  refine con_ofA hB (ls := #[.val (.ref dc), .val (.ref s)]) (fun m => by simp [entryFrame, mkF, argsToLocals, Value.category]) ?_
  show Go _ _ _ _ _ _ "java/util/Base64$Decoder" kb5 2 _ "decode" _ h [] 0 0 0 #[vr dc, vr s] []
  refine Go.old (fun hOld => ?_)
  obtain ⟨DX, D1, D2⟩ := id D0
  have DXh := Exa.ext hOld.2 DX
  have D1h := Fld.ext hOld.2 D1
  have D2h := Fld.ext hOld.2 D2
  have IXh := Exa.ext hOld.2 IX
  have UXh := Exa.ext hOld.2 UX
  refine go_aloadN d5_0 rfl rfl rfl ?_
  refine go_aloadN d5_1 rfl rfl rfl ?_
  refine go_getstatic d5_2 rfl (wd hB 40 rfl) Via.refl SI ?_
  refine go_virtual s [(.ref is)] [(.ref dc)] 1 d5_5 rfl E (wd hB 42 rfl) (wd hB 43 rfl) (nf_of (wd hB 45 rfl)) (wd hB 45 rfl) (wd hB 44 rfl) (wd hB 6 rfl) (wd hB 46 rfl) (c_gb hB SI SU IX UX (by decide) A X E C V) (fun _ q => nomatch q) (lenOf pd_11 rfl) rfl rfl rfl (fun v101 h102 s103 q104 => ?_)
  obtain ⟨x105, rfl, rfl, E106, g107, X108, A109⟩ := q104
  show Go _ _ _ _ _ _ _ _ _ _ _ _ h102 [x105] 1 8 8 _ [(.ref x105), (.ref dc)]
  have F114 := (Exa.ext E106 DXh)
  refine go_virtual dc [(.ref x105)] [] 0 d5_8 rfl F114 (wd hB 74 rfl) (wd hB 75 rfl) (nf_of (wd hB 77 rfl)) (wd hB 77 rfl) (wd hB 76 rfl) (wd hB 34 rfl) (wd hB 78 rfl) (c_da_3 hB b0 b1 b2 b3 b4 b5 hb0 hb1 hb2 hb3 hb4 hb5 D0 A109) (fun _ q => nomatch q) (lenOf pd_12 rfl) rfl rfl rfl (fun v110 h111 s112 q113 => ?_)
  obtain ⟨r115, k116, rfl, rfl, E117, g118, A119⟩ := q113
  show Go _ _ _ _ _ _ _ _ _ _ _ _ h111 [x105] 2 11 11 _ [(.ref r115)]
  refine go_retA d5_11 [] rfl rfl rfl rfl (by decide) (by decide) (fun _ q => nomatch q) ?_
  exact ⟨_, _, rfl, rfl, (ext_of_keep (((Keep.refl h []).ext E106).ext E117)), (Nat.le_trans E106.1 g118), A119⟩
set_option maxRecDepth 65536 in
set_option maxHeartbeats 4000000 in
theorem c_dol_4 (hB : Base Z a0) (b0 b1 b2 b3 b4 b5 : Nat) (hb0 : b0 < 256) (hb1 : b1 < 256) (hb2 : b2 < 256) (hb3 : b3 < 256) (hb4 : b4 < 256) (hb5 : b5 < 256) {dc : Addr} (D0 : IsDec Z dc) {src : Addr} {ks : ClassId} {h : Heap} (A : Arv Z h src ks .byte 8 [(lv (T (X0 b0))), (lv (T (X1 b0 b1))), (lv (T (X2 b1 b2))), (lv (T (X3 b2))), (lv (T (X0 b3))), (lv (T (X1 b3 0))), (lv (61 : Int32)), (lv (61 : Int32))] (.int 0)) :
    Con l Z ELc n0 (⟨"java/util/Base64$Decoder", "decodedOutLength", "([BII)I"⟩ : MethodName) kb12 9 (Option.some FieldType.int) [] (⟨0, 0, 0, 0⟩ : Room) #[.ref dc, .ref src, .int 0, .int 8] h [] (fun v h' sf' => v = some (.int 4) ∧ sf' = [] ∧ h = h') := by
  refine con_ofA hB (ls := #[.val (.ref dc), .val (.ref src), .val (.int 0), .val (.int 8), .unset, .unset, .unset, .unset, .unset]) (fun m => by simp [entryFrame, mkF, argsToLocals, Value.category]) ?_
  show Go _ _ _ _ _ _ "java/util/Base64$Decoder" kb12 9 _ "decodedOutLength" _ h [] 0 0 0 #[vr dc, vr src, vi 0, vi 8, .unset, .unset, .unset, .unset, .unset] []
  have lt101 : X0 b0 < 64 := (x0_lt hb0)
  have lt102 : X1 b0 b1 < 64 := (x1_lt hb0 hb1)
  have lt103 : X2 b1 b2 < 64 := (x2_lt hb1 hb2)
  have lt104 : X3 b2 < 64 := (x3_lt hb2)
  have lt105 : X0 b3 < 64 := (x0_lt hb3)
  have lt106 : X1 b3 0 < 64 := (x1_lt hb3 (by decide : 0 < 256))
  refine Go.old (fun hOld => ?_)
  obtain ⟨DX, D1, D2⟩ := id D0
  have DXh := Exa.ext hOld.2 DX
  have D1h := Fld.ext hOld.2 D1
  have D2h := Fld.ext hOld.2 D2
  obtain ⟨fb, kf, hSf, hAf⟩ := hB.2.2.2.2.2.2.2.1
  have hAg := hAf.ext hOld.2
  refine go_aloadN d12_0 rfl rfl rfl ?_
  refine go_getfield d12_1 rfl (wd hB 84 rfl) Via.refl D1h ?_
  refine go_if_eq_t (pt := 13) d12_4 (by decide) ?_
  refine go_getstatic d12_13 rfl (wd hB 86 rfl) Via.refl hSf ?_
  refine go_astore d12_16 rfl #[vr dc, vr src, vi 0, vi 8, vr fb, .unset, .unset, .unset, .unset] rfl rfl ?_
  refine go_iconst 0 d12_18 rfl ?_
  refine go_istore d12_19 rfl #[vr dc, vr src, vi 0, vi 8, vr fb, vi 0, .unset, .unset, .unset] rfl ?_
  refine go_iloadN d12_21 rfl rfl ?_
  refine go_iloadN d12_22 rfl rfl ?_
  refine go_isub d12_23 rfl (go_eq (y := 8) (by decide) ?_)
  refine go_istore d12_24 rfl #[vr dc, vr src, vi 0, vi 8, vr fb, vi 0, vi 8, .unset, .unset] rfl ?_
  refine go_iload d12_26 rfl rfl ?_
  refine go_if_ne_t (pt := 33) d12_28 (by decide) ?_
  refine go_iload d12_33 rfl rfl ?_
  refine go_iconst 2 d12_35 rfl ?_
  refine go_icmp_ge_t (pt := 66) d12_36 (by decide) ?_
  refine go_aloadN d12_66 rfl rfl rfl ?_
  refine go_getfield d12_67 rfl (wd hB 176 rfl) Via.refl D2h ?_
  refine go_if_eq_t (pt := 141) d12_70 (by decide) ?_
  refine go_aloadN d12_141 rfl rfl rfl ?_
  refine go_iloadN d12_142 rfl rfl ?_
  refine go_iconst 1 d12_143 rfl ?_
  refine go_isub d12_144 rfl (go_eq (y := 7) (by decide) ?_)
  refine go_baload (v := (.int ((61 : Int32).toInt8.toInt32))) 7 d12_145 rfl A ⟨by decide, by decide⟩ (by decide) rfl ?_
  refine go_bipush 61 d12_146 rfl ?_
  refine go_icmp_ne_f d12_148 rfl (by decide) ?_
  refine go_iincV 1 1 d12_151 rfl #[vr dc, vr src, vi 0, vi 8, vr fb, vi 1, vi 8, .unset, .unset] (by decide) rfl (by decide) rfl ?_
  refine go_aloadN d12_154 rfl rfl rfl ?_
  refine go_iloadN d12_155 rfl rfl ?_
  refine go_iconst 2 d12_156 rfl ?_
  refine go_isub d12_157 rfl (go_eq (y := 6) (by decide) ?_)
  refine go_baload (v := (.int ((61 : Int32).toInt8.toInt32))) 6 d12_158 rfl A ⟨by decide, by decide⟩ (by decide) rfl ?_
  refine go_bipush 61 d12_159 rfl ?_
  refine go_icmp_ne_f d12_161 rfl (by decide) ?_
  refine go_iincV 1 2 d12_164 rfl #[vr dc, vr src, vi 0, vi 8, vr fb, vi 2, vi 8, .unset, .unset] (by decide) rfl (by decide) rfl ?_
  refine go_iload d12_167 rfl rfl ?_
  refine go_if_ne_t (pt := 187) d12_169 (by decide) ?_
  refine go_iconst 3 d12_187 rfl ?_
  refine go_iload d12_188 rfl rfl ?_
  refine go_i2l d12_190 rfl (go_eqL (y := 8) (by decide) ?_)
  refine go_ldc2J d12_191 rfl (wd hB 178 rfl) ?_
  refine go_ladd d12_194 rfl (go_eqL (y := 11) (by decide) ?_)
  refine go_ldc2J d12_195 rfl (wd hB 179 rfl) ?_
  refine go_ldiv d12_198 rfl (by decide) (go_eqL (y := 2) (by decide) ?_)
  refine go_l2i d12_199 rfl (go_eq (y := 2) (by decide) ?_)
  refine go_imul d12_200 rfl (go_eq (y := 6) (by decide) ?_)
  refine go_iload d12_201 rfl rfl ?_
  refine go_isub d12_203 rfl (go_eq (y := 4) (by decide) ?_)
  refine go_retI d12_204 [] rfl (by decide) (by decide) (fun _ q => nomatch q) ?_
  exact ⟨rfl, rfl, rfl⟩
set_option maxRecDepth 65536 in
set_option maxHeartbeats 4000000 in
theorem c_db_4 (hB : Base Z a0) (b0 b1 b2 b3 b4 b5 : Nat) (hb0 : b0 < 256) (hb1 : b1 < 256) (hb2 : b2 < 256) (hb3 : b3 < 256) (hb4 : b4 < 256) (hb5 : b5 < 256) {dc : Addr} {src dst : Addr} {ks kd : ClassId} (hsd : src ≠ dst) {h : Heap} (A : Arv Z h src ks .byte 8 [(lv (T (X0 b0))), (lv (T (X1 b0 b1))), (lv (T (X2 b1 b2))), (lv (T (X3 b2))), (lv (T (X0 b3))), (lv (T (X1 b3 0))), (lv (61 : Int32)), (lv (61 : Int32))] (.int 0)) (B : Arv Z h dst kd .byte 4 [(.int 0), (.int 0), (.int 0), (.int 0)] (.int 0)) :
    Con l Z ELc n0 (⟨"java/util/Base64$Decoder", "decodeBlock", "([BII[BIZZ)I"⟩ : MethodName) kb33 16 (Option.some FieldType.int) [] (⟨0, 0, 0, 0⟩ : Room) #[.ref dc, .ref src, .int 0, .int 8, .ref dst, .int 0, .int 0, .int 0] h [dst] (fun v h' sf' => v = some (.int 3) ∧ sf' = [] ∧ Keep h h' [dst] ∧ Arv Z h' dst kd .byte 4 [(lv (Int32.ofNat b0)), (lv (Int32.ofNat b1)), (lv (Int32.ofNat b2)), (.int 0)] (.int 0)) := by
  refine con_ofA hB (ls := #[.val (.ref dc), .val (.ref src), .val (.int 0), .val (.int 8), .val (.ref dst), .val (.int 0), .val (.int 0), .val (.int 0), .unset, .unset, .unset, .unset, .unset, .unset, .unset, .unset]) (fun m => by simp [entryFrame, mkF, argsToLocals, Value.category]) ?_
  show Go _ _ _ _ _ _ "java/util/Base64$Decoder" kb33 16 _ "decodeBlock" _ h [dst] 0 0 0 #[vr dc, vr src, vi 0, vi 8, vr dst, vi 0, vi 0, vi 0, .unset, .unset, .unset, .unset, .unset, .unset, .unset, .unset] []
  have lt101 : X0 b0 < 64 := (x0_lt hb0)
  have lt102 : X1 b0 b1 < 64 := (x1_lt hb0 hb1)
  have lt103 : X2 b1 b2 < 64 := (x2_lt hb1 hb2)
  have lt104 : X3 b2 < 64 := (x3_lt hb2)
  have lt105 : X0 b3 < 64 := (x0_lt hb3)
  have lt106 : X1 b3 0 < 64 := (x1_lt hb3 (by decide : 0 < 256))
  refine Go.owned (fun hOw => ?_)
  have hge := (hOw dst (List.Mem.head _)).2
  obtain ⟨fb, kf, hSf, hAf⟩ := hB.2.2.2.2.2.2.2.1
  refine Go.old (fun hOld => ?_)
  have hAg := hAf.ext hOld.2
  refine go_iload d33_0 rfl rfl ?_
  refine go_if_eq_t (pt := 11) d33_2 (by decide) ?_
  refine go_getstatic d33_11 rfl (wd hB 86 rfl) Via.refl hSf ?_
  refine go_astore d33_14 rfl #[vr dc, vr src, vi 0, vi 8, vr dst, vi 0, vi 0, vi 0, vr fb, .unset, .unset, .unset, .unset, .unset, .unset, .unset] rfl rfl ?_
  refine go_iloadN d33_16 rfl rfl ?_
  refine go_iloadN d33_17 rfl rfl ?_
  refine go_iloadN d33_18 rfl rfl ?_
  refine go_isub d33_19 rfl (go_eq (y := 8) (by decide) ?_)
  refine go_bipush (-4) d33_20 rfl ?_
  refine go_iand d33_22 rfl (go_eq (y := 8) (by decide) ?_)
  refine go_iadd d33_23 rfl (go_eq (y := 8) (by decide) ?_)
  refine go_istore d33_24 rfl #[vr dc, vr src, vi 0, vi 8, vr dst, vi 0, vi 0, vi 0, vr fb, vi 8, .unset, .unset, .unset, .unset, .unset, .unset] rfl ?_
  refine go_iload d33_26 rfl rfl ?_
  refine go_istore d33_28 rfl #[vr dc, vr src, vi 0, vi 8, vr dst, vi 0, vi 0, vi 0, vr fb, vi 8, vi 0, .unset, .unset, .unset, .unset, .unset] rfl ?_
  refine go_iloadN d33_30 rfl rfl ?_
  refine go_iload d33_31 rfl rfl ?_
  refine go_icmp_ge_f d33_33 rfl (by decide) ?_
  refine go_aload d33_36 rfl rfl rfl ?_
  refine go_aloadN d33_38 rfl rfl rfl ?_
  refine go_iloadN d33_39 rfl rfl ?_
  refine go_iincV 1 1 d33_40 rfl #[vr dc, vr src, vi 1, vi 8, vr dst, vi 0, vi 0, vi 0, vr fb, vi 8, vi 0, .unset, .unset, .unset, .unset, .unset] (by decide) rfl (by decide) rfl ?_
  refine go_baload (v := (.int ((T (X0 b0)).toInt8.toInt32))) 0 d33_43 rfl A ⟨by decide, by decide⟩ (by decide) rfl ?_
  refine go_sipush 255 d33_44 rfl ?_
  refine go_iand d33_47 rfl (go_eq (y := T (X0 b0)) (T_isC lt101).back ?_)
  refine go_iaload (v := (.int (Int32.ofNat (X0 b0)))) (tbN (X0 b0)) d33_48 rfl hAg (T_in lt101) (T_cl lt101) (fb_at lt101) ?_
  refine go_istore d33_49 rfl #[vr dc, vr src, vi 1, vi 8, vr dst, vi 0, vi 0, vi 0, vr fb, vi 8, vi 0, vi (Int32.ofNat (X0 b0)), .unset, .unset, .unset, .unset] rfl ?_
  refine go_aload d33_51 rfl rfl rfl ?_
  refine go_aloadN d33_53 rfl rfl rfl ?_
  refine go_iloadN d33_54 rfl rfl ?_
  refine go_iincV 1 2 d33_55 rfl #[vr dc, vr src, vi 2, vi 8, vr dst, vi 0, vi 0, vi 0, vr fb, vi 8, vi 0, vi (Int32.ofNat (X0 b0)), .unset, .unset, .unset, .unset] (by decide) rfl (by decide) rfl ?_
  refine go_baload (v := (.int ((T (X1 b0 b1)).toInt8.toInt32))) 1 d33_58 rfl A ⟨by decide, by decide⟩ (by decide) rfl ?_
  refine go_sipush 255 d33_59 rfl ?_
  refine go_iand d33_62 rfl (go_eq (y := T (X1 b0 b1)) (T_isC lt102).back ?_)
  refine go_iaload (v := (.int (Int32.ofNat (X1 b0 b1)))) (tbN (X1 b0 b1)) d33_63 rfl hAg (T_in lt102) (T_cl lt102) (fb_at lt102) ?_
  refine go_istore d33_64 rfl #[vr dc, vr src, vi 2, vi 8, vr dst, vi 0, vi 0, vi 0, vr fb, vi 8, vi 0, vi (Int32.ofNat (X0 b0)), vi (Int32.ofNat (X1 b0 b1)), .unset, .unset, .unset] rfl ?_
  refine go_aload d33_66 rfl rfl rfl ?_
  refine go_aloadN d33_68 rfl rfl rfl ?_
  refine go_iloadN d33_69 rfl rfl ?_
  refine go_iincV 1 3 d33_70 rfl #[vr dc, vr src, vi 3, vi 8, vr dst, vi 0, vi 0, vi 0, vr fb, vi 8, vi 0, vi (Int32.ofNat (X0 b0)), vi (Int32.ofNat (X1 b0 b1)), .unset, .unset, .unset] (by decide) rfl (by decide) rfl ?_
  refine go_baload (v := (.int ((T (X2 b1 b2)).toInt8.toInt32))) 2 d33_73 rfl A ⟨by decide, by decide⟩ (by decide) rfl ?_
  refine go_sipush 255 d33_74 rfl ?_
  refine go_iand d33_77 rfl (go_eq (y := T (X2 b1 b2)) (T_isC lt103).back ?_)
  refine go_iaload (v := (.int (Int32.ofNat (X2 b1 b2)))) (tbN (X2 b1 b2)) d33_78 rfl hAg (T_in lt103) (T_cl lt103) (fb_at lt103) ?_
  refine go_istore d33_79 rfl #[vr dc, vr src, vi 3, vi 8, vr dst, vi 0, vi 0, vi 0, vr fb, vi 8, vi 0, vi (Int32.ofNat (X0 b0)), vi (Int32.ofNat (X1 b0 b1)), vi (Int32.ofNat (X2 b1 b2)), .unset, .unset] rfl ?_
  refine go_aload d33_81 rfl rfl rfl ?_
  refine go_aloadN d33_83 rfl rfl rfl ?_
  refine go_iloadN d33_84 rfl rfl ?_
  refine go_iincV 1 4 d33_85 rfl #[vr dc, vr src, vi 4, vi 8, vr dst, vi 0, vi 0, vi 0, vr fb, vi 8, vi 0, vi (Int32.ofNat (X0 b0)), vi (Int32.ofNat (X1 b0 b1)), vi (Int32.ofNat (X2 b1 b2)), .unset, .unset] (by decide) rfl (by decide) rfl ?_
  refine go_baload (v := (.int ((T (X3 b2)).toInt8.toInt32))) 3 d33_88 rfl A ⟨by decide, by decide⟩ (by decide) rfl ?_
  refine go_sipush 255 d33_89 rfl ?_
  refine go_iand d33_92 rfl (go_eq (y := T (X3 b2)) (T_isC lt104).back ?_)
  refine go_iaload (v := (.int (Int32.ofNat (X3 b2)))) (tbN (X3 b2)) d33_93 rfl hAg (T_in lt104) (T_cl lt104) (fb_at lt104) ?_
  refine go_istore d33_94 rfl #[vr dc, vr src, vi 4, vi 8, vr dst, vi 0, vi 0, vi 0, vr fb, vi 8, vi 0, vi (Int32.ofNat (X0 b0)), vi (Int32.ofNat (X1 b0 b1)), vi (Int32.ofNat (X2 b1 b2)), vi (Int32.ofNat (X3 b2)), .unset] rfl ?_
  refine go_iload d33_96 rfl rfl ?_
  refine go_iload d33_98 rfl rfl ?_
  refine go_ior d33_100 rfl ?_
  refine go_iload d33_101 rfl rfl ?_
  refine go_ior d33_103 rfl ?_
  refine go_iload d33_104 rfl rfl ?_
  refine go_ior d33_106 rfl ?_
  refine go_if_ge_t (pt := 116) d33_107 (or_nn (or_nn (or_nn (ofN_nneg (by omega)) (ofN_nneg (by omega))) (ofN_nneg (by omega))) (ofN_nneg (by omega))) ?_
  refine go_iload d33_116 rfl rfl ?_
  refine go_bipush 18 d33_118 rfl ?_
  refine go_ishl d33_120 rfl (go_eq (y := Int32.ofNat (X0 b0 * 262144)) (shlE (k := 18) (by decide) (by decide) (by omega) rfl (by omega)) ?_)
  refine go_iload d33_121 rfl rfl ?_
  refine go_bipush 12 d33_123 rfl ?_
  refine go_ishl d33_125 rfl (go_eq (y := Int32.ofNat (X1 b0 b1 * 4096)) (shlE (k := 12) (by decide) (by decide) (by omega) rfl (by omega)) ?_)
  refine go_ior d33_126 rfl (go_eq (y := Int32.ofNat (X0 b0 * 262144 + X1 b0 b1 * 4096)) (orE (k := 18) (by omega) (by omega) rfl (by omega)) ?_)
  refine go_iload d33_127 rfl rfl ?_
  refine go_bipush 6 d33_129 rfl ?_
  refine go_ishl d33_131 rfl (go_eq (y := Int32.ofNat (X2 b1 b2 * 64)) (shlE (k := 6) (by decide) (by decide) (by omega) rfl (by omega)) ?_)
  refine go_ior d33_132 rfl (go_eq (y := Int32.ofNat (X0 b0 * 262144 + X1 b0 b1 * 4096 + X2 b1 b2 * 64)) (orE (k := 12) (by omega) (by omega) rfl (by omega)) ?_)
  refine go_iload d33_133 rfl rfl ?_
  refine go_ior d33_135 rfl (go_eq (y := Int32.ofNat (X0 b0 * 262144 + X1 b0 b1 * 4096 + X2 b1 b2 * 64 + X3 b2)) (orE (k := 6) (by omega) (by omega) rfl (by omega)) ?_)
  refine go_istore d33_136 rfl #[vr dc, vr src, vi 4, vi 8, vr dst, vi 0, vi 0, vi 0, vr fb, vi 8, vi 0, vi (Int32.ofNat (X0 b0)), vi (Int32.ofNat (X1 b0 b1)), vi (Int32.ofNat (X2 b1 b2)), vi (Int32.ofNat (X3 b2)), vi (Int32.ofNat (X0 b0 * 262144 + X1 b0 b1 * 4096 + X2 b1 b2 * 64 + X3 b2))] rfl ?_
  refine go_aload d33_138 rfl rfl rfl ?_
  refine go_iload d33_140 rfl rfl ?_
  refine go_iincV 1 1 d33_142 rfl #[vr dc, vr src, vi 4, vi 8, vr dst, vi 0, vi 0, vi 0, vr fb, vi 8, vi 1, vi (Int32.ofNat (X0 b0)), vi (Int32.ofNat (X1 b0 b1)), vi (Int32.ofNat (X2 b1 b2)), vi (Int32.ofNat (X3 b2)), vi (Int32.ofNat (X0 b0 * 262144 + X1 b0 b1 * 4096 + X2 b1 b2 * 64 + X3 b2))] (by decide) rfl (by decide) rfl ?_
  refine go_iload d33_145 rfl rfl ?_
  refine go_bipush 16 d33_147 rfl ?_
  refine go_ishr d33_149 rfl (go_eq (y := Int32.ofNat ((X0 b0 * 262144 + X1 b0 b1 * 4096 + X2 b1 b2 * 64 + X3 b2) / 65536)) (shrE (k := 16) (by decide) (by decide) (by omega) rfl) ?_)
  refine go_i2b d33_150 rfl (go_eq (y := (Int32.ofNat b0).toInt8.toInt32) (by8 (by simp only [X0, X1, X2, X3] <;> omega)) ?_)
  refine go_bastoreV 0 ((Int32.ofNat b0).toInt8.toInt32) d33_151 rfl (i8i8 _) B ⟨by decide, by decide⟩ (by decide) (by show 0 < 4; decide) (List.Mem.head _) ?_
  intro h107 W108 B109
  have B110 : Arv Z h107 dst kd .byte 4 [(lv (Int32.ofNat b0)), (.int 0), (.int 0), (.int 0)] (.int 0) := B109
  refine go_aload d33_152 rfl rfl rfl ?_
  refine go_iload d33_154 rfl rfl ?_
  refine go_iincV 1 2 d33_156 rfl #[vr dc, vr src, vi 4, vi 8, vr dst, vi 0, vi 0, vi 0, vr fb, vi 8, vi 2, vi (Int32.ofNat (X0 b0)), vi (Int32.ofNat (X1 b0 b1)), vi (Int32.ofNat (X2 b1 b2)), vi (Int32.ofNat (X3 b2)), vi (Int32.ofNat (X0 b0 * 262144 + X1 b0 b1 * 4096 + X2 b1 b2 * 64 + X3 b2))] (by decide) rfl (by decide) rfl ?_
  refine go_iload d33_159 rfl rfl ?_
  refine go_bipush 8 d33_161 rfl ?_
  refine go_ishr d33_163 rfl (go_eq (y := Int32.ofNat ((X0 b0 * 262144 + X1 b0 b1 * 4096 + X2 b1 b2 * 64 + X3 b2) / 256)) (shrE (k := 8) (by decide) (by decide) (by omega) rfl) ?_)
  refine go_i2b d33_164 rfl (go_eq (y := (Int32.ofNat b1).toInt8.toInt32) (by8 (by simp only [X0, X1, X2, X3] <;> omega)) ?_)
  refine go_bastoreV 1 ((Int32.ofNat b1).toInt8.toInt32) d33_165 rfl (i8i8 _) B110 ⟨by decide, by decide⟩ (by decide) (by show 1 < 4; decide) (List.Mem.head _) ?_
  intro h111 W112 B113
  have B114 : Arv Z h111 dst kd .byte 4 [(lv (Int32.ofNat b0)), (lv (Int32.ofNat b1)), (.int 0), (.int 0)] (.int 0) := B113
  refine go_aload d33_166 rfl rfl rfl ?_
  refine go_iload d33_168 rfl rfl ?_
  refine go_iincV 1 3 d33_170 rfl #[vr dc, vr src, vi 4, vi 8, vr dst, vi 0, vi 0, vi 0, vr fb, vi 8, vi 3, vi (Int32.ofNat (X0 b0)), vi (Int32.ofNat (X1 b0 b1)), vi (Int32.ofNat (X2 b1 b2)), vi (Int32.ofNat (X3 b2)), vi (Int32.ofNat (X0 b0 * 262144 + X1 b0 b1 * 4096 + X2 b1 b2 * 64 + X3 b2))] (by decide) rfl (by decide) rfl ?_
  refine go_iload d33_173 rfl rfl ?_
  refine go_i2b d33_175 rfl (go_eq (y := (Int32.ofNat b2).toInt8.toInt32) (by8 (by simp only [X0, X1, X2, X3] <;> omega)) ?_)
  refine go_bastoreV 2 ((Int32.ofNat b2).toInt8.toInt32) d33_176 rfl (i8i8 _) B114 ⟨by decide, by decide⟩ (by decide) (by show 2 < 4; decide) (List.Mem.head _) ?_
  intro h115 W116 B117
  have B118 : Arv Z h115 dst kd .byte 4 [(lv (Int32.ofNat b0)), (lv (Int32.ofNat b1)), (lv (Int32.ofNat b2)), (.int 0)] (.int 0) := B117
  refine go_goto (pt := 30) d33_177 ?_
  refine go_iloadN d33_30 rfl rfl ?_
  refine go_iload d33_31 rfl rfl ?_
  refine go_icmp_ge_f d33_33 rfl (by decide) ?_
  refine go_aload d33_36 rfl rfl rfl ?_
  refine go_aloadN d33_38 rfl rfl rfl ?_
  refine go_iloadN d33_39 rfl rfl ?_
  refine go_iincV 1 5 d33_40 rfl #[vr dc, vr src, vi 5, vi 8, vr dst, vi 0, vi 0, vi 0, vr fb, vi 8, vi 3, vi (Int32.ofNat (X0 b0)), vi (Int32.ofNat (X1 b0 b1)), vi (Int32.ofNat (X2 b1 b2)), vi (Int32.ofNat (X3 b2)), vi (Int32.ofNat (X0 b0 * 262144 + X1 b0 b1 * 4096 + X2 b1 b2 * 64 + X3 b2))] (by decide) rfl (by decide) rfl ?_
  have F119 := (Arv.other (Arv.other (Arv.other A W108 hsd) W112 hsd) W116 hsd)
  refine go_baload (v := (.int ((T (X0 b3)).toInt8.toInt32))) 4 d33_43 rfl F119 ⟨by decide, by decide⟩ (by decide) rfl ?_
  refine go_sipush 255 d33_44 rfl ?_
  refine go_iand d33_47 rfl (go_eq (y := T (X0 b3)) (T_isC lt105).back ?_)
  have F120 := (Arv.other (Arv.other (Arv.other hAg W108 (old_ne hOld hAf.lt hge)) W112 (old_ne hOld hAf.lt hge)) W116 (old_ne hOld hAf.lt hge))
  refine go_iaload (v := (.int (Int32.ofNat (X0 b3)))) (tbN (X0 b3)) d33_48 rfl F120 (T_in lt105) (T_cl lt105) (fb_at lt105) ?_
  refine go_istore d33_49 rfl #[vr dc, vr src, vi 5, vi 8, vr dst, vi 0, vi 0, vi 0, vr fb, vi 8, vi 3, vi (Int32.ofNat (X0 b3)), vi (Int32.ofNat (X1 b0 b1)), vi (Int32.ofNat (X2 b1 b2)), vi (Int32.ofNat (X3 b2)), vi (Int32.ofNat (X0 b0 * 262144 + X1 b0 b1 * 4096 + X2 b1 b2 * 64 + X3 b2))] rfl ?_
  refine go_aload d33_51 rfl rfl rfl ?_
  refine go_aloadN d33_53 rfl rfl rfl ?_
  refine go_iloadN d33_54 rfl rfl ?_
  refine go_iincV 1 6 d33_55 rfl #[vr dc, vr src, vi 6, vi 8, vr dst, vi 0, vi 0, vi 0, vr fb, vi 8, vi 3, vi (Int32.ofNat (X0 b3)), vi (Int32.ofNat (X1 b0 b1)), vi (Int32.ofNat (X2 b1 b2)), vi (Int32.ofNat (X3 b2)), vi (Int32.ofNat (X0 b0 * 262144 + X1 b0 b1 * 4096 + X2 b1 b2 * 64 + X3 b2))] (by decide) rfl (by decide) rfl ?_
  refine go_baload (v := (.int ((T (X1 b3 0)).toInt8.toInt32))) 5 d33_58 rfl F119 ⟨by decide, by decide⟩ (by decide) rfl ?_
  refine go_sipush 255 d33_59 rfl ?_
  refine go_iand d33_62 rfl (go_eq (y := T (X1 b3 0)) (T_isC lt106).back ?_)
  refine go_iaload (v := (.int (Int32.ofNat (X1 b3 0)))) (tbN (X1 b3 0)) d33_63 rfl F120 (T_in lt106) (T_cl lt106) (fb_at lt106) ?_
  refine go_istore d33_64 rfl #[vr dc, vr src, vi 6, vi 8, vr dst, vi 0, vi 0, vi 0, vr fb, vi 8, vi 3, vi (Int32.ofNat (X0 b3)), vi (Int32.ofNat (X1 b3 0)), vi (Int32.ofNat (X2 b1 b2)), vi (Int32.ofNat (X3 b2)), vi (Int32.ofNat (X0 b0 * 262144 + X1 b0 b1 * 4096 + X2 b1 b2 * 64 + X3 b2))] rfl ?_
  refine go_aload d33_66 rfl rfl rfl ?_
  refine go_aloadN d33_68 rfl rfl rfl ?_
  refine go_iloadN d33_69 rfl rfl ?_
  refine go_iincV 1 7 d33_70 rfl #[vr dc, vr src, vi 7, vi 8, vr dst, vi 0, vi 0, vi 0, vr fb, vi 8, vi 3, vi (Int32.ofNat (X0 b3)), vi (Int32.ofNat (X1 b3 0)), vi (Int32.ofNat (X2 b1 b2)), vi (Int32.ofNat (X3 b2)), vi (Int32.ofNat (X0 b0 * 262144 + X1 b0 b1 * 4096 + X2 b1 b2 * 64 + X3 b2))] (by decide) rfl (by decide) rfl ?_
  refine go_baload (v := (.int ((61 : Int32).toInt8.toInt32))) 6 d33_73 rfl F119 ⟨by decide, by decide⟩ (by decide) rfl ?_
  refine go_sipush 255 d33_74 rfl ?_
  refine go_iand d33_77 rfl (go_eq (y := 61) (by decide) ?_)
  refine go_iaload (v := (.int (-2))) 61 d33_78 rfl F120 ⟨by decide, by decide⟩ (by decide) fb_eq ?_
  refine go_istore d33_79 rfl #[vr dc, vr src, vi 7, vi 8, vr dst, vi 0, vi 0, vi 0, vr fb, vi 8, vi 3, vi (Int32.ofNat (X0 b3)), vi (Int32.ofNat (X1 b3 0)), vi (-2), vi (Int32.ofNat (X3 b2)), vi (Int32.ofNat (X0 b0 * 262144 + X1 b0 b1 * 4096 + X2 b1 b2 * 64 + X3 b2))] rfl ?_
  refine go_aload d33_81 rfl rfl rfl ?_
  refine go_aloadN d33_83 rfl rfl rfl ?_
  refine go_iloadN d33_84 rfl rfl ?_
  refine go_iincV 1 8 d33_85 rfl #[vr dc, vr src, vi 8, vi 8, vr dst, vi 0, vi 0, vi 0, vr fb, vi 8, vi 3, vi (Int32.ofNat (X0 b3)), vi (Int32.ofNat (X1 b3 0)), vi (-2), vi (Int32.ofNat (X3 b2)), vi (Int32.ofNat (X0 b0 * 262144 + X1 b0 b1 * 4096 + X2 b1 b2 * 64 + X3 b2))] (by decide) rfl (by decide) rfl ?_
  refine go_baload (v := (.int ((61 : Int32).toInt8.toInt32))) 7 d33_88 rfl F119 ⟨by decide, by decide⟩ (by decide) rfl ?_
  refine go_sipush 255 d33_89 rfl ?_
  refine go_iand d33_92 rfl (go_eq (y := 61) (by decide) ?_)
  refine go_iaload (v := (.int (-2))) 61 d33_93 rfl F120 ⟨by decide, by decide⟩ (by decide) fb_eq ?_
  refine go_istore d33_94 rfl #[vr dc, vr src, vi 8, vi 8, vr dst, vi 0, vi 0, vi 0, vr fb, vi 8, vi 3, vi (Int32.ofNat (X0 b3)), vi (Int32.ofNat (X1 b3 0)), vi (-2), vi (-2), vi (Int32.ofNat (X0 b0 * 262144 + X1 b0 b1 * 4096 + X2 b1 b2 * 64 + X3 b2))] rfl ?_
  refine go_iload d33_96 rfl rfl ?_
  refine go_iload d33_98 rfl rfl ?_
  refine go_ior d33_100 rfl ?_
  refine go_iload d33_101 rfl rfl ?_
  refine go_ior d33_103 rfl ?_
  refine go_iload d33_104 rfl rfl ?_
  refine go_ior d33_106 rfl ?_
  refine go_if_ge_f d33_107 rfl (or_neg _) ?_
  refine go_iload d33_110 rfl rfl ?_
  refine go_iload d33_112 rfl rfl ?_
  refine go_isub d33_114 rfl (go_eq (y := 3) (by decide) ?_)
  refine go_retI d33_115 [] rfl (by decide) (by decide) (fun _ q => nomatch q) ?_
  exact ⟨rfl, rfl, ((((Keep.refl h [dst]).wr W108 (Or.inl (List.Mem.head _))).wr W112 (Or.inl (List.Mem.head _))).wr W116 (Or.inl (List.Mem.head _))), B118⟩
set_option maxRecDepth 65536 in
set_option maxHeartbeats 4000000 in
theorem c_d0_4 (hB : Base Z a0) (b0 b1 b2 b3 b4 b5 : Nat) (hb0 : b0 < 256) (hb1 : b1 < 256) (hb2 : b2 < 256) (hb3 : b3 < 256) (hb4 : b4 < 256) (hb5 : b5 < 256) {dc : Addr} (D0 : IsDec Z dc) {src dst : Addr} {ks kd : ClassId} (hsd : src ≠ dst) {h : Heap} (A : Arv Z h src ks .byte 8 [(lv (T (X0 b0))), (lv (T (X1 b0 b1))), (lv (T (X2 b1 b2))), (lv (T (X3 b2))), (lv (T (X0 b3))), (lv (T (X1 b3 0))), (lv (61 : Int32)), (lv (61 : Int32))] (.int 0)) (B : Arv Z h dst kd .byte 4 [(.int 0), (.int 0), (.int 0), (.int 0)] (.int 0)) :
    Con l Z ELc n0 (⟨"java/util/Base64$Decoder", "decode0", "([BII[B)I"⟩ : MethodName) kb13 11 (Option.some FieldType.int) [] (⟨1, 0, 0, 27⟩ : Room) #[.ref dc, .ref src, .int 0, .int 8, .ref dst] h [dst] (fun v h' sf' => v = some (.int 4) ∧ sf' = [] ∧ Keep h h' [dst] ∧ Arv Z h' dst kd .byte 4 [(lv (Int32.ofNat b0)), (lv (Int32.ofNat b1)), (lv (Int32.ofNat b2)), (lv (Int32.ofNat b3))] (.int 0)) := by
  refine con_ofA hB (ls := #[.val (.ref dc), .val (.ref src), .val (.int 0), .val (.int 8), .val (.ref dst), .unset, .unset, .unset, .unset, .unset, .unset]) (fun m => by simp [entryFrame, mkF, argsToLocals, Value.category]) ?_
  show Go _ _ _ _ _ _ "java/util/Base64$Decoder" kb13 11 _ "decode0" _ h [dst] 0 0 0 #[vr dc, vr src, vi 0, vi 8, vr dst, .unset, .unset, .unset, .unset, .unset, .unset] []
  have lt101 : X0 b0 < 64 := (x0_lt hb0)
  have lt102 : X1 b0 b1 < 64 := (x1_lt hb0 hb1)
  have lt103 : X2 b1 b2 < 64 := (x2_lt hb1 hb2)
  have lt104 : X3 b2 < 64 := (x3_lt hb2)
  have lt105 : X0 b3 < 64 := (x0_lt hb3)
  have lt106 : X1 b3 0 < 64 := (x1_lt hb3 (by decide : 0 < 256))
  refine Go.owned (fun hOw => ?_)
  have hge := (hOw dst (List.Mem.head _)).2
  refine Go.old (fun hOld => ?_)
  obtain ⟨DX, D1, D2⟩ := id D0
  have DXh := Exa.ext hOld.2 DX
  have D1h := Fld.ext hOld.2 D1
  have D2h := Fld.ext hOld.2 D2
  obtain ⟨fb, kf, hSf, hAf⟩ := hB.2.2.2.2.2.2.2.1
  have hAg := hAf.ext hOld.2
  refine go_aloadN d13_0 rfl rfl rfl ?_
  refine go_getfield d13_1 rfl (wd hB 84 rfl) Via.refl D1h ?_
  refine go_if_eq_t (pt := 13) d13_4 (by decide) ?_
  refine go_getstatic d13_13 rfl (wd hB 86 rfl) Via.refl hSf ?_
  refine go_astore d13_16 rfl #[vr dc, vr src, vi 0, vi 8, vr dst, vr fb, .unset, .unset, .unset, .unset, .unset] rfl rfl ?_
  refine go_iconst 0 d13_18 rfl ?_
  refine go_istore d13_19 rfl #[vr dc, vr src, vi 0, vi 8, vr dst, vr fb, vi 0, .unset, .unset, .unset, .unset] rfl ?_
  refine go_iconst 0 d13_21 rfl ?_
  refine go_istore d13_22 rfl #[vr dc, vr src, vi 0, vi 8, vr dst, vr fb, vi 0, vi 0, .unset, .unset, .unset] rfl ?_
  refine go_bipush 18 d13_24 rfl ?_
  refine go_istore d13_26 rfl #[vr dc, vr src, vi 0, vi 8, vr dst, vr fb, vi 0, vi 0, vi 18, .unset, .unset] rfl ?_
  refine go_iloadN d13_28 rfl rfl ?_
  refine go_iloadN d13_29 rfl rfl ?_
  refine go_icmp_ge_f d13_30 rfl (by decide) ?_
  refine go_iload d13_33 rfl rfl ?_
  refine go_bipush 18 d13_35 rfl ?_
  refine go_icmp_ne_f d13_37 rfl (by decide) ?_
  refine go_iloadN d13_40 rfl rfl ?_
  refine go_iloadN d13_41 rfl rfl ?_
  refine go_iconst 4 d13_42 rfl ?_
  refine go_isub d13_43 rfl (go_eq (y := 4) (by decide) ?_)
  refine go_icmp_ge_f d13_44 rfl (by decide) ?_
  refine go_aloadN d13_47 rfl rfl rfl ?_
  refine go_aloadN d13_48 rfl rfl rfl ?_
  refine go_iloadN d13_49 rfl rfl ?_
  refine go_iloadN d13_50 rfl rfl ?_
  refine go_aload d13_51 rfl rfl rfl ?_
  refine go_iload d13_53 rfl rfl ?_
  refine go_aloadN d13_55 rfl rfl rfl ?_
  refine go_getfield d13_56 rfl (wd hB 84 rfl) Via.refl D1h ?_
  refine go_aloadN d13_59 rfl rfl rfl ?_
  refine go_getfield d13_60 rfl (wd hB 176 rfl) Via.refl D2h ?_
  refine go_virtual dc [(.ref src), (.int 0), (.int 8), (.ref dst), (.int 0), (.int 0), (.int 0)] [] 0 d13_63 rfl DXh (wd hB 186 rfl) (declares_of (wd hB 187 rfl) (wd hB 190 rfl)) (nf_of (wd hB 189 rfl)) (wd hB 189 rfl) (wd hB 187 rfl) (wd hB 34 rfl) (wd hB 190 rfl) (c_db_4 hB b0 b1 b2 b3 b4 b5 hb0 hb1 hb2 hb3 hb4 hb5 hsd A B) (allS (List.Mem.head _) (fun _ q => nomatch q)) (lenOf pd_13 rfl) rfl rfl rfl (fun v107 h108 s109 q110 => ?_)
  obtain ⟨rfl, rfl, K111, B112⟩ := q110
  show Go _ _ _ _ _ _ _ _ _ _ _ _ h108 [dst] 0 0 66 _ [(.int 3)]
  refine go_istore d13_66 rfl #[vr dc, vr src, vi 0, vi 8, vr dst, vr fb, vi 0, vi 0, vi 18, vi 3, .unset] rfl ?_
  refine go_iload d13_68 rfl rfl ?_
  refine go_iconst 2 d13_70 rfl ?_
  refine go_iadd d13_71 rfl (go_eq (y := 5) (by decide) ?_)
  refine go_iconst 3 d13_72 rfl ?_
  refine go_idiv d13_73 rfl (by decide) (go_eq (y := 1) (by decide) ?_)
  refine go_iconst 4 d13_74 rfl ?_
  refine go_imul d13_75 rfl (go_eq (y := 4) (by decide) ?_)
  refine go_istore d13_76 rfl #[vr dc, vr src, vi 0, vi 8, vr dst, vr fb, vi 0, vi 0, vi 18, vi 3, vi 4] rfl ?_
  refine go_iloadN d13_78 rfl rfl ?_
  refine go_iload d13_79 rfl rfl ?_
  refine go_iadd d13_81 rfl (go_eq (y := 4) (by decide) ?_)
  refine go_istoreN d13_82 rfl #[vr dc, vr src, vi 4, vi 8, vr dst, vr fb, vi 0, vi 0, vi 18, vi 3, vi 4] rfl ?_
  refine go_iload d13_83 rfl rfl ?_
  refine go_iload d13_85 rfl rfl ?_
  refine go_iadd d13_87 rfl (go_eq (y := 3) (by decide) ?_)
  refine go_istore d13_88 rfl #[vr dc, vr src, vi 4, vi 8, vr dst, vr fb, vi 3, vi 0, vi 18, vi 3, vi 4] rfl ?_
  refine go_iloadN d13_90 rfl rfl ?_
  refine go_iloadN d13_91 rfl rfl ?_
  refine go_icmp_lt_t (pt := 98) d13_92 (by decide) ?_
  refine go_aloadN d13_98 rfl rfl rfl ?_
  refine go_iloadN d13_99 rfl rfl ?_
  refine go_iincV 1 5 d13_100 rfl #[vr dc, vr src, vi 5, vi 8, vr dst, vr fb, vi 3, vi 0, vi 18, vi 3, vi 4] (by decide) rfl (by decide) rfl ?_
  have F113 := (A.keep K111 (ninS hsd nin0))
  refine go_baload (v := (.int ((T (X0 b3)).toInt8.toInt32))) 4 d13_103 rfl F113 ⟨by decide, by decide⟩ (by decide) rfl ?_
  refine go_sipush 255 d13_104 rfl ?_
  refine go_iand d13_107 rfl (go_eq (y := T (X0 b3)) (T_isC lt105).back ?_)
  refine go_istore d13_108 rfl #[vr dc, vr src, vi 5, vi 8, vr dst, vr fb, vi 3, vi 0, vi 18, vi (T (X0 b3)), vi 4] rfl ?_
  refine go_aload d13_110 rfl rfl rfl ?_
  refine go_iload d13_112 rfl rfl ?_
  have F114 := (hAg.keep K111 (ninS (old_ne hOld hAf.lt hge) nin0))
  refine go_iaload (v := (.int (Int32.ofNat (X0 b3)))) (tbN (X0 b3)) d13_114 rfl F114 (T_in lt105) (T_cl lt105) (fb_at lt105) ?_
  refine go_dup d13_115 rfl rfl ?_
  refine go_istore d13_116 rfl #[vr dc, vr src, vi 5, vi 8, vr dst, vr fb, vi 3, vi 0, vi 18, vi (Int32.ofNat (X0 b3)), vi 4] rfl ?_
  refine go_if_ge_t (pt := 214) d13_118 (ofN_nneg (by omega)) ?_
  refine go_iload d13_214 rfl rfl ?_
  refine go_iload d13_216 rfl rfl ?_
  refine go_iload d13_218 rfl rfl ?_
  refine go_ishl d13_220 rfl (go_eq (y := Int32.ofNat (X0 b3 * 262144)) (shlE (k := 18) (by decide) (by decide) (by omega) rfl (by omega)) ?_)
  refine go_ior d13_221 rfl (go_eq (y := Int32.ofNat (X0 b3 * 262144)) Int32.zero_or ?_)
  refine go_istore d13_222 rfl #[vr dc, vr src, vi 5, vi 8, vr dst, vr fb, vi 3, vi (Int32.ofNat (X0 b3 * 262144)), vi 18, vi (Int32.ofNat (X0 b3)), vi 4] rfl ?_
  refine go_iincV (-6) 12 d13_224 rfl #[vr dc, vr src, vi 5, vi 8, vr dst, vr fb, vi 3, vi (Int32.ofNat (X0 b3 * 262144)), vi 12, vi (Int32.ofNat (X0 b3)), vi 4] (by decide) rfl (by decide) rfl ?_
  refine go_iload d13_227 rfl rfl ?_
  refine go_if_ge_t (pt := 278) d13_229 (by decide) ?_
  refine go_goto (pt := 28) d13_278 ?_
  refine go_iloadN d13_28 rfl rfl ?_
  refine go_iloadN d13_29 rfl rfl ?_
  refine go_icmp_ge_f d13_30 rfl (by decide) ?_
  refine go_iload d13_33 rfl rfl ?_
  refine go_bipush 18 d13_35 rfl ?_
  refine go_icmp_ne_t (pt := 90) d13_37 (by decide) ?_
  refine go_iloadN d13_90 rfl rfl ?_
  refine go_iloadN d13_91 rfl rfl ?_
  refine go_icmp_lt_t (pt := 98) d13_92 (by decide) ?_
  refine go_aloadN d13_98 rfl rfl rfl ?_
  refine go_iloadN d13_99 rfl rfl ?_
  refine go_iincV 1 6 d13_100 rfl #[vr dc, vr src, vi 6, vi 8, vr dst, vr fb, vi 3, vi (Int32.ofNat (X0 b3 * 262144)), vi 12, vi (Int32.ofNat (X0 b3)), vi 4] (by decide) rfl (by decide) rfl ?_
  refine go_baload (v := (.int ((T (X1 b3 0)).toInt8.toInt32))) 5 d13_103 rfl F113 ⟨by decide, by decide⟩ (by decide) rfl ?_
  refine go_sipush 255 d13_104 rfl ?_
  refine go_iand d13_107 rfl (go_eq (y := T (X1 b3 0)) (T_isC lt106).back ?_)
  refine go_istore d13_108 rfl #[vr dc, vr src, vi 6, vi 8, vr dst, vr fb, vi 3, vi (Int32.ofNat (X0 b3 * 262144)), vi 12, vi (T (X1 b3 0)), vi 4] rfl ?_
  refine go_aload d13_110 rfl rfl rfl ?_
  refine go_iload d13_112 rfl rfl ?_
  refine go_iaload (v := (.int (Int32.ofNat (X1 b3 0)))) (tbN (X1 b3 0)) d13_114 rfl F114 (T_in lt106) (T_cl lt106) (fb_at lt106) ?_
  refine go_dup d13_115 rfl rfl ?_
  refine go_istore d13_116 rfl #[vr dc, vr src, vi 6, vi 8, vr dst, vr fb, vi 3, vi (Int32.ofNat (X0 b3 * 262144)), vi 12, vi (Int32.ofNat (X1 b3 0)), vi 4] rfl ?_
  refine go_if_ge_t (pt := 214) d13_118 (ofN_nneg (by omega)) ?_
  refine go_iload d13_214 rfl rfl ?_
  refine go_iload d13_216 rfl rfl ?_
  refine go_iload d13_218 rfl rfl ?_
  refine go_ishl d13_220 rfl (go_eq (y := Int32.ofNat (X1 b3 0 * 4096)) (shlE (k := 12) (by decide) (by decide) (by omega) rfl (by omega)) ?_)
  refine go_ior d13_221 rfl (go_eq (y := Int32.ofNat (X0 b3 * 262144 + X1 b3 0 * 4096)) (orE (k := 18) (by omega) (by omega) rfl (by omega)) ?_)
  refine go_istore d13_222 rfl #[vr dc, vr src, vi 6, vi 8, vr dst, vr fb, vi 3, vi (Int32.ofNat (X0 b3 * 262144 + X1 b3 0 * 4096)), vi 12, vi (Int32.ofNat (X1 b3 0)), vi 4] rfl ?_
  refine go_iincV (-6) 6 d13_224 rfl #[vr dc, vr src, vi 6, vi 8, vr dst, vr fb, vi 3, vi (Int32.ofNat (X0 b3 * 262144 + X1 b3 0 * 4096)), vi 6, vi (Int32.ofNat (X1 b3 0)), vi 4] (by decide) rfl (by decide) rfl ?_
  refine go_iload d13_227 rfl rfl ?_
  refine go_if_ge_t (pt := 278) d13_229 (by decide) ?_
  refine go_goto (pt := 28) d13_278 ?_
  refine go_iloadN d13_28 rfl rfl ?_
  refine go_iloadN d13_29 rfl rfl ?_
  refine go_icmp_ge_f d13_30 rfl (by decide) ?_
  refine go_iload d13_33 rfl rfl ?_
  refine go_bipush 18 d13_35 rfl ?_
  refine go_icmp_ne_t (pt := 90) d13_37 (by decide) ?_
  refine go_iloadN d13_90 rfl rfl ?_
  refine go_iloadN d13_91 rfl rfl ?_
  refine go_icmp_lt_t (pt := 98) d13_92 (by decide) ?_
  refine go_aloadN d13_98 rfl rfl rfl ?_
  refine go_iloadN d13_99 rfl rfl ?_
  refine go_iincV 1 7 d13_100 rfl #[vr dc, vr src, vi 7, vi 8, vr dst, vr fb, vi 3, vi (Int32.ofNat (X0 b3 * 262144 + X1 b3 0 * 4096)), vi 6, vi (Int32.ofNat (X1 b3 0)), vi 4] (by decide) rfl (by decide) rfl ?_
  refine go_baload (v := (.int ((61 : Int32).toInt8.toInt32))) 6 d13_103 rfl F113 ⟨by decide, by decide⟩ (by decide) rfl ?_
  refine go_sipush 255 d13_104 rfl ?_
  refine go_iand d13_107 rfl (go_eq (y := 61) (by decide) ?_)
  refine go_istore d13_108 rfl #[vr dc, vr src, vi 7, vi 8, vr dst, vr fb, vi 3, vi (Int32.ofNat (X0 b3 * 262144 + X1 b3 0 * 4096)), vi 6, vi 61, vi 4] rfl ?_
  refine go_aload d13_110 rfl rfl rfl ?_
  refine go_iload d13_112 rfl rfl ?_
  refine go_iaload (v := (.int (-2))) 61 d13_114 rfl F114 ⟨by decide, by decide⟩ (by decide) fb_eq ?_
  refine go_dup d13_115 rfl rfl ?_
  refine go_istore d13_116 rfl #[vr dc, vr src, vi 7, vi 8, vr dst, vr fb, vi 3, vi (Int32.ofNat (X0 b3 * 262144 + X1 b3 0 * 4096)), vi 6, vi (-2), vi 4] rfl ?_
  refine go_if_ge_f d13_118 rfl (by decide) ?_
  refine go_iload d13_121 rfl rfl ?_
  refine go_bipush (-2) d13_123 rfl ?_
  refine go_icmp_ne_f d13_125 rfl (by decide) ?_
  refine go_iload d13_128 rfl rfl ?_
  refine go_bipush 6 d13_130 rfl ?_
  refine go_icmp_ne_f d13_132 rfl (by decide) ?_
  refine go_iloadN d13_135 rfl rfl ?_
  refine go_iloadN d13_136 rfl rfl ?_
  refine go_icmp_eq_f d13_137 rfl (by decide) ?_
  refine go_aloadN d13_140 rfl rfl rfl ?_
  refine go_iloadN d13_141 rfl rfl ?_
  refine go_iincV 1 8 d13_142 rfl #[vr dc, vr src, vi 8, vi 8, vr dst, vr fb, vi 3, vi (Int32.ofNat (X0 b3 * 262144 + X1 b3 0 * 4096)), vi 6, vi (-2), vi 4] (by decide) rfl (by decide) rfl ?_
  refine go_baload (v := (.int ((61 : Int32).toInt8.toInt32))) 7 d13_145 rfl F113 ⟨by decide, by decide⟩ (by decide) rfl ?_
  refine go_bipush 61 d13_146 rfl ?_
  refine go_icmp_ne_f d13_148 rfl (by decide) ?_
  refine go_iload d13_151 rfl rfl ?_
  refine go_bipush 18 d13_153 rfl ?_
  refine go_icmp_ne_t (pt := 281) d13_155 (by decide) ?_
  refine go_iload d13_281 rfl rfl ?_
  refine go_bipush 6 d13_283 rfl ?_
  refine go_icmp_ne_f d13_285 rfl (by decide) ?_
  refine go_aload d13_288 rfl rfl rfl ?_
  refine go_iload d13_290 rfl rfl ?_
  refine go_iincV 1 4 d13_292 rfl #[vr dc, vr src, vi 8, vi 8, vr dst, vr fb, vi 4, vi (Int32.ofNat (X0 b3 * 262144 + X1 b3 0 * 4096)), vi 6, vi (-2), vi 4] (by decide) rfl (by decide) rfl ?_
  refine go_iload d13_295 rfl rfl ?_
  refine go_bipush 16 d13_297 rfl ?_
  refine go_ishr d13_299 rfl (go_eq (y := Int32.ofNat ((X0 b3 * 262144 + X1 b3 0 * 4096) / 65536)) (shrE (k := 16) (by decide) (by decide) (by omega) rfl) ?_)
  refine go_i2b d13_300 rfl (go_eq (y := (Int32.ofNat b3).toInt8.toInt32) (by8 (by simp only [X0, X1, X2, X3] <;> omega)) ?_)
  refine go_bastoreV 3 ((Int32.ofNat b3).toInt8.toInt32) d13_301 rfl (i8i8 _) B112 ⟨by decide, by decide⟩ (by decide) (by show 3 < 4; decide) (List.Mem.head _) ?_
  intro h115 W116 B117
  have B118 : Arv Z h115 dst kd .byte 4 [(lv (Int32.ofNat b0)), (lv (Int32.ofNat b1)), (lv (Int32.ofNat b2)), (lv (Int32.ofNat b3))] (.int 0) := B117
  refine go_goto (pt := 358) d13_302 ?_
  refine go_iloadN d13_358 rfl rfl ?_
  refine go_iloadN d13_359 rfl rfl ?_
  refine go_icmp_ge_t (pt := 416) d13_360 (by decide) ?_
  refine go_iload d13_416 rfl rfl ?_
  refine go_retI d13_418 [] rfl (by decide) (by decide) (fun _ q => nomatch q) ?_
  exact ⟨rfl, rfl, (((Keep.refl h [dst]).trans K111 (allS (Or.inl (List.Mem.head _)) all0)).wr W116 (Or.inl (List.Mem.head _))), B118⟩
set_option maxRecDepth 65536 in
set_option maxHeartbeats 4000000 in
theorem c_da_4 (hB : Base Z a0) (b0 b1 b2 b3 b4 b5 : Nat) (hb0 : b0 < 256) (hb1 : b1 < 256) (hb2 : b2 < 256) (hb3 : b3 < 256) (hb4 : b4 < 256) (hb5 : b5 < 256) {dc : Addr} (D0 : IsDec Z dc) {src : Addr} {ks : ClassId} {h : Heap} (A : Arv Z h src ks .byte 8 [(lv (T (X0 b0))), (lv (T (X1 b0 b1))), (lv (T (X2 b1 b2))), (lv (T (X3 b2))), (lv (T (X0 b3))), (lv (T (X1 b3 0))), (lv (61 : Int32)), (lv (61 : Int32))] (.int 0)) :
    Con l Z ELc n0 (⟨"java/util/Base64$Decoder", "decode", "([B)[B"⟩ : MethodName) kb11 4 (Option.some (FieldType.array FieldType.byte)) [] (⟨2, 1, 4, 49⟩ : Room) #[.ref dc, .ref src] h [] (fun v h' sf' => ∃ r kr, v = some (.ref r) ∧ sf' = [] ∧ Ext h h' ∧ h.size ≤ r ∧ Arv Z h' r kr .byte 4 [(lv (Int32.ofNat b0)), (lv (Int32.ofNat b1)), (lv (Int32.ofNat b2)), (lv (Int32.ofNat b3))] (.int 0)) := by
  refine con_ofA hB (ls := #[.val (.ref dc), .val (.ref src), .unset, .unset]) (fun m => by simp [entryFrame, mkF, argsToLocals, Value.category]) ?_
  show Go _ _ _ _ _ _ "java/util/Base64$Decoder" kb11 4 _ "decode" _ h [] 0 0 0 #[vr dc, vr src, .unset, .unset] []
  refine Go.old (fun hOld => ?_)
  obtain ⟨DX, D1, D2⟩ := id D0
  have DXh := Exa.ext hOld.2 DX
  have D1h := Fld.ext hOld.2 D1
  have D2h := Fld.ext hOld.2 D2
  refine go_aloadN d11_0 rfl rfl rfl ?_
  refine go_aloadN d11_1 rfl rfl rfl ?_
  refine go_iconst 0 d11_2 rfl ?_
  refine go_aloadN d11_3 rfl rfl rfl ?_
  refine go_alen d11_4 rfl A ?_
  refine go_virtual dc [(.ref src), (.int 0), (.int 8)] [] 0 d11_5 rfl DXh (wd hB 79 rfl) (declares_of (wd hB 80 rfl) (wd hB 83 rfl)) (nf_of (wd hB 82 rfl)) (wd hB 82 rfl) (wd hB 80 rfl) (wd hB 34 rfl) (wd hB 83 rfl) (c_dol_4 hB b0 b1 b2 b3 b4 b5 hb0 hb1 hb2 hb3 hb4 hb5 D0 A) (fun _ q => nomatch q) (lenOf pd_9 rfl) rfl rfl rfl (fun v101 h102 s103 q104 => ?_)
  obtain ⟨rfl, rfl, rfl⟩ := q104
  show Go _ _ _ _ _ _ _ _ _ _ _ _ h [] 0 0 8 _ [(.int 4)]
  refine go_newarr (ty := .byte) (ad := "[B") 4 d11_8 rfl rfl (wd hB 18 rfl) (by decide) (by decide) (by decide) (by decide) (by decide) (by decide) ?_
  intro h110 x105 hx106 E107 ⟨A108, k109, B111⟩
  have B112 : Arv Z h110 x105 k109 .byte 4 [(.int 0), (.int 0), (.int 0), (.int 0)] (.int 0) := B111.pad (pad_rep [] (.int 0) 4)
  refine go_astoreN d11_10 rfl #[vr dc, vr src, vr x105, .unset] rfl rfl ?_
  refine go_aloadN d11_11 rfl rfl rfl ?_
  refine go_aloadN d11_12 rfl rfl rfl ?_
  refine go_iconst 0 d11_13 rfl ?_
  refine go_aloadN d11_14 rfl rfl rfl ?_
  have F113 := (A.ext E107)
  refine go_alen d11_15 rfl F113 ?_
  refine go_aloadN d11_16 rfl rfl rfl ?_
  have F118 := (Exa.ext E107 DXh)
  refine go_virtual dc [(.ref src), (.int 0), (.int 8), (.ref x105)] [] 0 d11_17 rfl F118 (wd hB 87 rfl) (declares_of (wd hB 88 rfl) (wd hB 91 rfl)) (nf_of (wd hB 90 rfl)) (wd hB 90 rfl) (wd hB 88 rfl) (wd hB 34 rfl) (wd hB 91 rfl) (c_d0_4 hB b0 b1 b2 b3 b4 b5 hb0 hb1 hb2 hb3 hb4 hb5 D0 (Nat.ne_of_lt (Nat.lt_of_lt_of_le A.lt (Nat.le_of_eq hx106.symm))) F113 B112) (allS (List.Mem.head _) (fun _ q => nomatch q)) (lenOf pd_10 rfl) rfl rfl rfl (fun v114 h115 s116 q117 => ?_)
  obtain ⟨rfl, rfl, K119, B120⟩ := q117
  show Go _ _ _ _ _ _ _ _ _ _ _ _ h115 [x105] 1 4 20 _ [(.int 4)]
  refine go_istoreN d11_20 rfl #[vr dc, vr src, vr x105, vi 4] rfl ?_
  refine go_iloadN d11_21 rfl rfl ?_
  refine go_aloadN d11_22 rfl rfl rfl ?_
  refine go_alen d11_23 rfl B120 ?_
  refine go_icmp_eq_t (pt := 33) d11_24 (by decide) ?_
  refine go_aloadN d11_33 rfl rfl rfl ?_
  refine go_retA d11_34 [] rfl rfl rfl rfl (by decide) (by decide) (fun _ q => nomatch q) ?_
  exact ⟨_, _, rfl, rfl, (ext_of_keep (((Keep.refl h []).ext E107).trans K119 (allS (Or.inr (Nat.le_of_eq hx106.symm)) all0))), (Nat.le_of_eq hx106.symm), B120⟩
set_option maxRecDepth 65536 in
set_option maxHeartbeats 4000000 in
theorem c_ds_4 (hB : Base Z a0) (b0 b1 b2 b3 b4 b5 : Nat) (hb0 : b0 < 256) (hb1 : b1 < 256) (hb2 : b2 < 256) (hb3 : b3 < 256) (hb4 : b4 < 256) (hb5 : b5 < 256) {dc : Addr} (D0 : IsDec Z dc) {is ut : Addr} (SI : Sta Z Z.heap "sun/nio/cs/ISO_8859_1" "INSTANCE" "Lsun/nio/cs/ISO_8859_1;" (.ref is)) (SU : Sta Z Z.heap "sun/nio/cs/UTF_8" "INSTANCE" "Lsun/nio/cs/UTF_8;" (.ref ut)) (IX : Exa Z Z.heap is "sun/nio/cs/ISO_8859_1") (UX : Exa Z Z.heap ut "sun/nio/cs/UTF_8") {s d : Addr} {k : ClassId} {h : Heap} (E : Exa Z h s "java/lang/String") (C : Fld Z h s "java/lang/String" "coder" "B" (.int 0)) (V : Fld Z h s "java/lang/String" "value" "[B" (.ref d)) (A : Arv Z h d k .byte 8 [(lv (T (X0 b0))), (lv (T (X1 b0 b1))), (lv (T (X2 b1 b2))), (lv (T (X3 b2))), (lv (T (X0 b3))), (lv (T (X1 b3 0))), (lv (61 : Int32)), (lv (61 : Int32))] (.int 0)) (X : Exa Z h d "[B") :
    Con l Z ELc n0 (⟨"java/util/Base64$Decoder", "decode", "(Ljava/lang/String;)[B"⟩ : MethodName) kb5 2 (Option.some (FieldType.array FieldType.byte)) [] (⟨5, 2, 12, 76⟩ : Room) #[.ref dc, .ref s] h [] (fun v h' sf' => ∃ r kr, v = some (.ref r) ∧ sf' = [] ∧ Ext h h' ∧ h.size ≤ r ∧ Arv Z h' r kr .byte 4 [(lv (Int32.ofNat b0)), (lv (Int32.ofNat b1)), (lv (Int32.ofNat b2)), (lv (Int32.ofNat b3))] (.int 0)) := by
  refine con_ofA hB (ls := #[.val (.ref dc), .val (.ref s)]) (fun m => by simp [entryFrame, mkF, argsToLocals, Value.category]) ?_
  show Go _ _ _ _ _ _ "java/util/Base64$Decoder" kb5 2 _ "decode" _ h [] 0 0 0 #[vr dc, vr s] []
  refine Go.old (fun hOld => ?_)
  obtain ⟨DX, D1, D2⟩ := id D0
  have DXh := Exa.ext hOld.2 DX
  have D1h := Fld.ext hOld.2 D1
  have D2h := Fld.ext hOld.2 D2
  have IXh := Exa.ext hOld.2 IX
  have UXh := Exa.ext hOld.2 UX
  refine go_aloadN d5_0 rfl rfl rfl ?_
  refine go_aloadN d5_1 rfl rfl rfl ?_
  refine go_getstatic d5_2 rfl (wd hB 40 rfl) Via.refl SI ?_
  refine go_virtual s [(.ref is)] [(.ref dc)] 1 d5_5 rfl E (wd hB 42 rfl) (wd hB 43 rfl) (nf_of (wd hB 45 rfl)) (wd hB 45 rfl) (wd hB 44 rfl) (wd hB 6 rfl) (wd hB 46 rfl) (c_gb hB SI SU IX UX (by decide) A X E C V) (fun _ q => nomatch q) (lenOf pd_11 rfl) rfl rfl rfl (fun v101 h102 s103 q104 => ?_)
  obtain ⟨x105, rfl, rfl, E106, g107, X108, A109⟩ := q104
  show Go _ _ _ _ _ _ _ _ _ _ _ _ h102 [x105] 1 8 8 _ [(.ref x105), (.ref dc)]
  have F114 := (Exa.ext E106 DXh)
  refine go_virtual dc [(.ref x105)] [] 0 d5_8 rfl F114 (wd hB 74 rfl) (wd hB 75 rfl) (nf_of (wd hB 77 rfl)) (wd hB 77 rfl) (wd hB 76 rfl) (wd hB 34 rfl) (wd hB 78 rfl) (c_da_4 hB b0 b1 b2 b3 b4 b5 hb0 hb1 hb2 hb3 hb4 hb5 D0 A109) (fun _ q => nomatch q) (lenOf pd_12 rfl) rfl rfl rfl (fun v110 h111 s112 q113 => ?_)
  obtain ⟨r115, k116, rfl, rfl, E117, g118, A119⟩ := q113
  show Go _ _ _ _ _ _ _ _ _ _ _ _ h111 [x105] 2 12 11 _ [(.ref r115)]
  refine go_retA d5_11 [] rfl rfl rfl rfl (by decide) (by decide) (fun _ q => nomatch q) ?_
  exact ⟨_, _, rfl, rfl, (ext_of_keep (((Keep.refl h []).ext E106).ext E117)), (Nat.le_trans E106.1 g118), A119⟩
set_option maxRecDepth 65536 in
set_option maxHeartbeats 4000000 in
theorem c_dol_5 (hB : Base Z a0) (b0 b1 b2 b3 b4 b5 : Nat) (hb0 : b0 < 256) (hb1 : b1 < 256) (hb2 : b2 < 256) (hb3 : b3 < 256) (hb4 : b4 < 256) (hb5 : b5 < 256) {dc : Addr} (D0 : IsDec Z dc) {src : Addr} {ks : ClassId} {h : Heap} (A : Arv Z h src ks .byte 8 [(lv (T (X0 b0))), (lv (T (X1 b0 b1))), (lv (T (X2 b1 b2))), (lv (T (X3 b2))), (lv (T (X0 b3))), (lv (T (X1 b3 b4))), (lv (T (X2 b4 0))), (lv (61 : Int32))] (.int 0)) :
    Con l Z ELc n0 (⟨"java/util/Base64$Decoder", "decodedOutLength", "([BII)I"⟩ : MethodName) kb12 9 (Option.some FieldType.int) [] (⟨0, 0, 0, 0⟩ : Room) #[.ref dc, .ref src, .int 0, .int 8] h [] (fun v h' sf' => v = some (.int 5) ∧ sf' = [] ∧ h = h') := by
  refine con_ofA hB (ls := #[.val (.ref dc), .val (.ref src), .val (.int 0), .val (.int 8), .unset, .unset, .unset, .unset, .unset]) (fun m => by simp [entryFrame, mkF, argsToLocals, Value.category]) ?_
  show Go _ _ _ _ _ _ "java/util/Base64$Decoder" kb12 9 _ "decodedOutLength" _ h [] 0 0 0 #[vr dc, vr src, vi 0, vi 8, .unset, .unset, .unset, .unset, .unset] []
  have lt101 : X0 b0 < 64 := (x0_lt hb0)
  have lt102 : X1 b0 b1 < 64 := (x1_lt hb0 hb1)
  have lt103 : X2 b1 b2 < 64 := (x2_lt hb1 hb2)
  have lt104 : X3 b2 < 64 := (x3_lt hb2)
  have lt105 : X0 b3 < 64 := (x0_lt hb3)
  have lt106 : X1 b3 b4 < 64 := (x1_lt hb3 hb4)
  have lt107 : X2 b4 0 < 64 := (x2_lt hb4 (by decide : 0 < 256))
  refine Go.old (fun hOld => ?_)
  obtain ⟨DX, D1, D2⟩ := id D0
  have DXh := Exa.ext hOld.2 DX
  have D1h := Fld.ext hOld.2 D1
  have D2h := Fld.ext hOld.2 D2
  obtain ⟨fb, kf, hSf, hAf⟩ := hB.2.2.2.2.2.2.2.1
  have hAg := hAf.ext hOld.2
  refine go_aloadN d12_0 rfl rfl rfl ?_
  refine go_getfield d12_1 rfl (wd hB 84 rfl) Via.refl D1h ?_
  refine go_if_eq_t (pt := 13) d12_4 (by decide) ?_
  refine go_getstatic d12_13 rfl (wd hB 86 rfl) Via.refl hSf ?_
  refine go_astore d12_16 rfl #[vr dc, vr src, vi 0, vi 8, vr fb, .unset, .unset, .unset, .unset] rfl rfl ?_
  refine go_iconst 0 d12_18 rfl ?_
  refine go_istore d12_19 rfl #[vr dc, vr src, vi 0, vi 8, vr fb, vi 0, .unset, .unset, .unset] rfl ?_
  refine go_iloadN d12_21 rfl rfl ?_
  refine go_iloadN d12_22 rfl rfl ?_
  refine go_isub d12_23 rfl (go_eq (y := 8) (by decide) ?_)
  refine go_istore d12_24 rfl #[vr dc, vr src, vi 0, vi 8, vr fb, vi 0, vi 8, .unset, .unset] rfl ?_
  refine go_iload d12_26 rfl rfl ?_
  refine go_if_ne_t (pt := 33) d12_28 (by decide) ?_
  refine go_iload d12_33 rfl rfl ?_
  refine go_iconst 2 d12_35 rfl ?_
  refine go_icmp_ge_t (pt := 66) d12_36 (by decide) ?_
  refine go_aloadN d12_66 rfl rfl rfl ?_
  refine go_getfield d12_67 rfl (wd hB 176 rfl) Via.refl D2h ?_
  refine go_if_eq_t (pt := 141) d12_70 (by decide) ?_
  refine go_aloadN d12_141 rfl rfl rfl ?_
  refine go_iloadN d12_142 rfl rfl ?_
  refine go_iconst 1 d12_143 rfl ?_
  refine go_isub d12_144 rfl (go_eq (y := 7) (by decide) ?_)
  refine go_baload (v := (.int ((61 : Int32).toInt8.toInt32))) 7 d12_145 rfl A ⟨by decide, by decide⟩ (by decide) rfl ?_
  refine go_bipush 61 d12_146 rfl ?_
  refine go_icmp_ne_f d12_148 rfl (by decide) ?_
  refine go_iincV 1 1 d12_151 rfl #[vr dc, vr src, vi 0, vi 8, vr fb, vi 1, vi 8, .unset, .unset] (by decide) rfl (by decide) rfl ?_
  refine go_aloadN d12_154 rfl rfl rfl ?_
  refine go_iloadN d12_155 rfl rfl ?_
  refine go_iconst 2 d12_156 rfl ?_
  refine go_isub d12_157 rfl (go_eq (y := 6) (by decide) ?_)
  refine go_baload (v := (.int ((T (X2 b4 0)).toInt8.toInt32))) 6 d12_158 rfl A ⟨by decide, by decide⟩ (by decide) rfl ?_
  refine go_bipush 61 d12_159 rfl ?_
  refine go_icmp_ne_t (pt := 167) d12_161 (T_ne61 lt107) ?_
  refine go_iload d12_167 rfl rfl ?_
  refine go_if_ne_t (pt := 187) d12_169 (by decide) ?_
  refine go_iconst 3 d12_187 rfl ?_
  refine go_iload d12_188 rfl rfl ?_
  refine go_i2l d12_190 rfl (go_eqL (y := 8) (by decide) ?_)
  refine go_ldc2J d12_191 rfl (wd hB 178 rfl) ?_
  refine go_ladd d12_194 rfl (go_eqL (y := 11) (by decide) ?_)
  refine go_ldc2J d12_195 rfl (wd hB 179 rfl) ?_
  refine go_ldiv d12_198 rfl (by decide) (go_eqL (y := 2) (by decide) ?_)
  refine go_l2i d12_199 rfl (go_eq (y := 2) (by decide) ?_)
  refine go_imul d12_200 rfl (go_eq (y := 6) (by decide) ?_)
  refine go_iload d12_201 rfl rfl ?_
  refine go_isub d12_203 rfl (go_eq (y := 5) (by decide) ?_)
  refine go_retI d12_204 [] rfl (by decide) (by decide) (fun _ q => nomatch q) ?_
  exact ⟨rfl, rfl, rfl⟩
set_option maxRecDepth 65536 in
set_option maxHeartbeats 4000000 in
theorem c_db_5 (hB : Base Z a0) (b0 b1 b2 b3 b4 b5 : Nat) (hb0 : b0 < 256) (hb1 : b1 < 256) (hb2 : b2 < 256) (hb3 : b3 < 256) (hb4 : b4 < 256) (hb5 : b5 < 256) {dc : Addr} {src dst : Addr} {ks kd : ClassId} (hsd : src ≠ dst) {h : Heap} (A : Arv Z h src ks .byte 8 [(lv (T (X0 b0))), (lv (T (X1 b0 b1))), (lv (T (X2 b1 b2))), (lv (T (X3 b2))), (lv (T (X0 b3))), (lv (T (X1 b3 b4))), (lv (T (X2 b4 0))), (lv (61 : Int32))] (.int 0)) (B : Arv Z h dst kd .byte 5 [(.int 0), (.int 0), (.int 0), (.int 0), (.int 0)] (.int 0)) :
    Con l Z ELc n0 (⟨"java/util/Base64$Decoder", "decodeBlock", "([BII[BIZZ)I"⟩ : MethodName) kb33 16 (Option.some FieldType.int) [] (⟨0, 0, 0, 0⟩ : Room) #[.ref dc, .ref src, .int 0, .int 8, .ref dst, .int 0, .int 0, .int 0] h [dst] (fun v h' sf' => v = some (.int 3) ∧ sf' = [] ∧ Keep h h' [dst] ∧ Arv Z h' dst kd .byte 5 [(lv (Int32.ofNat b0)), (lv (Int32.ofNat b1)), (lv (Int32.ofNat b2)), (.int 0), (.int 0)] (.int 0)) := by
  refine con_ofA hB (ls := #[.val (.ref dc), .val (.ref src), .val (.int 0), .val (.int 8), .val (.ref dst), .val (.int 0), .val (.int 0), .val (.int 0), .unset, .unset, .unset, .unset, .unset, .unset, .unset, .unset]) (fun m => by simp [entryFrame, mkF, argsToLocals, Value.category]) ?_
  show Go _ _ _ _ _ _ "java/util/Base64$Decoder" kb33 16 _ "decodeBlock" _ h [dst] 0 0 0 #[vr dc, vr src, vi 0, vi 8, vr dst, vi 0, vi 0, vi 0, .unset, .unset, .unset, .unset, .unset, .unset, .unset, .unset] []
  have lt101 : X0 b0 < 64 := (x0_lt hb0)
  have lt102 : X1 b0 b1 < 64 := (x1_lt hb0 hb1)
  have lt103 : X2 b1 b2 < 64 := (x2_lt hb1 hb2)
  have lt104 : X3 b2 < 64 := (x3_lt hb2)
  have lt105 : X0 b3 < 64 := (x0_lt hb3)
  have lt106 : X1 b3 b4 < 64 := (x1_lt hb3 hb4)
  have lt107 : X2 b4 0 < 64 := (x2_lt hb4 (by decide : 0 < 256))
  refine Go.owned (fun hOw => ?_)
  have hge := (hOw dst (List.Mem.head _)).2
  obtain ⟨fb, kf, hSf, hAf⟩ := hB.2.2.2.2.2.2.2.1
  refine Go.old (fun hOld => ?_)
  have hAg := hAf.ext hOld.2
  refine go_iload d33_0 rfl rfl ?_
  refine go_if_eq_t (pt := 11) d33_2 (by decide) ?_
  refine go_getstatic d33_11 rfl (wd hB 86 rfl) Via.refl hSf ?_
  refine go_astore d33_14 rfl #[vr dc, vr src, vi 0, vi 8, vr dst, vi 0, vi 0, vi 0, vr fb, .unset, .unset, .unset, .unset, .unset, .unset, .unset] rfl rfl ?_
  refine go_iloadN d33_16 rfl rfl ?_
  refine go_iloadN d33_17 rfl rfl ?_
  refine go_iloadN d33_18 rfl rfl ?_
  refine go_isub d33_19 rfl (go_eq (y := 8) (by decide) ?_)
  refine go_bipush (-4) d33_20 rfl ?_
  refine go_iand d33_22 rfl (go_eq (y := 8) (by decide) ?_)
  refine go_iadd d33_23 rfl (go_eq (y := 8) (by decide) ?_)
  refine go_istore d33_24 rfl #[vr dc, vr src, vi 0, vi 8, vr dst, vi 0, vi 0, vi 0, vr fb, vi 8, .unset, .unset, .unset, .unset, .unset, .unset] rfl ?_
  refine go_iload d33_26 rfl rfl ?_
  refine go_istore d33_28 rfl #[vr dc, vr src, vi 0, vi 8, vr dst, vi 0, vi 0, vi 0, vr fb, vi 8, vi 0, .unset, .unset, .unset, .unset, .unset] rfl ?_
  refine go_iloadN d33_30 rfl rfl ?_
  refine go_iload d33_31 rfl rfl ?_
  refine go_icmp_ge_f d33_33 rfl (by decide) ?_
  refine go_aload d33_36 rfl rfl rfl ?_
  refine go_aloadN d33_38 rfl rfl rfl ?_
  refine go_iloadN d33_39 rfl rfl ?_
  refine go_iincV 1 1 d33_40 rfl #[vr dc, vr src, vi 1, vi 8, vr dst, vi 0, vi 0, vi 0, vr fb, vi 8, vi 0, .unset, .unset, .unset, .unset, .unset] (by decide) rfl (by decide) rfl ?_
  refine go_baload (v := (.int ((T (X0 b0)).toInt8.toInt32))) 0 d33_43 rfl A ⟨by decide, by decide⟩ (by decide) rfl ?_
  refine go_sipush 255 d33_44 rfl ?_
  refine go_iand d33_47 rfl (go_eq (y := T (X0 b0)) (T_isC lt101).back ?_)
  refine go_iaload (v := (.int (Int32.ofNat (X0 b0)))) (tbN (X0 b0)) d33_48 rfl hAg (T_in lt101) (T_cl lt101) (fb_at lt101) ?_
  refine go_istore d33_49 rfl #[vr dc, vr src, vi 1, vi 8, vr dst, vi 0, vi 0, vi 0, vr fb, vi 8, vi 0, vi (Int32.ofNat (X0 b0)), .unset, .unset, .unset, .unset] rfl ?_
  refine go_aload d33_51 rfl rfl rfl ?_
  refine go_aloadN d33_53 rfl rfl rfl ?_
  refine go_iloadN d33_54 rfl rfl ?_
  refine go_iincV 1 2 d33_55 rfl #[vr dc, vr src, vi 2, vi 8, vr dst, vi 0, vi 0, vi 0, vr fb, vi 8, vi 0, vi (Int32.ofNat (X0 b0)), .unset, .unset, .unset, .unset] (by decide) rfl (by decide) rfl ?_
  refine go_baload (v := (.int ((T (X1 b0 b1)).toInt8.toInt32))) 1 d33_58 rfl A ⟨by decide, by decide⟩ (by decide) rfl ?_
  refine go_sipush 255 d33_59 rfl ?_
  refine go_iand d33_62 rfl (go_eq (y := T (X1 b0 b1)) (T_isC lt102).back ?_)
  refine go_iaload (v := (.int (Int32.ofNat (X1 b0 b1)))) (tbN (X1 b0 b1)) d33_63 rfl hAg (T_in lt102) (T_cl lt102) (fb_at lt102) ?_
  refine go_istore d33_64 rfl #[vr dc, vr src, vi 2, vi 8, vr dst, vi 0, vi 0, vi 0, vr fb, vi 8, vi 0, vi (Int32.ofNat (X0 b0)), vi (Int32.ofNat (X1 b0 b1)), .unset, .unset, .unset] rfl ?_
  refine go_aload d33_66 rfl rfl rfl ?_
  refine go_aloadN d33_68 rfl rfl rfl ?_
  refine go_iloadN d33_69 rfl rfl ?_
  refine go_iincV 1 3 d33_70 rfl #[vr dc, vr src, vi 3, vi 8, vr dst, vi 0, vi 0, vi 0, vr fb, vi 8, vi 0, vi (Int32.ofNat (X0 b0)), vi (Int32.ofNat (X1 b0 b1)), .unset, .unset, .unset] (by decide) rfl (by decide) rfl ?_
  refine go_baload (v := (.int ((T (X2 b1 b2)).toInt8.toInt32))) 2 d33_73 rfl A ⟨by decide, by decide⟩ (by decide) rfl ?_
  refine go_sipush 255 d33_74 rfl ?_
  refine go_iand d33_77 rfl (go_eq (y := T (X2 b1 b2)) (T_isC lt103).back ?_)
  refine go_iaload (v := (.int (Int32.ofNat (X2 b1 b2)))) (tbN (X2 b1 b2)) d33_78 rfl hAg (T_in lt103) (T_cl lt103) (fb_at lt103) ?_
  refine go_istore d33_79 rfl #[vr dc, vr src, vi 3, vi 8, vr dst, vi 0, vi 0, vi 0, vr fb, vi 8, vi 0, vi (Int32.ofNat (X0 b0)), vi (Int32.ofNat (X1 b0 b1)), vi (Int32.ofNat (X2 b1 b2)), .unset, .unset] rfl ?_
  refine go_aload d33_81 rfl rfl rfl ?_
  refine go_aloadN d33_83 rfl rfl rfl ?_
  refine go_iloadN d33_84 rfl rfl ?_
  refine go_iincV 1 4 d33_85 rfl #[vr dc, vr src, vi 4, vi 8, vr dst, vi 0, vi 0, vi 0, vr fb, vi 8, vi 0, vi (Int32.ofNat (X0 b0)), vi (Int32.ofNat (X1 b0 b1)), vi (Int32.ofNat (X2 b1 b2)), .unset, .unset] (by decide) rfl (by decide) rfl ?_
  refine go_baload (v := (.int ((T (X3 b2)).toInt8.toInt32))) 3 d33_88 rfl A ⟨by decide, by decide⟩ (by decide) rfl ?_
  refine go_sipush 255 d33_89 rfl ?_
  refine go_iand d33_92 rfl (go_eq (y := T (X3 b2)) (T_isC lt104).back ?_)
  refine go_iaload (v := (.int (Int32.ofNat (X3 b2)))) (tbN (X3 b2)) d33_93 rfl hAg (T_in lt104) (T_cl lt104) (fb_at lt104) ?_
  refine go_istore d33_94 rfl #[vr dc, vr src, vi 4, vi 8, vr dst, vi 0, vi 0, vi 0, vr fb, vi 8, vi 0, vi (Int32.ofNat (X0 b0)), vi (Int32.ofNat (X1 b0 b1)), vi (Int32.ofNat (X2 b1 b2)), vi (Int32.ofNat (X3 b2)), .unset] rfl ?_
  refine go_iload d33_96 rfl rfl ?_
  refine go_iload d33_98 rfl rfl ?_
  refine go_ior d33_100 rfl ?_
  refine go_iload d33_101 rfl rfl ?_
  refine go_ior d33_103 rfl ?_
  refine go_iload d33_104 rfl rfl ?_
  refine go_ior d33_106 rfl ?_
  refine go_if_ge_t (pt := 116) d33_107 (or_nn (or_nn (or_nn (ofN_nneg (by omega)) (ofN_nneg (by omega))) (ofN_nneg (by omega))) (ofN_nneg (by omega))) ?_
  refine go_iload d33_116 rfl rfl ?_
  refine go_bipush 18 d33_118 rfl ?_
  refine go_ishl d33_120 rfl (go_eq (y := Int32.ofNat (X0 b0 * 262144)) (shlE (k := 18) (by decide) (by decide) (by omega) rfl (by omega)) ?_)
  refine go_iload d33_121 rfl rfl ?_
  refine go_bipush 12 d33_123 rfl ?_
  refine go_ishl d33_125 rfl (go_eq (y := Int32.ofNat (X1 b0 b1 * 4096)) (shlE (k := 12) (by decide) (by decide) (by omega) rfl (by omega)) ?_)
  refine go_ior d33_126 rfl (go_eq (y := Int32.ofNat (X0 b0 * 262144 + X1 b0 b1 * 4096)) (orE (k := 18) (by omega) (by omega) rfl (by omega)) ?_)
  refine go_iload d33_127 rfl rfl ?_
  refine go_bipush 6 d33_129 rfl ?_
  refine go_ishl d33_131 rfl (go_eq (y := Int32.ofNat (X2 b1 b2 * 64)) (shlE (k := 6) (by decide) (by decide) (by omega) rfl (by omega)) ?_)
  refine go_ior d33_132 rfl (go_eq (y := Int32.ofNat (X0 b0 * 262144 + X1 b0 b1 * 4096 + X2 b1 b2 * 64)) (orE (k := 12) (by omega) (by omega) rfl (by omega)) ?_)
  refine go_iload d33_133 rfl rfl ?_
  refine go_ior d33_135 rfl (go_eq (y := Int32.ofNat (X0 b0 * 262144 + X1 b0 b1 * 4096 + X2 b1 b2 * 64 + X3 b2)) (orE (k := 6) (by omega) (by omega) rfl (by omega)) ?_)
  refine go_istore d33_136 rfl #[vr dc, vr src, vi 4, vi 8, vr dst, vi 0, vi 0, vi 0, vr fb, vi 8, vi 0, vi (Int32.ofNat (X0 b0)), vi (Int32.ofNat (X1 b0 b1)), vi (Int32.ofNat (X2 b1 b2)), vi (Int32.ofNat (X3 b2)), vi (Int32.ofNat (X0 b0 * 262144 + X1 b0 b1 * 4096 + X2 b1 b2 * 64 + X3 b2))] rfl ?_
  refine go_aload d33_138 rfl rfl rfl ?_
  refine go_iload d33_140 rfl rfl ?_
  refine go_iincV 1 1 d33_142 rfl #[vr dc, vr src, vi 4, vi 8, vr dst, vi 0, vi 0, vi 0, vr fb, vi 8, vi 1, vi (Int32.ofNat (X0 b0)), vi (Int32.ofNat (X1 b0 b1)), vi (Int32.ofNat (X2 b1 b2)), vi (Int32.ofNat (X3 b2)), vi (Int32.ofNat (X0 b0 * 262144 + X1 b0 b1 * 4096 + X2 b1 b2 * 64 + X3 b2))] (by decide) rfl (by decide) rfl ?_
  refine go_iload d33_145 rfl rfl ?_
  refine go_bipush 16 d33_147 rfl ?_
  refine go_ishr d33_149 rfl (go_eq (y := Int32.ofNat ((X0 b0 * 262144 + X1 b0 b1 * 4096 + X2 b1 b2 * 64 + X3 b2) / 65536)) (shrE (k := 16) (by decide) (by decide) (by omega) rfl) ?_)
  refine go_i2b d33_150 rfl (go_eq (y := (Int32.ofNat b0).toInt8.toInt32) (by8 (by simp only [X0, X1, X2, X3] <;> omega)) ?_)
  refine go_bastoreV 0 ((Int32.ofNat b0).toInt8.toInt32) d33_151 rfl (i8i8 _) B ⟨by decide, by decide⟩ (by decide) (by show 0 < 5; decide) (List.Mem.head _) ?_
  intro h108 W109 B110
  have B111 : Arv Z h108 dst kd .byte 5 [(lv (Int32.ofNat b0)), (.int 0), (.int 0), (.int 0), (.int 0)] (.int 0) := B110
  refine go_aload d33_152 rfl rfl rfl ?_
  refine go_iload d33_154 rfl rfl ?_
  refine go_iincV 1 2 d33_156 rfl #[vr dc, vr src, vi 4, vi 8, vr dst, vi 0, vi 0, vi 0, vr fb, vi 8, vi 2, vi (Int32.ofNat (X0 b0)), vi (Int32.ofNat (X1 b0 b1)), vi (Int32.ofNat (X2 b1 b2)), vi (Int32.ofNat (X3 b2)), vi (Int32.ofNat (X0 b0 * 262144 + X1 b0 b1 * 4096 + X2 b1 b2 * 64 + X3 b2))] (by decide) rfl (by decide) rfl ?_
  refine go_iload d33_159 rfl rfl ?_
  refine go_bipush 8 d33_161 rfl ?_
  refine go_ishr d33_163 rfl (go_eq (y := Int32.ofNat ((X0 b0 * 262144 + X1 b0 b1 * 4096 + X2 b1 b2 * 64 + X3 b2) / 256)) (shrE (k := 8) (by decide) (by decide) (by omega) rfl) ?_)
  refine go_i2b d33_164 rfl (go_eq (y := (Int32.ofNat b1).toInt8.toInt32) (by8 (by simp only [X0, X1, X2, X3] <;> omega)) ?_)
  refine go_bastoreV 1 ((Int32.ofNat b1).toInt8.toInt32) d33_165 rfl (i8i8 _) B111 ⟨by decide, by decide⟩ (by decide) (by show 1 < 5; decide) (List.Mem.head _) ?_
  intro h112 W113 B114
  have B115 : Arv Z h112 dst kd .byte 5 [(lv (Int32.ofNat b0)), (lv (Int32.ofNat b1)), (.int 0), (.int 0), (.int 0)] (.int 0) := B114
  refine go_aload d33_166 rfl rfl rfl ?_
  refine go_iload d33_168 rfl rfl ?_
  refine go_iincV 1 3 d33_170 rfl #[vr dc, vr src, vi 4, vi 8, vr dst, vi 0, vi 0, vi 0, vr fb, vi 8, vi 3, vi (Int32.ofNat (X0 b0)), vi (Int32.ofNat (X1 b0 b1)), vi (Int32.ofNat (X2 b1 b2)), vi (Int32.ofNat (X3 b2)), vi (Int32.ofNat (X0 b0 * 262144 + X1 b0 b1 * 4096 + X2 b1 b2 * 64 + X3 b2))] (by decide) rfl (by decide) rfl ?_
  refine go_iload d33_173 rfl rfl ?_
  refine go_i2b d33_175 rfl (go_eq (y := (Int32.ofNat b2).toInt8.toInt32) (by8 (by simp only [X0, X1, X2, X3] <;> omega)) ?_)
  refine go_bastoreV 2 ((Int32.ofNat b2).toInt8.toInt32) d33_176 rfl (i8i8 _) B115 ⟨by decide, by decide⟩ (by decide) (by show 2 < 5; decide) (List.Mem.head _) ?_
  intro h116 W117 B118
  have B119 : Arv Z h116 dst kd .byte 5 [(lv (Int32.ofNat b0)), (lv (Int32.ofNat b1)), (lv (Int32.ofNat b2)), (.int 0), (.int 0)] (.int 0) := B118
  refine go_goto (pt := 30) d33_177 ?_
  refine go_iloadN d33_30 rfl rfl ?_
  refine go_iload d33_31 rfl rfl ?_
  refine go_icmp_ge_f d33_33 rfl (by decide) ?_
  refine go_aload d33_36 rfl rfl rfl ?_
  refine go_aloadN d33_38 rfl rfl rfl ?_
  refine go_iloadN d33_39 rfl rfl ?_
  refine go_iincV 1 5 d33_40 rfl #[vr dc, vr src, vi 5, vi 8, vr dst, vi 0, vi 0, vi 0, vr fb, vi 8, vi 3, vi (Int32.ofNat (X0 b0)), vi (Int32.ofNat (X1 b0 b1)), vi (Int32.ofNat (X2 b1 b2)), vi (Int32.ofNat (X3 b2)), vi (Int32.ofNat (X0 b0 * 262144 + X1 b0 b1 * 4096 + X2 b1 b2 * 64 + X3 b2))] (by decide) rfl (by decide) rfl ?_
  have F120 := (Arv.other (Arv.other (Arv.other A W109 hsd) W113 hsd) W117 hsd)
  refine go_baload (v := (.int ((T (X0 b3)).toInt8.toInt32))) 4 d33_43 rfl F120 ⟨by decide, by decide⟩ (by decide) rfl ?_
  refine go_sipush 255 d33_44 rfl ?_
  refine go_iand d33_47 rfl (go_eq (y := T (X0 b3)) (T_isC lt105).back ?_)
  have F121 := (Arv.other (Arv.other (Arv.other hAg W109 (old_ne hOld hAf.lt hge)) W113 (old_ne hOld hAf.lt hge)) W117 (old_ne hOld hAf.lt hge))
  refine go_iaload (v := (.int (Int32.ofNat (X0 b3)))) (tbN (X0 b3)) d33_48 rfl F121 (T_in lt105) (T_cl lt105) (fb_at lt105) ?_
  refine go_istore d33_49 rfl #[vr dc, vr src, vi 5, vi 8, vr dst, vi 0, vi 0, vi 0, vr fb, vi 8, vi 3, vi (Int32.ofNat (X0 b3)), vi (Int32.ofNat (X1 b0 b1)), vi (Int32.ofNat (X2 b1 b2)), vi (Int32.ofNat (X3 b2)), vi (Int32.ofNat (X0 b0 * 262144 + X1 b0 b1 * 4096 + X2 b1 b2 * 64 + X3 b2))] rfl ?_
  refine go_aload d33_51 rfl rfl rfl ?_
  refine go_aloadN d33_53 rfl rfl rfl ?_
  refine go_iloadN d33_54 rfl rfl ?_
  refine go_iincV 1 6 d33_55 rfl #[vr dc, vr src, vi 6, vi 8, vr dst, vi 0, vi 0, vi 0, vr fb, vi 8, vi 3, vi (Int32.ofNat (X0 b3)), vi (Int32.ofNat (X1 b0 b1)), vi (Int32.ofNat (X2 b1 b2)), vi (Int32.ofNat (X3 b2)), vi (Int32.ofNat (X0 b0 * 262144 + X1 b0 b1 * 4096 + X2 b1 b2 * 64 + X3 b2))] (by decide) rfl (by decide) rfl ?_
  refine go_baload (v := (.int ((T (X1 b3 b4)).toInt8.toInt32))) 5 d33_58 rfl F120 ⟨by decide, by decide⟩ (by decide) rfl ?_
  refine go_sipush 255 d33_59 rfl ?_
  refine go_iand d33_62 rfl (go_eq (y := T (X1 b3 b4)) (T_isC lt106).back ?_)
  refine go_iaload (v := (.int (Int32.ofNat (X1 b3 b4)))) (tbN (X1 b3 b4)) d33_63 rfl F121 (T_in lt106) (T_cl lt106) (fb_at lt106) ?_
  refine go_istore d33_64 rfl #[vr dc, vr src, vi 6, vi 8, vr dst, vi 0, vi 0, vi 0, vr fb, vi 8, vi 3, vi (Int32.ofNat (X0 b3)), vi (Int32.ofNat (X1 b3 b4)), vi (Int32.ofNat (X2 b1 b2)), vi (Int32.ofNat (X3 b2)), vi (Int32.ofNat (X0 b0 * 262144 + X1 b0 b1 * 4096 + X2 b1 b2 * 64 + X3 b2))] rfl ?_
  refine go_aload d33_66 rfl rfl rfl ?_
  refine go_aloadN d33_68 rfl rfl rfl ?_
  refine go_iloadN d33_69 rfl rfl ?_
  refine go_iincV 1 7 d33_70 rfl #[vr dc, vr src, vi 7, vi 8, vr dst, vi 0, vi 0, vi 0, vr fb, vi 8, vi 3, vi (Int32.ofNat (X0 b3)), vi (Int32.ofNat (X1 b3 b4)), vi (Int32.ofNat (X2 b1 b2)), vi (Int32.ofNat (X3 b2)), vi (Int32.ofNat (X0 b0 * 262144 + X1 b0 b1 * 4096 + X2 b1 b2 * 64 + X3 b2))] (by decide) rfl (by decide) rfl ?_
  refine go_baload (v := (.int ((T (X2 b4 0)).toInt8.toInt32))) 6 d33_73 rfl F120 ⟨by decide, by decide⟩ (by decide) rfl ?_
  refine go_sipush 255 d33_74 rfl ?_
  refine go_iand d33_77 rfl (go_eq (y := T (X2 b4 0)) (T_isC lt107).back ?_)
  refine go_iaload (v := (.int (Int32.ofNat (X2 b4 0)))) (tbN (X2 b4 0)) d33_78 rfl F121 (T_in lt107) (T_cl lt107) (fb_at lt107) ?_
  refine go_istore d33_79 rfl #[vr dc, vr src, vi 7, vi 8, vr dst, vi 0, vi 0, vi 0, vr fb, vi 8, vi 3, vi (Int32.ofNat (X0 b3)), vi (Int32.ofNat (X1 b3 b4)), vi (Int32.ofNat (X2 b4 0)), vi (Int32.ofNat (X3 b2)), vi (Int32.ofNat (X0 b0 * 262144 + X1 b0 b1 * 4096 + X2 b1 b2 * 64 + X3 b2))] rfl ?_
  refine go_aload d33_81 rfl rfl rfl ?_
  refine go_aloadN d33_83 rfl rfl rfl ?_
  refine go_iloadN d33_84 rfl rfl ?_
  refine go_iincV 1 8 d33_85 rfl #[vr dc, vr src, vi 8, vi 8, vr dst, vi 0, vi 0, vi 0, vr fb, vi 8, vi 3, vi (Int32.ofNat (X0 b3)), vi (Int32.ofNat (X1 b3 b4)), vi (Int32.ofNat (X2 b4 0)), vi (Int32.ofNat (X3 b2)), vi (Int32.ofNat (X0 b0 * 262144 + X1 b0 b1 * 4096 + X2 b1 b2 * 64 + X3 b2))] (by decide) rfl (by decide) rfl ?_
  refine go_baload (v := (.int ((61 : Int32).toInt8.toInt32))) 7 d33_88 rfl F120 ⟨by decide, by decide⟩ (by decide) rfl ?_
  refine go_sipush 255 d33_89 rfl ?_
  refine go_iand d33_92 rfl (go_eq (y := 61) (by decide) ?_)
  refine go_iaload (v := (.int (-2))) 61 d33_93 rfl F121 ⟨by decide, by decide⟩ (by decide) fb_eq ?_
  refine go_istore d33_94 rfl #[vr dc, vr src, vi 8, vi 8, vr dst, vi 0, vi 0, vi 0, vr fb, vi 8, vi 3, vi (Int32.ofNat (X0 b3)), vi (Int32.ofNat (X1 b3 b4)), vi (Int32.ofNat (X2 b4 0)), vi (-2), vi (Int32.ofNat (X0 b0 * 262144 + X1 b0 b1 * 4096 + X2 b1 b2 * 64 + X3 b2))] rfl ?_
  refine go_iload d33_96 rfl rfl ?_
  refine go_iload d33_98 rfl rfl ?_
  refine go_ior d33_100 rfl ?_
  refine go_iload d33_101 rfl rfl ?_
  refine go_ior d33_103 rfl ?_
  refine go_iload d33_104 rfl rfl ?_
  refine go_ior d33_106 rfl ?_
  refine go_if_ge_f d33_107 rfl (or_neg _) ?_
  refine go_iload d33_110 rfl rfl ?_
  refine go_iload d33_112 rfl rfl ?_
  refine go_isub d33_114 rfl (go_eq (y := 3) (by decide) ?_)
  refine go_retI d33_115 [] rfl (by decide) (by decide) (fun _ q => nomatch q) ?_
  exact ⟨rfl, rfl, ((((Keep.refl h [dst]).wr W109 (Or.inl (List.Mem.head _))).wr W113 (Or.inl (List.Mem.head _))).wr W117 (Or.inl (List.Mem.head _))), B119⟩
set_option maxRecDepth 65536 in
set_option maxHeartbeats 4000000 in
theorem c_d0_5 (hB : Base Z a0) (b0 b1 b2 b3 b4 b5 : Nat) (hb0 : b0 < 256) (hb1 : b1 < 256) (hb2 : b2 < 256) (hb3 : b3 < 256) (hb4 : b4 < 256) (hb5 : b5 < 256) {dc : Addr} (D0 : IsDec Z dc) {src dst : Addr} {ks kd : ClassId} (hsd : src ≠ dst) {h : Heap} (A : Arv Z h src ks .byte 8 [(lv (T (X0 b0))), (lv (T (X1 b0 b1))), (lv (T (X2 b1 b2))), (lv (T (X3 b2))), (lv (T (X0 b3))), (lv (T (X1 b3 b4))), (lv (T (X2 b4 0))), (lv (61 : Int32))] (.int 0)) (B : Arv Z h dst kd .byte 5 [(.int 0), (.int 0), (.int 0), (.int 0), (.int 0)] (.int 0)) :
    Con l Z ELc n0 (⟨"java/util/Base64$Decoder", "decode0", "([BII[B)I"⟩ : MethodName) kb13 11 (Option.some FieldType.int) [] (⟨1, 0, 0, 27⟩ : Room) #[.ref dc, .ref src, .int 0, .int 8, .ref dst] h [dst] (fun v h' sf' => v = some (.int 5) ∧ sf' = [] ∧ Keep h h' [dst] ∧ Arv Z h' dst kd .byte 5 [(lv (Int32.ofNat b0)), (lv (Int32.ofNat b1)), (lv (Int32.ofNat b2)), (lv (Int32.ofNat b3)), (lv (Int32.ofNat b4))] (.int 0)) := by
  refine con_ofA hB (ls := #[.val (.ref dc), .val (.ref src), .val (.int 0), .val (.int 8), .val (.ref dst), .unset, .unset, .unset, .unset, .unset, .unset]) (fun m => by simp [entryFrame, mkF, argsToLocals, Value.category]) ?_
  show Go _ _ _ _ _ _ "java/util/Base64$Decoder" kb13 11 _ "decode0" _ h [dst] 0 0 0 #[vr dc, vr src, vi 0, vi 8, vr dst, .unset, .unset, .unset, .unset, .unset, .unset] []
  have lt101 : X0 b0 < 64 := (x0_lt hb0)
  have lt102 : X1 b0 b1 < 64 := (x1_lt hb0 hb1)
  have lt103 : X2 b1 b2 < 64 := (x2_lt hb1 hb2)
  have lt104 : X3 b2 < 64 := (x3_lt hb2)
  have lt105 : X0 b3 < 64 := (x0_lt hb3)
  have lt106 : X1 b3 b4 < 64 := (x1_lt hb3 hb4)
  have lt107 : X2 b4 0 < 64 := (x2_lt hb4 (by decide : 0 < 256))
  refine Go.owned (fun hOw => ?_)
  have hge := (hOw dst (List.Mem.head _)).2
  refine Go.old (fun hOld => ?_)
  obtain ⟨DX, D1, D2⟩ := id D0
  have DXh := Exa.ext hOld.2 DX
  have D1h := Fld.ext hOld.2 D1
  have D2h := Fld.ext hOld.2 D2
  obtain ⟨fb, kf, hSf, hAf⟩ := hB.2.2.2.2.2.2.2.1
  have hAg := hAf.ext hOld.2
  refine go_aloadN d13_0 rfl rfl rfl ?_
  refine go_getfield d13_1 rfl (wd hB 84 rfl) Via.refl D1h ?_
  refine go_if_eq_t (pt := 13) d13_4 (by decide) ?_
  refine go_getstatic d13_13 rfl (wd hB 86 rfl) Via.refl hSf ?_
  refine go_astore d13_16 rfl #[vr dc, vr src, vi 0, vi 8, vr dst, vr fb, .unset, .unset, .unset, .unset, .unset] rfl rfl ?_
  refine go_iconst 0 d13_18 rfl ?_
  refine go_istore d13_19 rfl #[vr dc, vr src, vi 0, vi 8, vr dst, vr fb, vi 0, .unset, .unset, .unset, .unset] rfl ?_
  refine go_iconst 0 d13_21 rfl ?_
  refine go_istore d13_22 rfl #[vr dc, vr src, vi 0, vi 8, vr dst, vr fb, vi 0, vi 0, .unset, .unset, .unset] rfl ?_
  refine go_bipush 18 d13_24 rfl ?_
  refine go_istore d13_26 rfl #[vr dc, vr src, vi 0, vi 8, vr dst, vr fb, vi 0, vi 0, vi 18, .unset, .unset] rfl ?_
  refine go_iloadN d13_28 rfl rfl ?_
  refine go_iloadN d13_29 rfl rfl ?_
  refine go_icmp_ge_f d13_30 rfl (by decide) ?_
  refine go_iload d13_33 rfl rfl ?_
  refine go_bipush 18 d13_35 rfl ?_
  refine go_icmp_ne_f d13_37 rfl (by decide) ?_
  refine go_iloadN d13_40 rfl rfl ?_
  refine go_iloadN d13_41 rfl rfl ?_
  refine go_iconst 4 d13_42 rfl ?_
  refine go_isub d13_43 rfl (go_eq (y := 4) (by decide) ?_)
  refine go_icmp_ge_f d13_44 rfl (by decide) ?_
  refine go_aloadN d13_47 rfl rfl rfl ?_
  refine go_aloadN d13_48 rfl rfl rfl ?_
  refine go_iloadN d13_49 rfl rfl ?_
  refine go_iloadN d13_50 rfl rfl ?_
  refine go_aload d13_51 rfl rfl rfl ?_
  refine go_iload d13_53 rfl rfl ?_
  refine go_aloadN d13_55 rfl rfl rfl ?_
  refine go_getfield d13_56 rfl (wd hB 84 rfl) Via.refl D1h ?_
  refine go_aloadN d13_59 rfl rfl rfl ?_
  refine go_getfield d13_60 rfl (wd hB 176 rfl) Via.refl D2h ?_
  refine go_virtual dc [(.ref src), (.int 0), (.int 8), (.ref dst), (.int 0), (.int 0), (.int 0)] [] 0 d13_63 rfl DXh (wd hB 186 rfl) (declares_of (wd hB 187 rfl) (wd hB 190 rfl)) (nf_of (wd hB 189 rfl)) (wd hB 189 rfl) (wd hB 187 rfl) (wd hB 34 rfl) (wd hB 190 rfl) (c_db_5 hB b0 b1 b2 b3 b4 b5 hb0 hb1 hb2 hb3 hb4 hb5 hsd A B) (allS (List.Mem.head _) (fun _ q => nomatch q)) (lenOf pd_13 rfl) rfl rfl rfl (fun v108 h109 s110 q111 => ?_)
  obtain ⟨rfl, rfl, K112, B113⟩ := q111
  show Go _ _ _ _ _ _ _ _ _ _ _ _ h109 [dst] 0 0 66 _ [(.int 3)]
  refine go_istore d13_66 rfl #[vr dc, vr src, vi 0, vi 8, vr dst, vr fb, vi 0, vi 0, vi 18, vi 3, .unset] rfl ?_
  refine go_iload d13_68 rfl rfl ?_
  refine go_iconst 2 d13_70 rfl ?_
  refine go_iadd d13_71 rfl (go_eq (y := 5) (by decide) ?_)
  refine go_iconst 3 d13_72 rfl ?_
  refine go_idiv d13_73 rfl (by decide) (go_eq (y := 1) (by decide) ?_)
  refine go_iconst 4 d13_74 rfl ?_
  refine go_imul d13_75 rfl (go_eq (y := 4) (by decide) ?_)
  refine go_istore d13_76 rfl #[vr dc, vr src, vi 0, vi 8, vr dst, vr fb, vi 0, vi 0, vi 18, vi 3, vi 4] rfl ?_
  refine go_iloadN d13_78 rfl rfl ?_
  refine go_iload d13_79 rfl rfl ?_
  refine go_iadd d13_81 rfl (go_eq (y := 4) (by decide) ?_)
  refine go_istoreN d13_82 rfl #[vr dc, vr src, vi 4, vi 8, vr dst, vr fb, vi 0, vi 0, vi 18, vi 3, vi 4] rfl ?_
  refine go_iload d13_83 rfl rfl ?_
  refine go_iload d13_85 rfl rfl ?_
  refine go_iadd d13_87 rfl (go_eq (y := 3) (by decide) ?_)
  refine go_istore d13_88 rfl #[vr dc, vr src, vi 4, vi 8, vr dst, vr fb, vi 3, vi 0, vi 18, vi 3, vi 4] rfl ?_
  refine go_iloadN d13_90 rfl rfl ?_
  refine go_iloadN d13_91 rfl rfl ?_
  refine go_icmp_lt_t (pt := 98) d13_92 (by decide) ?_
  refine go_aloadN d13_98 rfl rfl rfl ?_
  refine go_iloadN d13_99 rfl rfl ?_
  refine go_iincV 1 5 d13_100 rfl #[vr dc, vr src, vi 5, vi 8, vr dst, vr fb, vi 3, vi 0, vi 18, vi 3, vi 4] (by decide) rfl (by decide) rfl ?_
  have F114 := (A.keep K112 (ninS hsd nin0))
  refine go_baload (v := (.int ((T (X0 b3)).toInt8.toInt32))) 4 d13_103 rfl F114 ⟨by decide, by decide⟩ (by decide) rfl ?_
  refine go_sipush 255 d13_104 rfl ?_
  refine go_iand d13_107 rfl (go_eq (y := T (X0 b3)) (T_isC lt105).back ?_)
  refine go_istore d13_108 rfl #[vr dc, vr src, vi 5, vi 8, vr dst, vr fb, vi 3, vi 0, vi 18, vi (T (X0 b3)), vi 4] rfl ?_
  refine go_aload d13_110 rfl rfl rfl ?_
  refine go_iload d13_112 rfl rfl ?_
  have F115 := (hAg.keep K112 (ninS (old_ne hOld hAf.lt hge) nin0))
  refine go_iaload (v := (.int (Int32.ofNat (X0 b3)))) (tbN (X0 b3)) d13_114 rfl F115 (T_in lt105) (T_cl lt105) (fb_at lt105) ?_
  refine go_dup d13_115 rfl rfl ?_
  refine go_istore d13_116 rfl #[vr dc, vr src, vi 5, vi 8, vr dst, vr fb, vi 3, vi 0, vi 18, vi (Int32.ofNat (X0 b3)), vi 4] rfl ?_
  refine go_if_ge_t (pt := 214) d13_118 (ofN_nneg (by omega)) ?_
  refine go_iload d13_214 rfl rfl ?_
  refine go_iload d13_216 rfl rfl ?_
  refine go_iload d13_218 rfl rfl ?_
  refine go_ishl d13_220 rfl (go_eq (y := Int32.ofNat (X0 b3 * 262144)) (shlE (k := 18) (by decide) (by decide) (by omega) rfl (by omega)) ?_)
  refine go_ior d13_221 rfl (go_eq (y := Int32.ofNat (X0 b3 * 262144)) Int32.zero_or ?_)
  refine go_istore d13_222 rfl #[vr dc, vr src, vi 5, vi 8, vr dst, vr fb, vi 3, vi (Int32.ofNat (X0 b3 * 262144)), vi 18, vi (Int32.ofNat (X0 b3)), vi 4] rfl ?_
  refine go_iincV (-6) 12 d13_224 rfl #[vr dc, vr src, vi 5, vi 8, vr dst, vr fb, vi 3, vi (Int32.ofNat (X0 b3 * 262144)), vi 12, vi (Int32.ofNat (X0 b3)), vi 4] (by decide) rfl (by decide) rfl ?_
  refine go_iload d13_227 rfl rfl ?_
  refine go_if_ge_t (pt := 278) d13_229 (by decide) ?_
  refine go_goto (pt := 28) d13_278 ?_
  refine go_iloadN d13_28 rfl rfl ?_
  refine go_iloadN d13_29 rfl rfl ?_
  refine go_icmp_ge_f d13_30 rfl (by decide) ?_
  refine go_iload d13_33 rfl rfl ?_
  refine go_bipush 18 d13_35 rfl ?_
  refine go_icmp_ne_t (pt := 90) d13_37 (by decide) ?_
  refine go_iloadN d13_90 rfl rfl ?_
  refine go_iloadN d13_91 rfl rfl ?_
  refine go_icmp_lt_t (pt := 98) d13_92 (by decide) ?_
  refine go_aloadN d13_98 rfl rfl rfl ?_
  refine go_iloadN d13_99 rfl rfl ?_
  refine go_iincV 1 6 d13_100 rfl #[vr dc, vr src, vi 6, vi 8, vr dst, vr fb, vi 3, vi (Int32.ofNat (X0 b3 * 262144)), vi 12, vi (Int32.ofNat (X0 b3)), vi 4] (by decide) rfl (by decide) rfl ?_
  refine go_baload (v := (.int ((T (X1 b3 b4)).toInt8.toInt32))) 5 d13_103 rfl F114 ⟨by decide, by decide⟩ (by decide) rfl ?_
  refine go_sipush 255 d13_104 rfl ?_
  refine go_iand d13_107 rfl (go_eq (y := T (X1 b3 b4)) (T_isC lt106).back ?_)
  refine go_istore d13_108 rfl #[vr dc, vr src, vi 6, vi 8, vr dst, vr fb, vi 3, vi (Int32.ofNat (X0 b3 * 262144)), vi 12, vi (T (X1 b3 b4)), vi 4] rfl ?_
  refine go_aload d13_110 rfl rfl rfl ?_
  refine go_iload d13_112 rfl rfl ?_
  refine go_iaload (v := (.int (Int32.ofNat (X1 b3 b4)))) (tbN (X1 b3 b4)) d13_114 rfl F115 (T_in lt106) (T_cl lt106) (fb_at lt106) ?_
  refine go_dup d13_115 rfl rfl ?_
  refine go_istore d13_116 rfl #[vr dc, vr src, vi 6, vi 8, vr dst, vr fb, vi 3, vi (Int32.ofNat (X0 b3 * 262144)), vi 12, vi (Int32.ofNat (X1 b3 b4)), vi 4] rfl ?_
  refine go_if_ge_t (pt := 214) d13_118 (ofN_nneg (by omega)) ?_
  refine go_iload d13_214 rfl rfl ?_
  refine go_iload d13_216 rfl rfl ?_
  refine go_iload d13_218 rfl rfl ?_
  refine go_ishl d13_220 rfl (go_eq (y := Int32.ofNat (X1 b3 b4 * 4096)) (shlE (k := 12) (by decide) (by decide) (by omega) rfl (by omega)) ?_)
  refine go_ior d13_221 rfl (go_eq (y := Int32.ofNat (X0 b3 * 262144 + X1 b3 b4 * 4096)) (orE (k := 18) (by omega) (by omega) rfl (by omega)) ?_)
  refine go_istore d13_222 rfl #[vr dc, vr src, vi 6, vi 8, vr dst, vr fb, vi 3, vi (Int32.ofNat (X0 b3 * 262144 + X1 b3 b4 * 4096)), vi 12, vi (Int32.ofNat (X1 b3 b4)), vi 4] rfl ?_
  refine go_iincV (-6) 6 d13_224 rfl #[vr dc, vr src, vi 6, vi 8, vr dst, vr fb, vi 3, vi (Int32.ofNat (X0 b3 * 262144 + X1 b3 b4 * 4096)), vi 6, vi (Int32.ofNat (X1 b3 b4)), vi 4] (by decide) rfl (by decide) rfl ?_
  refine go_iload d13_227 rfl rfl ?_
  refine go_if_ge_t (pt := 278) d13_229 (by decide) ?_
  refine go_goto (pt := 28) d13_278 ?_
  refine go_iloadN d13_28 rfl rfl ?_
  refine go_iloadN d13_29 rfl rfl ?_
  refine go_icmp_ge_f d13_30 rfl (by decide) ?_
  refine go_iload d13_33 rfl rfl ?_
  refine go_bipush 18 d13_35 rfl ?_
  refine go_icmp_ne_t (pt := 90) d13_37 (by decide) ?_
  refine go_iloadN d13_90 rfl rfl ?_
  refine go_iloadN d13_91 rfl rfl ?_
  refine go_icmp_lt_t (pt := 98) d13_92 (by decide) ?_
  refine go_aloadN d13_98 rfl rfl rfl ?_
  refine go_iloadN d13_99 rfl rfl ?_
  refine go_iincV 1 7 d13_100 rfl #[vr dc, vr src, vi 7, vi 8, vr dst, vr fb, vi 3, vi (Int32.ofNat (X0 b3 * 262144 + X1 b3 b4 * 4096)), vi 6, vi (Int32.ofNat (X1 b3 b4)), vi 4] (by decide) rfl (by decide) rfl ?_
  refine go_baload (v := (.int ((T (X2 b4 0)).toInt8.toInt32))) 6 d13_103 rfl F114 ⟨by decide, by decide⟩ (by decide) rfl ?_
  refine go_sipush 255 d13_104 rfl ?_
  refine go_iand d13_107 rfl (go_eq (y := T (X2 b4 0)) (T_isC lt107).back ?_)
  refine go_istore d13_108 rfl #[vr dc, vr src, vi 7, vi 8, vr dst, vr fb, vi 3, vi (Int32.ofNat (X0 b3 * 262144 + X1 b3 b4 * 4096)), vi 6, vi (T (X2 b4 0)), vi 4] rfl ?_
  refine go_aload d13_110 rfl rfl rfl ?_
  refine go_iload d13_112 rfl rfl ?_
  refine go_iaload (v := (.int (Int32.ofNat (X2 b4 0)))) (tbN (X2 b4 0)) d13_114 rfl F115 (T_in lt107) (T_cl lt107) (fb_at lt107) ?_
  refine go_dup d13_115 rfl rfl ?_
  refine go_istore d13_116 rfl #[vr dc, vr src, vi 7, vi 8, vr dst, vr fb, vi 3, vi (Int32.ofNat (X0 b3 * 262144 + X1 b3 b4 * 4096)), vi 6, vi (Int32.ofNat (X2 b4 0)), vi 4] rfl ?_
  refine go_if_ge_t (pt := 214) d13_118 (ofN_nneg (by omega)) ?_
  refine go_iload d13_214 rfl rfl ?_
  refine go_iload d13_216 rfl rfl ?_
  refine go_iload d13_218 rfl rfl ?_
  refine go_ishl d13_220 rfl (go_eq (y := Int32.ofNat (X2 b4 0 * 64)) (shlE (k := 6) (by decide) (by decide) (by omega) rfl (by omega)) ?_)
  refine go_ior d13_221 rfl (go_eq (y := Int32.ofNat (X0 b3 * 262144 + X1 b3 b4 * 4096 + X2 b4 0 * 64)) (orE (k := 12) (by omega) (by omega) rfl (by omega)) ?_)
  refine go_istore d13_222 rfl #[vr dc, vr src, vi 7, vi 8, vr dst, vr fb, vi 3, vi (Int32.ofNat (X0 b3 * 262144 + X1 b3 b4 * 4096 + X2 b4 0 * 64)), vi 6, vi (Int32.ofNat (X2 b4 0)), vi 4] rfl ?_
  refine go_iincV (-6) 0 d13_224 rfl #[vr dc, vr src, vi 7, vi 8, vr dst, vr fb, vi 3, vi (Int32.ofNat (X0 b3 * 262144 + X1 b3 b4 * 4096 + X2 b4 0 * 64)), vi 0, vi (Int32.ofNat (X2 b4 0)), vi 4] (by decide) rfl (by decide) rfl ?_
  refine go_iload d13_227 rfl rfl ?_
  refine go_if_ge_t (pt := 278) d13_229 (by decide) ?_
  refine go_goto (pt := 28) d13_278 ?_
  refine go_iloadN d13_28 rfl rfl ?_
  refine go_iloadN d13_29 rfl rfl ?_
  refine go_icmp_ge_f d13_30 rfl (by decide) ?_
  refine go_iload d13_33 rfl rfl ?_
  refine go_bipush 18 d13_35 rfl ?_
  refine go_icmp_ne_t (pt := 90) d13_37 (by decide) ?_
  refine go_iloadN d13_90 rfl rfl ?_
  refine go_iloadN d13_91 rfl rfl ?_
  refine go_icmp_lt_t (pt := 98) d13_92 (by decide) ?_
  refine go_aloadN d13_98 rfl rfl rfl ?_
  refine go_iloadN d13_99 rfl rfl ?_
  refine go_iincV 1 8 d13_100 rfl #[vr dc, vr src, vi 8, vi 8, vr dst, vr fb, vi 3, vi (Int32.ofNat (X0 b3 * 262144 + X1 b3 b4 * 4096 + X2 b4 0 * 64)), vi 0, vi (Int32.ofNat (X2 b4 0)), vi 4] (by decide) rfl (by decide) rfl ?_
  refine go_baload (v := (.int ((61 : Int32).toInt8.toInt32))) 7 d13_103 rfl F114 ⟨by decide, by decide⟩ (by decide) rfl ?_
  refine go_sipush 255 d13_104 rfl ?_
  refine go_iand d13_107 rfl (go_eq (y := 61) (by decide) ?_)
  refine go_istore d13_108 rfl #[vr dc, vr src, vi 8, vi 8, vr dst, vr fb, vi 3, vi (Int32.ofNat (X0 b3 * 262144 + X1 b3 b4 * 4096 + X2 b4 0 * 64)), vi 0, vi 61, vi 4] rfl ?_
  refine go_aload d13_110 rfl rfl rfl ?_
  refine go_iload d13_112 rfl rfl ?_
  refine go_iaload (v := (.int (-2))) 61 d13_114 rfl F115 ⟨by decide, by decide⟩ (by decide) fb_eq ?_
  refine go_dup d13_115 rfl rfl ?_
  refine go_istore d13_116 rfl #[vr dc, vr src, vi 8, vi 8, vr dst, vr fb, vi 3, vi (Int32.ofNat (X0 b3 * 262144 + X1 b3 b4 * 4096 + X2 b4 0 * 64)), vi 0, vi (-2), vi 4] rfl ?_
  refine go_if_ge_f d13_118 rfl (by decide) ?_
  refine go_iload d13_121 rfl rfl ?_
  refine go_bipush (-2) d13_123 rfl ?_
  refine go_icmp_ne_f d13_125 rfl (by decide) ?_
  refine go_iload d13_128 rfl rfl ?_
  refine go_bipush 6 d13_130 rfl ?_
  refine go_icmp_ne_t (pt := 151) d13_132 (by decide) ?_
  refine go_iload d13_151 rfl rfl ?_
  refine go_bipush 18 d13_153 rfl ?_
  refine go_icmp_ne_t (pt := 281) d13_155 (by decide) ?_
  refine go_iload d13_281 rfl rfl ?_
  refine go_bipush 6 d13_283 rfl ?_
  refine go_icmp_ne_t (pt := 305) d13_285 (by decide) ?_
  refine go_iload d13_305 rfl rfl ?_
  refine go_if_ne_f d13_307 rfl (by decide) ?_
  refine go_aload d13_310 rfl rfl rfl ?_
  refine go_iload d13_312 rfl rfl ?_
  refine go_iincV 1 4 d13_314 rfl #[vr dc, vr src, vi 8, vi 8, vr dst, vr fb, vi 4, vi (Int32.ofNat (X0 b3 * 262144 + X1 b3 b4 * 4096 + X2 b4 0 * 64)), vi 0, vi (-2), vi 4] (by decide) rfl (by decide) rfl ?_
  refine go_iload d13_317 rfl rfl ?_
  refine go_bipush 16 d13_319 rfl ?_
  refine go_ishr d13_321 rfl (go_eq (y := Int32.ofNat ((X0 b3 * 262144 + X1 b3 b4 * 4096 + X2 b4 0 * 64) / 65536)) (shrE (k := 16) (by decide) (by decide) (by omega) rfl) ?_)
  refine go_i2b d13_322 rfl (go_eq (y := (Int32.ofNat b3).toInt8.toInt32) (by8 (by simp only [X0, X1, X2, X3] <;> omega)) ?_)
  refine go_bastoreV 3 ((Int32.ofNat b3).toInt8.toInt32) d13_323 rfl (i8i8 _) B113 ⟨by decide, by decide⟩ (by decide) (by show 3 < 5; decide) (List.Mem.head _) ?_
  intro h116 W117 B118
  have B119 : Arv Z h116 dst kd .byte 5 [(lv (Int32.ofNat b0)), (lv (Int32.ofNat b1)), (lv (Int32.ofNat b2)), (lv (Int32.ofNat b3)), (.int 0)] (.int 0) := B118
  refine go_aload d13_324 rfl rfl rfl ?_
  refine go_iload d13_326 rfl rfl ?_
  refine go_iincV 1 5 d13_328 rfl #[vr dc, vr src, vi 8, vi 8, vr dst, vr fb, vi 5, vi (Int32.ofNat (X0 b3 * 262144 + X1 b3 b4 * 4096 + X2 b4 0 * 64)), vi 0, vi (-2), vi 4] (by decide) rfl (by decide) rfl ?_
  refine go_iload d13_331 rfl rfl ?_
  refine go_bipush 8 d13_333 rfl ?_
  refine go_ishr d13_335 rfl (go_eq (y := Int32.ofNat ((X0 b3 * 262144 + X1 b3 b4 * 4096 + X2 b4 0 * 64) / 256)) (shrE (k := 8) (by decide) (by decide) (by omega) rfl) ?_)
  refine go_i2b d13_336 rfl (go_eq (y := (Int32.ofNat b4).toInt8.toInt32) (by8 (by simp only [X0, X1, X2, X3] <;> omega)) ?_)
  refine go_bastoreV 4 ((Int32.ofNat b4).toInt8.toInt32) d13_337 rfl (i8i8 _) B119 ⟨by decide, by decide⟩ (by decide) (by show 4 < 5; decide) (List.Mem.head _) ?_
  intro h120 W121 B122
  have B123 : Arv Z h120 dst kd .byte 5 [(lv (Int32.ofNat b0)), (lv (Int32.ofNat b1)), (lv (Int32.ofNat b2)), (lv (Int32.ofNat b3)), (lv (Int32.ofNat b4))] (.int 0) := B122
  refine go_goto (pt := 358) d13_338 ?_
  refine go_iloadN d13_358 rfl rfl ?_
  refine go_iloadN d13_359 rfl rfl ?_
  refine go_icmp_ge_t (pt := 416) d13_360 (by decide) ?_
  refine go_iload d13_416 rfl rfl ?_
  refine go_retI d13_418 [] rfl (by decide) (by decide) (fun _ q => nomatch q) ?_
  exact ⟨rfl, rfl, ((((Keep.refl h [dst]).trans K112 (allS (Or.inl (List.Mem.head _)) all0)).wr W117 (Or.inl (List.Mem.head _))).wr W121 (Or.inl (List.Mem.head _))), B123⟩
set_option maxRecDepth 65536 in
set_option maxHeartbeats 4000000 in
theorem c_da_5 (hB : Base Z a0) (b0 b1 b2 b3 b4 b5 : Nat) (hb0 : b0 < 256) (hb1 : b1 < 256) (hb2 : b2 < 256) (hb3 : b3 < 256) (hb4 : b4 < 256) (hb5 : b5 < 256) {dc : Addr} (D0 : IsDec Z dc) {src : Addr} {ks : ClassId} {h : Heap} (A : Arv Z h src ks .byte 8 [(lv (T (X0 b0))), (lv (T (X1 b0 b1))), (lv (T (X2 b1 b2))), (lv (T (X3 b2))), (lv (T (X0 b3))), (lv (T (X1 b3 b4))), (lv (T (X2 b4 0))), (lv (61 : Int32))] (.int 0)) :
    Con l Z ELc n0 (⟨"java/util/Base64$Decoder", "decode", "([B)[B"⟩ : MethodName) kb11 4 (Option.some (FieldType.array FieldType.byte)) [] (⟨2, 1, 5, 49⟩ : Room) #[.ref dc, .ref src] h [] (fun v h' sf' => ∃ r kr, v = some (.ref r) ∧ sf' = [] ∧ Ext h h' ∧ h.size ≤ r ∧ Arv Z h' r kr .byte 5 [(lv (Int32.ofNat b0)), (lv (Int32.ofNat b1)), (lv (Int32.ofNat b2)), (lv (Int32.ofNat b3)), (lv (Int32.ofNat b4))] (.int 0)) := by
  refine con_ofA hB (ls := #[.val (.ref dc), .val (.ref src), .unset, .unset]) (fun m => by simp [entryFrame, mkF, argsToLocals, Value.category]) ?_
  show Go _ _ _ _ _ _ "java/util/Base64$Decoder" kb11 4 _ "decode" _ h [] 0 0 0 #[vr dc, vr src, .unset, .unset] []
  refine Go.old (fun hOld => ?_)
  obtain ⟨DX, D1, D2⟩ := id D0
  have DXh := Exa.ext hOld.2 DX
  have D1h := Fld.ext hOld.2 D1
  have D2h := Fld.ext hOld.2 D2
  refine go_aloadN d11_0 rfl rfl rfl ?_
  refine go_aloadN d11_1 rfl rfl rfl ?_
  refine go_iconst 0 d11_2 rfl ?_
  refine go_aloadN d11_3 rfl rfl rfl ?_
  refine go_alen d11_4 rfl A ?_
  refine go_virtual dc [(.ref src), (.int 0), (.int 8)] [] 0 d11_5 rfl DXh (wd hB 79 rfl) (declares_of (wd hB 80 rfl) (wd hB 83 rfl)) (nf_of (wd hB 82 rfl)) (wd hB 82 rfl) (wd hB 80 rfl) (wd hB 34 rfl) (wd hB 83 rfl) (c_dol_5 hB b0 b1 b2 b3 b4 b5 hb0 hb1 hb2 hb3 hb4 hb5 D0 A) (fun _ q => nomatch q) (lenOf pd_9 rfl) rfl rfl rfl (fun v101 h102 s103 q104 => ?_)
  obtain ⟨rfl, rfl, rfl⟩ := q104
  show Go _ _ _ _ _ _ _ _ _ _ _ _ h [] 0 0 8 _ [(.int 5)]
  refine go_newarr (ty := .byte) (ad := "[B") 5 d11_8 rfl rfl (wd hB 18 rfl) (by decide) (by decide) (by decide) (by decide) (by decide) (by decide) ?_
  intro h110 x105 hx106 E107 ⟨A108, k109, B111⟩
  have B112 : Arv Z h110 x105 k109 .byte 5 [(.int 0), (.int 0), (.int 0), (.int 0), (.int 0)] (.int 0) := B111.pad (pad_rep [] (.int 0) 5)
  refine go_astoreN d11_10 rfl #[vr dc, vr src, vr x105, .unset] rfl rfl ?_
  refine go_aloadN d11_11 rfl rfl rfl ?_
  refine go_aloadN d11_12 rfl rfl rfl ?_
  refine go_iconst 0 d11_13 rfl ?_
  refine go_aloadN d11_14 rfl rfl rfl ?_
  have F113 := (A.ext E107)
  refine go_alen d11_15 rfl F113 ?_
  refine go_aloadN d11_16 rfl rfl rfl ?_
  have F118 := (Exa.ext E107 DXh)
  refine go_virtual dc [(.ref src), (.int 0), (.int 8), (.ref x105)] [] 0 d11_17 rfl F118 (wd hB 87 rfl) (declares_of (wd hB 88 rfl) (wd hB 91 rfl)) (nf_of (wd hB 90 rfl)) (wd hB 90 rfl) (wd hB 88 rfl) (wd hB 34 rfl) (wd hB 91 rfl) (c_d0_5 hB b0 b1 b2 b3 b4 b5 hb0 hb1 hb2 hb3 hb4 hb5 D0 (Nat.ne_of_lt (Nat.lt_of_lt_of_le A.lt (Nat.le_of_eq hx106.symm))) F113 B112) (allS (List.Mem.head _) (fun _ q => nomatch q)) (lenOf pd_10 rfl) rfl rfl rfl (fun v114 h115 s116 q117 => ?_)
  obtain ⟨rfl, rfl, K119, B120⟩ := q117
  show Go _ _ _ _ _ _ _ _ _ _ _ _ h115 [x105] 1 5 20 _ [(.int 5)]
  refine go_istoreN d11_20 rfl #[vr dc, vr src, vr x105, vi 5] rfl ?_
  refine go_iloadN d11_21 rfl rfl ?_
  refine go_aloadN d11_22 rfl rfl rfl ?_
  refine go_alen d11_23 rfl B120 ?_
  refine go_icmp_eq_t (pt := 33) d11_24 (by decide) ?_
  refine go_aloadN d11_33 rfl rfl rfl ?_
  refine go_retA d11_34 [] rfl rfl rfl rfl (by decide) (by decide) (fun _ q => nomatch q) ?_
  exact ⟨_, _, rfl, rfl, (ext_of_keep (((Keep.refl h []).ext E107).trans K119 (allS (Or.inr (Nat.le_of_eq hx106.symm)) all0))), (Nat.le_of_eq hx106.symm), B120⟩
set_option maxRecDepth 65536 in
set_option maxHeartbeats 4000000 in
theorem c_ds_5 (hB : Base Z a0) (b0 b1 b2 b3 b4 b5 : Nat) (hb0 : b0 < 256) (hb1 : b1 < 256) (hb2 : b2 < 256) (hb3 : b3 < 256) (hb4 : b4 < 256) (hb5 : b5 < 256) {dc : Addr} (D0 : IsDec Z dc) {is ut : Addr} (SI : Sta Z Z.heap "sun/nio/cs/ISO_8859_1" "INSTANCE" "Lsun/nio/cs/ISO_8859_1;" (.ref is)) (SU : Sta Z Z.heap "sun/nio/cs/UTF_8" "INSTANCE" "Lsun/nio/cs/UTF_8;" (.ref ut)) (IX : Exa Z Z.heap is "sun/nio/cs/ISO_8859_1") (UX : Exa Z Z.heap ut "sun/nio/cs/UTF_8") {s d : Addr} {k : ClassId} {h : Heap} (E : Exa Z h s "java/lang/String") (C : Fld Z h s "java/lang/String" "coder" "B" (.int 0)) (V : Fld Z h s "java/lang/String" "value" "[B" (.ref d)) (A : Arv Z h d k .byte 8 [(lv (T (X0 b0))), (lv (T (X1 b0 b1))), (lv (T (X2 b1 b2))), (lv (T (X3 b2))), (lv (T (X0 b3))), (lv (T (X1 b3 b4))), (lv (T (X2 b4 0))), (lv (61 : Int32))] (.int 0)) (X : Exa Z h d "[B") :
    Con l Z ELc n0 (⟨"java/util/Base64$Decoder", "decode", "(Ljava/lang/String;)[B"⟩ : MethodName) kb5 2 (Option.some (FieldType.array FieldType.byte)) [] (⟨5, 2, 13, 76⟩ : Room) #[.ref dc, .ref s] h [] (fun v h' sf' => ∃ r kr, v = some (.ref r) ∧ sf' = [] ∧ Ext h h' ∧ h.size ≤ r ∧ Arv Z h' r kr .byte 5 [(lv (Int32.ofNat b0)), (lv (Int32.ofNat b1)), (lv (Int32.ofNat b2)), (lv (Int32.ofNat b3)), (lv (Int32.ofNat b4))] (.int 0)) := by
  refine con_ofA hB (ls := #[.val (.ref dc), .val (.ref s)]) (fun m => by simp [entryFrame, mkF, argsToLocals, Value.category]) ?_
  show Go _ _ _ _ _ _ "java/util/Base64$Decoder" kb5 2 _ "decode" _ h [] 0 0 0 #[vr dc, vr s] []
  refine Go.old (fun hOld => ?_)
  obtain ⟨DX, D1, D2⟩ := id D0
  have DXh := Exa.ext hOld.2 DX
  have D1h := Fld.ext hOld.2 D1
  have D2h := Fld.ext hOld.2 D2
  have IXh := Exa.ext hOld.2 IX
  have UXh := Exa.ext hOld.2 UX
  refine go_aloadN d5_0 rfl rfl rfl ?_
  refine go_aloadN d5_1 rfl rfl rfl ?_
  refine go_getstatic d5_2 rfl (wd hB 40 rfl) Via.refl SI ?_
  refine go_virtual s [(.ref is)] [(.ref dc)] 1 d5_5 rfl E (wd hB 42 rfl) (wd hB 43 rfl) (nf_of (wd hB 45 rfl)) (wd hB 45 rfl) (wd hB 44 rfl) (wd hB 6 rfl) (wd hB 46 rfl) (c_gb hB SI SU IX UX (by decide) A X E C V) (fun _ q => nomatch q) (lenOf pd_11 rfl) rfl rfl rfl (fun v101 h102 s103 q104 => ?_)
  obtain ⟨x105, rfl, rfl, E106, g107, X108, A109⟩ := q104
  show Go _ _ _ _ _ _ _ _ _ _ _ _ h102 [x105] 1 8 8 _ [(.ref x105), (.ref dc)]
  have F114 := (Exa.ext E106 DXh)
  refine go_virtual dc [(.ref x105)] [] 0 d5_8 rfl F114 (wd hB 74 rfl) (wd hB 75 rfl) (nf_of (wd hB 77 rfl)) (wd hB 77 rfl) (wd hB 76 rfl) (wd hB 34 rfl) (wd hB 78 rfl) (c_da_5 hB b0 b1 b2 b3 b4 b5 hb0 hb1 hb2 hb3 hb4 hb5 D0 A109) (fun _ q => nomatch q) (lenOf pd_12 rfl) rfl rfl rfl (fun v110 h111 s112 q113 => ?_)
  obtain ⟨r115, k116, rfl, rfl, E117, g118, A119⟩ := q113
  show Go _ _ _ _ _ _ _ _ _ _ _ _ h111 [x105] 2 13 11 _ [(.ref r115)]
  refine go_retA d5_11 [] rfl rfl rfl rfl (by decide) (by decide) (fun _ q => nomatch q) ?_
  exact ⟨_, _, rfl, rfl, (ext_of_keep (((Keep.refl h []).ext E106).ext E117)), (Nat.le_trans E106.1 g118), A119⟩
set_option maxRecDepth 65536 in
set_option maxHeartbeats 4000000 in
theorem c_dol_6 (hB : Base Z a0) (b0 b1 b2 b3 b4 b5 : Nat) (hb0 : b0 < 256) (hb1 : b1 < 256) (hb2 : b2 < 256) (hb3 : b3 < 256) (hb4 : b4 < 256) (hb5 : b5 < 256) {dc : Addr} (D0 : IsDec Z dc) {src : Addr} {ks : ClassId} {h : Heap} (A : Arv Z h src ks .byte 8 [(lv (T (X0 b0))), (lv (T (X1 b0 b1))), (lv (T (X2 b1 b2))), (lv (T (X3 b2))), (lv (T (X0 b3))), (lv (T (X1 b3 b4))), (lv (T (X2 b4 b5))), (lv (T (X3 b5)))] (.int 0)) :
    Con l Z ELc n0 (⟨"java/util/Base64$Decoder", "decodedOutLength", "([BII)I"⟩ : MethodName) kb12 9 (Option.some FieldType.int) [] (⟨0, 0, 0, 0⟩ : Room) #[.ref dc, .ref src, .int 0, .int 8] h [] (fun v h' sf' => v = some (.int 6) ∧ sf' = [] ∧ h = h') := by
  refine con_ofA hB (ls := #[.val (.ref dc), .val (.ref src), .val (.int 0), .val (.int 8), .unset, .unset, .unset, .unset, .unset]) (fun m => by simp [entryFrame, mkF, argsToLocals, Value.category]) ?_
  show Go _ _ _ _ _ _ "java/util/Base64$Decoder" kb12 9 _ "decodedOutLength" _ h [] 0 0 0 #[vr dc, vr src, vi 0, vi 8, .unset, .unset, .unset, .unset, .unset] []
  have lt101 : X0 b0 < 64 := (x0_lt hb0)
  have lt102 : X1 b0 b1 < 64 := (x1_lt hb0 hb1)
  have lt103 : X2 b1 b2 < 64 := (x2_lt hb1 hb2)
  have lt104 : X3 b2 < 64 := (x3_lt hb2)
  have lt105 : X0 b3 < 64 := (x0_lt hb3)
  have lt106 : X1 b3 b4 < 64 := (x1_lt hb3 hb4)
  have lt107 : X2 b4 b5 < 64 := (x2_lt hb4 hb5)
  have lt108 : X3 b5 < 64 := (x3_lt hb5)
  refine Go.old (fun hOld => ?_)
  obtain ⟨DX, D1, D2⟩ := id D0
  have DXh := Exa.ext hOld.2 DX
  have D1h := Fld.ext hOld.2 D1
  have D2h := Fld.ext hOld.2 D2
  obtain ⟨fb, kf, hSf, hAf⟩ := hB.2.2.2.2.2.2.2.1
  have hAg := hAf.ext hOld.2
  refine go_aloadN d12_0 rfl rfl rfl ?_
  refine go_getfield d12_1 rfl (wd hB 84 rfl) Via.refl D1h ?_
  refine go_if_eq_t (pt := 13) d12_4 (by decide) ?_
  refine go_getstatic d12_13 rfl (wd hB 86 rfl) Via.refl hSf ?_
  refine go_astore d12_16 rfl #[vr dc, vr src, vi 0, vi 8, vr fb, .unset, .unset, .unset, .unset] rfl rfl ?_
  refine go_iconst 0 d12_18 rfl ?_
  refine go_istore d12_19 rfl #[vr dc, vr src, vi 0, vi 8, vr fb, vi 0, .unset, .unset, .unset] rfl ?_
  refine go_iloadN d12_21 rfl rfl ?_
  refine go_iloadN d12_22 rfl rfl ?_
  refine go_isub d12_23 rfl (go_eq (y := 8) (by decide) ?_)
  refine go_istore d12_24 rfl #[vr dc, vr src, vi 0, vi 8, vr fb, vi 0, vi 8, .unset, .unset] rfl ?_
  refine go_iload d12_26 rfl rfl ?_
  refine go_if_ne_t (pt := 33) d12_28 (by decide) ?_
  refine go_iload d12_33 rfl rfl ?_
  refine go_iconst 2 d12_35 rfl ?_
  refine go_icmp_ge_t (pt := 66) d12_36 (by decide) ?_
  refine go_aloadN d12_66 rfl rfl rfl ?_
  refine go_getfield d12_67 rfl (wd hB 176 rfl) Via.refl D2h ?_
  refine go_if_eq_t (pt := 141) d12_70 (by decide) ?_
  refine go_aloadN d12_141 rfl rfl rfl ?_
  refine go_iloadN d12_142 rfl rfl ?_
  refine go_iconst 1 d12_143 rfl ?_
  refine go_isub d12_144 rfl (go_eq (y := 7) (by decide) ?_)
  refine go_baload (v := (.int ((T (X3 b5)).toInt8.toInt32))) 7 d12_145 rfl A ⟨by decide, by decide⟩ (by decide) rfl ?_
  refine go_bipush 61 d12_146 rfl ?_
  refine go_icmp_ne_t (pt := 167) d12_148 (T_ne61 lt108) ?_
  refine go_iload d12_167 rfl rfl ?_
  refine go_if_ne_f d12_169 rfl (by decide) ?_
  refine go_iload d12_172 rfl rfl ?_
  refine go_iconst 3 d12_174 rfl ?_
  refine go_iand d12_175 rfl (go_eq (y := 0) (by decide) ?_)
  refine go_if_eq_t (pt := 187) d12_176 (by decide) ?_
  refine go_iconst 3 d12_187 rfl ?_
  refine go_iload d12_188 rfl rfl ?_
  refine go_i2l d12_190 rfl (go_eqL (y := 8) (by decide) ?_)
  refine go_ldc2J d12_191 rfl (wd hB 178 rfl) ?_
  refine go_ladd d12_194 rfl (go_eqL (y := 11) (by decide) ?_)
  refine go_ldc2J d12_195 rfl (wd hB 179 rfl) ?_
  refine go_ldiv d12_198 rfl (by decide) (go_eqL (y := 2) (by decide) ?_)
  refine go_l2i d12_199 rfl (go_eq (y := 2) (by decide) ?_)
  refine go_imul d12_200 rfl (go_eq (y := 6) (by decide) ?_)
  refine go_iload d12_201 rfl rfl ?_
  refine go_isub d12_203 rfl (go_eq (y := 6) (by decide) ?_)
  refine go_retI d12_204 [] rfl (by decide) (by decide) (fun _ q => nomatch q) ?_
  exact ⟨rfl, rfl, rfl⟩
set_option maxRecDepth 65536 in
set_option maxHeartbeats 4000000 in
theorem c_db_6 (hB : Base Z a0) (b0 b1 b2 b3 b4 b5 : Nat) (hb0 : b0 < 256) (hb1 : b1 < 256) (hb2 : b2 < 256) (hb3 : b3 < 256) (hb4 : b4 < 256) (hb5 : b5 < 256) {dc : Addr} {src dst : Addr} {ks kd : ClassId} (hsd : src ≠ dst) {h : Heap} (A : Arv Z h src ks .byte 8 [(lv (T (X0 b0))), (lv (T (X1 b0 b1))), (lv (T (X2 b1 b2))), (lv (T (X3 b2))), (lv (T (X0 b3))), (lv (T (X1 b3 b4))), (lv (T (X2 b4 b5))), (lv (T (X3 b5)))] (.int 0)) (B : Arv Z h dst kd .byte 6 [(.int 0), (.int 0), (.int 0), (.int 0), (.int 0), (.int 0)] (.int 0)) :
    Con l Z ELc n0 (⟨"java/util/Base64$Decoder", "decodeBlock", "([BII[BIZZ)I"⟩ : MethodName) kb33 16 (Option.some FieldType.int) [] (⟨0, 0, 0, 0⟩ : Room) #[.ref dc, .ref src, .int 0, .int 8, .ref dst, .int 0, .int 0, .int 0] h [dst] (fun v h' sf' => v = some (.int 6) ∧ sf' = [] ∧ Keep h h' [dst] ∧ Arv Z h' dst kd .byte 6 [(lv (Int32.ofNat b0)), (lv (Int32.ofNat b1)), (lv (Int32.ofNat b2)), (lv (Int32.ofNat b3)), (lv (Int32.ofNat b4)), (lv (Int32.ofNat b5))] (.int 0)) := by
  refine con_ofA hB (ls := #[.val (.ref dc), .val (.ref src), .val (.int 0), .val (.int 8), .val (.ref dst), .val (.int 0), .val (.int 0), .val (.int 0), .unset, .unset, .unset, .unset, .unset, .unset, .unset, .unset]) (fun m => by simp [entryFrame, mkF, argsToLocals, Value.category]) ?_
  show Go _ _ _ _ _ _ "java/util/Base64$Decoder" kb33 16 _ "decodeBlock" _ h [dst] 0 0 0 #[vr dc, vr src, vi 0, vi 8, vr dst, vi 0, vi 0, vi 0, .unset, .unset, .unset, .unset, .unset, .unset, .unset, .unset] []
  have lt101 : X0 b0 < 64 := (x0_lt hb0)
  have lt102 : X1 b0 b1 < 64 := (x1_lt hb0 hb1)
  have lt103 : X2 b1 b2 < 64 := (x2_lt hb1 hb2)
  have lt104 : X3 b2 < 64 := (x3_lt hb2)
  have lt105 : X0 b3 < 64 := (x0_lt hb3)
  have lt106 : X1 b3 b4 < 64 := (x1_lt hb3 hb4)
  have lt107 : X2 b4 b5 < 64 := (x2_lt hb4 hb5)
  have lt108 : X3 b5 < 64 := (x3_lt hb5)
  refine Go.owned (fun hOw => ?_)
  have hge := (hOw dst (List.Mem.head _)).2
  obtain ⟨fb, kf, hSf, hAf⟩ := hB.2.2.2.2.2.2.2.1
  refine Go.old (fun hOld => ?_)
  have hAg := hAf.ext hOld.2
  refine go_iload d33_0 rfl rfl ?_
  refine go_if_eq_t (pt := 11) d33_2 (by decide) ?_
  refine go_getstatic d33_11 rfl (wd hB 86 rfl) Via.refl hSf ?_
  refine go_astore d33_14 rfl #[vr dc, vr src, vi 0, vi 8, vr dst, vi 0, vi 0, vi 0, vr fb, .unset, .unset, .unset, .unset, .unset, .unset, .unset] rfl rfl ?_
  refine go_iloadN d33_16 rfl rfl ?_
  refine go_iloadN d33_17 rfl rfl ?_
  refine go_iloadN d33_18 rfl rfl ?_
  refine go_isub d33_19 rfl (go_eq (y := 8) (by decide) ?_)
  refine go_bipush (-4) d33_20 rfl ?_
  refine go_iand d33_22 rfl (go_eq (y := 8) (by decide) ?_)
  refine go_iadd d33_23 rfl (go_eq (y := 8) (by decide) ?_)
  refine go_istore d33_24 rfl #[vr dc, vr src, vi 0, vi 8, vr dst, vi 0, vi 0, vi 0, vr fb, vi 8, .unset, .unset, .unset, .unset, .unset, .unset] rfl ?_
  refine go_iload d33_26 rfl rfl ?_
  refine go_istore d33_28 rfl #[vr dc, vr src, vi 0, vi 8, vr dst, vi 0, vi 0, vi 0, vr fb, vi 8, vi 0, .unset, .unset, .unset, .unset, .unset] rfl ?_
  refine go_iloadN d33_30 rfl rfl ?_
  refine go_iload d33_31 rfl rfl ?_
  refine go_icmp_ge_f d33_33 rfl (by decide) ?_
  refine go_aload d33_36 rfl rfl rfl ?_
  refine go_aloadN d33_38 rfl rfl rfl ?_
  refine go_iloadN d33_39 rfl rfl ?_
  refine go_iincV 1 1 d33_40 rfl #[vr dc, vr src, vi 1, vi 8, vr dst, vi 0, vi 0, vi 0, vr fb, vi 8, vi 0, .unset, .unset, .unset, .unset, .unset] (by decide) rfl (by decide) rfl ?_
  refine go_baload (v := (.int ((T (X0 b0)).toInt8.toInt32))) 0 d33_43 rfl A ⟨by decide, by decide⟩ (by decide) rfl ?_
  refine go_sipush 255 d33_44 rfl ?_
  refine go_iand d33_47 rfl (go_eq (y := T (X0 b0)) (T_isC lt101).back ?_)
  refine go_iaload (v := (.int (Int32.ofNat (X0 b0)))) (tbN (X0 b0)) d33_48 rfl hAg (T_in lt101) (T_cl lt101) (fb_at lt101) ?_
  refine go_istore d33_49 rfl #[vr dc, vr src, vi 1, vi 8, vr dst, vi 0, vi 0, vi 0, vr fb, vi 8, vi 0, vi (Int32.ofNat (X0 b0)), .unset, .unset, .unset, .unset] rfl ?_
  refine go_aload d33_51 rfl rfl rfl ?_
  refine go_aloadN d33_53 rfl rfl rfl ?_
  refine go_iloadN d33_54 rfl rfl ?_
  refine go_iincV 1 2 d33_55 rfl #[vr dc, vr src, vi 2, vi 8, vr dst, vi 0, vi 0, vi 0, vr fb, vi 8, vi 0, vi (Int32.ofNat (X0 b0)), .unset, .unset, .unset, .unset] (by decide) rfl (by decide) rfl ?_
  refine go_baload (v := (.int ((T (X1 b0 b1)).toInt8.toInt32))) 1 d33_58 rfl A ⟨by decide, by decide⟩ (by decide) rfl ?_
  refine go_sipush 255 d33_59 rfl ?_
  refine go_iand d33_62 rfl (go_eq (y := T (X1 b0 b1)) (T_isC lt102).back ?_)
  refine go_iaload (v := (.int (Int32.ofNat (X1 b0 b1)))) (tbN (X1 b0 b1)) d33_63 rfl hAg (T_in lt102) (T_cl lt102) (fb_at lt102) ?_
  refine go_istore d33_64 rfl #[vr dc, vr src, vi 2, vi 8, vr dst, vi 0, vi 0, vi 0, vr fb, vi 8, vi 0, vi (Int32.ofNat (X0 b0)), vi (Int32.ofNat (X1 b0 b1)), .unset, .unset, .unset] rfl ?_
  refine go_aload d33_66 rfl rfl rfl ?_
  refine go_aloadN d33_68 rfl rfl rfl ?_
  refine go_iloadN d33_69 rfl rfl ?_
  refine go_iincV 1 3 d33_70 rfl #[vr dc, vr src, vi 3, vi 8, vr dst, vi 0, vi 0, vi 0, vr fb, vi 8, vi 0, vi (Int32.ofNat (X0 b0)), vi (Int32.ofNat (X1 b0 b1)), .unset, .unset, .unset] (by decide) rfl (by decide) rfl ?_
  refine go_baload (v := (.int ((T (X2 b1 b2)).toInt8.toInt32))) 2 d33_73 rfl A ⟨by decide, by decide⟩ (by decide) rfl ?_
  refine go_sipush 255 d33_74 rfl ?_
  refine go_iand d33_77 rfl (go_eq (y := T (X2 b1 b2)) (T_isC lt103).back ?_)
  refine go_iaload (v := (.int (Int32.ofNat (X2 b1 b2)))) (tbN (X2 b1 b2)) d33_78 rfl hAg (T_in lt103) (T_cl lt103) (fb_at lt103) ?_
  refine go_istore d33_79 rfl #[vr dc, vr src, vi 3, vi 8, vr dst, vi 0, vi 0, vi 0, vr fb, vi 8, vi 0, vi (Int32.ofNat (X0 b0)), vi (Int32.ofNat (X1 b0 b1)), vi (Int32.ofNat (X2 b1 b2)), .unset, .unset] rfl ?_
  refine go_aload d33_81 rfl rfl rfl ?_
  refine go_aloadN d33_83 rfl rfl rfl ?_
  refine go_iloadN d33_84 rfl rfl ?_
  refine go_iincV 1 4 d33_85 rfl #[vr dc, vr src, vi 4, vi 8, vr dst, vi 0, vi 0, vi 0, vr fb, vi 8, vi 0, vi (Int32.ofNat (X0 b0)), vi (Int32.ofNat (X1 b0 b1)), vi (Int32.ofNat (X2 b1 b2)), .unset, .unset] (by decide) rfl (by decide) rfl ?_
  refine go_baload (v := (.int ((T (X3 b2)).toInt8.toInt32))) 3 d33_88 rfl A ⟨by decide, by decide⟩ (by decide) rfl ?_
  refine go_sipush 255 d33_89 rfl ?_
  refine go_iand d33_92 rfl (go_eq (y := T (X3 b2)) (T_isC lt104).back ?_)
  refine go_iaload (v := (.int (Int32.ofNat (X3 b2)))) (tbN (X3 b2)) d33_93 rfl hAg (T_in lt104) (T_cl lt104) (fb_at lt104) ?_
  refine go_istore d33_94 rfl #[vr dc, vr src, vi 4, vi 8, vr dst, vi 0, vi 0, vi 0, vr fb, vi 8, vi 0, vi (Int32.ofNat (X0 b0)), vi (Int32.ofNat (X1 b0 b1)), vi (Int32.ofNat (X2 b1 b2)), vi (Int32.ofNat (X3 b2)), .unset] rfl ?_
  refine go_iload d33_96 rfl rfl ?_
  refine go_iload d33_98 rfl rfl ?_
  refine go_ior d33_100 rfl ?_
  refine go_iload d33_101 rfl rfl ?_
  refine go_ior d33_103 rfl ?_
  refine go_iload d33_104 rfl rfl ?_
  refine go_ior d33_106 rfl ?_
  refine go_if_ge_t (pt := 116) d33_107 (or_nn (or_nn (or_nn (ofN_nneg (by omega)) (ofN_nneg (by omega))) (ofN_nneg (by omega))) (ofN_nneg (by omega))) ?_
  refine go_iload d33_116 rfl rfl ?_
  refine go_bipush 18 d33_118 rfl ?_
  refine go_ishl d33_120 rfl (go_eq (y := Int32.ofNat (X0 b0 * 262144)) (shlE (k := 18) (by decide) (by decide) (by omega) rfl (by omega)) ?_)
  refine go_iload d33_121 rfl rfl ?_
  refine go_bipush 12 d33_123 rfl ?_
  refine go_ishl d33_125 rfl (go_eq (y := Int32.ofNat (X1 b0 b1 * 4096)) (shlE (k := 12) (by decide) (by decide) (by omega) rfl (by omega)) ?_)
  refine go_ior d33_126 rfl (go_eq (y := Int32.ofNat (X0 b0 * 262144 + X1 b0 b1 * 4096)) (orE (k := 18) (by omega) (by omega) rfl (by omega)) ?_)
  refine go_iload d33_127 rfl rfl ?_
  refine go_bipush 6 d33_129 rfl ?_
  refine go_ishl d33_131 rfl (go_eq (y := Int32.ofNat (X2 b1 b2 * 64)) (shlE (k := 6) (by decide) (by decide) (by omega) rfl (by omega)) ?_)
  refine go_ior d33_132 rfl (go_eq (y := Int32.ofNat (X0 b0 * 262144 + X1 b0 b1 * 4096 + X2 b1 b2 * 64)) (orE (k := 12) (by omega) (by omega) rfl (by omega)) ?_)
  refine go_iload d33_133 rfl rfl ?_
  refine go_ior d33_135 rfl (go_eq (y := Int32.ofNat (X0 b0 * 262144 + X1 b0 b1 * 4096 + X2 b1 b2 * 64 + X3 b2)) (orE (k := 6) (by omega) (by omega) rfl (by omega)) ?_)
  refine go_istore d33_136 rfl #[vr dc, vr src, vi 4, vi 8, vr dst, vi 0, vi 0, vi 0, vr fb, vi 8, vi 0, vi (Int32.ofNat (X0 b0)), vi (Int32.ofNat (X1 b0 b1)), vi (Int32.ofNat (X2 b1 b2)), vi (Int32.ofNat (X3 b2)), vi (Int32.ofNat (X0 b0 * 262144 + X1 b0 b1 * 4096 + X2 b1 b2 * 64 + X3 b2))] rfl ?_
  refine go_aload d33_138 rfl rfl rfl ?_
  refine go_iload d33_140 rfl rfl ?_
  refine go_iincV 1 1 d33_142 rfl #[vr dc, vr src, vi 4, vi 8, vr dst, vi 0, vi 0, vi 0, vr fb, vi 8, vi 1, vi (Int32.ofNat (X0 b0)), vi (Int32.ofNat (X1 b0 b1)), vi (Int32.ofNat (X2 b1 b2)), vi (Int32.ofNat (X3 b2)), vi (Int32.ofNat (X0 b0 * 262144 + X1 b0 b1 * 4096 + X2 b1 b2 * 64 + X3 b2))] (by decide) rfl (by decide) rfl ?_
  refine go_iload d33_145 rfl rfl ?_
  refine go_bipush 16 d33_147 rfl ?_
  refine go_ishr d33_149 rfl (go_eq (y := Int32.ofNat ((X0 b0 * 262144 + X1 b0 b1 * 4096 + X2 b1 b2 * 64 + X3 b2) / 65536)) (shrE (k := 16) (by decide) (by decide) (by omega) rfl) ?_)
  refine go_i2b d33_150 rfl (go_eq (y := (Int32.ofNat b0).toInt8.toInt32) (by8 (by simp only [X0, X1, X2, X3] <;> omega)) ?_)
  refine go_bastoreV 0 ((Int32.ofNat b0).toInt8.toInt32) d33_151 rfl (i8i8 _) B ⟨by decide, by decide⟩ (by decide) (by show 0 < 6; decide) (List.Mem.head _) ?_
  intro h109 W110 B111
  have B112 : Arv Z h109 dst kd .byte 6 [(lv (Int32.ofNat b0)), (.int 0), (.int 0), (.int 0), (.int 0), (.int 0)] (.int 0) := B111
  refine go_aload d33_152 rfl rfl rfl ?_
  refine go_iload d33_154 rfl rfl ?_
  refine go_iincV 1 2 d33_156 rfl #[vr dc, vr src, vi 4, vi 8, vr dst, vi 0, vi 0, vi 0, vr fb, vi 8, vi 2, vi (Int32.ofNat (X0 b0)), vi (Int32.ofNat (X1 b0 b1)), vi (Int32.ofNat (X2 b1 b2)), vi (Int32.ofNat (X3 b2)), vi (Int32.ofNat (X0 b0 * 262144 + X1 b0 b1 * 4096 + X2 b1 b2 * 64 + X3 b2))] (by decide) rfl (by decide) rfl ?_
  refine go_iload d33_159 rfl rfl ?_
  refine go_bipush 8 d33_161 rfl ?_
  refine go_ishr d33_163 rfl (go_eq (y := Int32.ofNat ((X0 b0 * 262144 + X1 b0 b1 * 4096 + X2 b1 b2 * 64 + X3 b2) / 256)) (shrE (k := 8) (by decide) (by decide) (by omega) rfl) ?_)
  refine go_i2b d33_164 rfl (go_eq (y := (Int32.ofNat b1).toInt8.toInt32) (by8 (by simp only [X0, X1, X2, X3] <;> omega)) ?_)
  refine go_bastoreV 1 ((Int32.ofNat b1).toInt8.toInt32) d33_165 rfl (i8i8 _) B112 ⟨by decide, by decide⟩ (by decide) (by show 1 < 6; decide) (List.Mem.head _) ?_
  intro h113 W114 B115
  have B116 : Arv Z h113 dst kd .byte 6 [(lv (Int32.ofNat b0)), (lv (Int32.ofNat b1)), (.int 0), (.int 0), (.int 0), (.int 0)] (.int 0) := B115
  refine go_aload d33_166 rfl rfl rfl ?_
  refine go_iload d33_168 rfl rfl ?_
  refine go_iincV 1 3 d33_170 rfl #[vr dc, vr src, vi 4, vi 8, vr dst, vi 0, vi 0, vi 0, vr fb, vi 8, vi 3, vi (Int32.ofNat (X0 b0)), vi (Int32.ofNat (X1 b0 b1)), vi (Int32.ofNat (X2 b1 b2)), vi (Int32.ofNat (X3 b2)), vi (Int32.ofNat (X0 b0 * 262144 + X1 b0 b1 * 4096 + X2 b1 b2 * 64 + X3 b2))] (by decide) rfl (by decide) rfl ?_
  refine go_iload d33_173 rfl rfl ?_
  refine go_i2b d33_175 rfl (go_eq (y := (Int32.ofNat b2).toInt8.toInt32) (by8 (by simp only [X0, X1, X2, X3] <;> omega)) ?_)
  refine go_bastoreV 2 ((Int32.ofNat b2).toInt8.toInt32) d33_176 rfl (i8i8 _) B116 ⟨by decide, by decide⟩ (by decide) (by show 2 < 6; decide) (List.Mem.head _) ?_
  intro h117 W118 B119
  have B120 : Arv Z h117 dst kd .byte 6 [(lv (Int32.ofNat b0)), (lv (Int32.ofNat b1)), (lv (Int32.ofNat b2)), (.int 0), (.int 0), (.int 0)] (.int 0) := B119
  refine go_goto (pt := 30) d33_177 ?_
  refine go_iloadN d33_30 rfl rfl ?_
  refine go_iload d33_31 rfl rfl ?_
  refine go_icmp_ge_f d33_33 rfl (by decide) ?_
  refine go_aload d33_36 rfl rfl rfl ?_
  refine go_aloadN d33_38 rfl rfl rfl ?_
  refine go_iloadN d33_39 rfl rfl ?_
  refine go_iincV 1 5 d33_40 rfl #[vr dc, vr src, vi 5, vi 8, vr dst, vi 0, vi 0, vi 0, vr fb, vi 8, vi 3, vi (Int32.ofNat (X0 b0)), vi (Int32.ofNat (X1 b0 b1)), vi (Int32.ofNat (X2 b1 b2)), vi (Int32.ofNat (X3 b2)), vi (Int32.ofNat (X0 b0 * 262144 + X1 b0 b1 * 4096 + X2 b1 b2 * 64 + X3 b2))] (by decide) rfl (by decide) rfl ?_
  have F121 := (Arv.other (Arv.other (Arv.other A W110 hsd) W114 hsd) W118 hsd)
  refine go_baload (v := (.int ((T (X0 b3)).toInt8.toInt32))) 4 d33_43 rfl F121 ⟨by decide, by decide⟩ (by decide) rfl ?_
  refine go_sipush 255 d33_44 rfl ?_
  refine go_iand d33_47 rfl (go_eq (y := T (X0 b3)) (T_isC lt105).back ?_)
  have F122 := (Arv.other (Arv.other (Arv.other hAg W110 (old_ne hOld hAf.lt hge)) W114 (old_ne hOld hAf.lt hge)) W118 (old_ne hOld hAf.lt hge))
  refine go_iaload (v := (.int (Int32.ofNat (X0 b3)))) (tbN (X0 b3)) d33_48 rfl F122 (T_in lt105) (T_cl lt105) (fb_at lt105) ?_
  refine go_istore d33_49 rfl #[vr dc, vr src, vi 5, vi 8, vr dst, vi 0, vi 0, vi 0, vr fb, vi 8, vi 3, vi (Int32.ofNat (X0 b3)), vi (Int32.ofNat (X1 b0 b1)), vi (Int32.ofNat (X2 b1 b2)), vi (Int32.ofNat (X3 b2)), vi (Int32.ofNat (X0 b0 * 262144 + X1 b0 b1 * 4096 + X2 b1 b2 * 64 + X3 b2))] rfl ?_
  refine go_aload d33_51 rfl rfl rfl ?_
  refine go_aloadN d33_53 rfl rfl rfl ?_
  refine go_iloadN d33_54 rfl rfl ?_
  refine go_iincV 1 6 d33_55 rfl #[vr dc, vr src, vi 6, vi 8, vr dst, vi 0, vi 0, vi 0, vr fb, vi 8, vi 3, vi (Int32.ofNat (X0 b3)), vi (Int32.ofNat (X1 b0 b1)), vi (Int32.ofNat (X2 b1 b2)), vi (Int32.ofNat (X3 b2)), vi (Int32.ofNat (X0 b0 * 262144 + X1 b0 b1 * 4096 + X2 b1 b2 * 64 + X3 b2))] (by decide) rfl (by decide) rfl ?_
  refine go_baload (v := (.int ((T (X1 b3 b4)).toInt8.toInt32))) 5 d33_58 rfl F121 ⟨by decide, by decide⟩ (by decide) rfl ?_
  refine go_sipush 255 d33_59 rfl ?_
  refine go_iand d33_62 rfl (go_eq (y := T (X1 b3 b4)) (T_isC lt106).back ?_)
  refine go_iaload (v := (.int (Int32.ofNat (X1 b3 b4)))) (tbN (X1 b3 b4)) d33_63 rfl F122 (T_in lt106) (T_cl lt106) (fb_at lt106) ?_
  refine go_istore d33_64 rfl #[vr dc, vr src, vi 6, vi 8, vr dst, vi 0, vi 0, vi 0, vr fb, vi 8, vi 3, vi (Int32.ofNat (X0 b3)), vi (Int32.ofNat (X1 b3 b4)), vi (Int32.ofNat (X2 b1 b2)), vi (Int32.ofNat (X3 b2)), vi (Int32.ofNat (X0 b0 * 262144 + X1 b0 b1 * 4096 + X2 b1 b2 * 64 + X3 b2))] rfl ?_
  refine go_aload d33_66 rfl rfl rfl ?_
  refine go_aloadN d33_68 rfl rfl rfl ?_
  refine go_iloadN d33_69 rfl rfl ?_
  refine go_iincV 1 7 d33_70 rfl #[vr dc, vr src, vi 7, vi 8, vr dst, vi 0, vi 0, vi 0, vr fb, vi 8, vi 3, vi (Int32.ofNat (X0 b3)), vi (Int32.ofNat (X1 b3 b4)), vi (Int32.ofNat (X2 b1 b2)), vi (Int32.ofNat (X3 b2)), vi (Int32.ofNat (X0 b0 * 262144 + X1 b0 b1 * 4096 + X2 b1 b2 * 64 + X3 b2))] (by decide) rfl (by decide) rfl ?_
  refine go_baload (v := (.int ((T (X2 b4 b5)).toInt8.toInt32))) 6 d33_73 rfl F121 ⟨by decide, by decide⟩ (by decide) rfl ?_
  refine go_sipush 255 d33_74 rfl ?_
  refine go_iand d33_77 rfl (go_eq (y := T (X2 b4 b5)) (T_isC lt107).back ?_)
  refine go_iaload (v := (.int (Int32.ofNat (X2 b4 b5)))) (tbN (X2 b4 b5)) d33_78 rfl F122 (T_in lt107) (T_cl lt107) (fb_at lt107) ?_
  refine go_istore d33_79 rfl #[vr dc, vr src, vi 7, vi 8, vr dst, vi 0, vi 0, vi 0, vr fb, vi 8, vi 3, vi (Int32.ofNat (X0 b3)), vi (Int32.ofNat (X1 b3 b4)), vi (Int32.ofNat (X2 b4 b5)), vi (Int32.ofNat (X3 b2)), vi (Int32.ofNat (X0 b0 * 262144 + X1 b0 b1 * 4096 + X2 b1 b2 * 64 + X3 b2))] rfl ?_
  refine go_aload d33_81 rfl rfl rfl ?_
  refine go_aloadN d33_83 rfl rfl rfl ?_
  refine go_iloadN d33_84 rfl rfl ?_
  refine go_iincV 1 8 d33_85 rfl #[vr dc, vr src, vi 8, vi 8, vr dst, vi 0, vi 0, vi 0, vr fb, vi 8, vi 3, vi (Int32.ofNat (X0 b3)), vi (Int32.ofNat (X1 b3 b4)), vi (Int32.ofNat (X2 b4 b5)), vi (Int32.ofNat (X3 b2)), vi (Int32.ofNat (X0 b0 * 262144 + X1 b0 b1 * 4096 + X2 b1 b2 * 64 + X3 b2))] (by decide) rfl (by decide) rfl ?_
  refine go_baload (v := (.int ((T (X3 b5)).toInt8.toInt32))) 7 d33_88 rfl F121 ⟨by decide, by decide⟩ (by decide) rfl ?_
  refine go_sipush 255 d33_89 rfl ?_
  refine go_iand d33_92 rfl (go_eq (y := T (X3 b5)) (T_isC lt108).back ?_)
  refine go_iaload (v := (.int (Int32.ofNat (X3 b5)))) (tbN (X3 b5)) d33_93 rfl F122 (T_in lt108) (T_cl lt108) (fb_at lt108) ?_
  refine go_istore d33_94 rfl #[vr dc, vr src, vi 8, vi 8, vr dst, vi 0, vi 0, vi 0, vr fb, vi 8, vi 3, vi (Int32.ofNat (X0 b3)), vi (Int32.ofNat (X1 b3 b4)), vi (Int32.ofNat (X2 b4 b5)), vi (Int32.ofNat (X3 b5)), vi (Int32.ofNat (X0 b0 * 262144 + X1 b0 b1 * 4096 + X2 b1 b2 * 64 + X3 b2))] rfl ?_
  refine go_iload d33_96 rfl rfl ?_
  refine go_iload d33_98 rfl rfl ?_
  refine go_ior d33_100 rfl ?_
  refine go_iload d33_101 rfl rfl ?_
  refine go_ior d33_103 rfl ?_
  refine go_iload d33_104 rfl rfl ?_
  refine go_ior d33_106 rfl ?_
  refine go_if_ge_t (pt := 116) d33_107 (or_nn (or_nn (or_nn (ofN_nneg (by omega)) (ofN_nneg (by omega))) (ofN_nneg (by omega))) (ofN_nneg (by omega))) ?_
  refine go_iload d33_116 rfl rfl ?_
  refine go_bipush 18 d33_118 rfl ?_
  refine go_ishl d33_120 rfl (go_eq (y := Int32.ofNat (X0 b3 * 262144)) (shlE (k := 18) (by decide) (by decide) (by omega) rfl (by omega)) ?_)
  refine go_iload d33_121 rfl rfl ?_
  refine go_bipush 12 d33_123 rfl ?_
  refine go_ishl d33_125 rfl (go_eq (y := Int32.ofNat (X1 b3 b4 * 4096)) (shlE (k := 12) (by decide) (by decide) (by omega) rfl (by omega)) ?_)
  refine go_ior d33_126 rfl (go_eq (y := Int32.ofNat (X0 b3 * 262144 + X1 b3 b4 * 4096)) (orE (k := 18) (by omega) (by omega) rfl (by omega)) ?_)
  refine go_iload d33_127 rfl rfl ?_
  refine go_bipush 6 d33_129 rfl ?_
  refine go_ishl d33_131 rfl (go_eq (y := Int32.ofNat (X2 b4 b5 * 64)) (shlE (k := 6) (by decide) (by decide) (by omega) rfl (by omega)) ?_)
  refine go_ior d33_132 rfl (go_eq (y := Int32.ofNat (X0 b3 * 262144 + X1 b3 b4 * 4096 + X2 b4 b5 * 64)) (orE (k := 12) (by omega) (by omega) rfl (by omega)) ?_)
  refine go_iload d33_133 rfl rfl ?_
  refine go_ior d33_135 rfl (go_eq (y := Int32.ofNat (X0 b3 * 262144 + X1 b3 b4 * 4096 + X2 b4 b5 * 64 + X3 b5)) (orE (k := 6) (by omega) (by omega) rfl (by omega)) ?_)
  refine go_istore d33_136 rfl #[vr dc, vr src, vi 8, vi 8, vr dst, vi 0, vi 0, vi 0, vr fb, vi 8, vi 3, vi (Int32.ofNat (X0 b3)), vi (Int32.ofNat (X1 b3 b4)), vi (Int32.ofNat (X2 b4 b5)), vi (Int32.ofNat (X3 b5)), vi (Int32.ofNat (X0 b3 * 262144 + X1 b3 b4 * 4096 + X2 b4 b5 * 64 + X3 b5))] rfl ?_
  refine go_aload d33_138 rfl rfl rfl ?_
  refine go_iload d33_140 rfl rfl ?_
  refine go_iincV 1 4 d33_142 rfl #[vr dc, vr src, vi 8, vi 8, vr dst, vi 0, vi 0, vi 0, vr fb, vi 8, vi 4, vi (Int32.ofNat (X0 b3)), vi (Int32.ofNat (X1 b3 b4)), vi (Int32.ofNat (X2 b4 b5)), vi (Int32.ofNat (X3 b5)), vi (Int32.ofNat (X0 b3 * 262144 + X1 b3 b4 * 4096 + X2 b4 b5 * 64 + X3 b5))] (by decide) rfl (by decide) rfl ?_
  refine go_iload d33_145 rfl rfl ?_
  refine go_bipush 16 d33_147 rfl ?_
  refine go_ishr d33_149 rfl (go_eq (y := Int32.ofNat ((X0 b3 * 262144 + X1 b3 b4 * 4096 + X2 b4 b5 * 64 + X3 b5) / 65536)) (shrE (k := 16) (by decide) (by decide) (by omega) rfl) ?_)
  refine go_i2b d33_150 rfl (go_eq (y := (Int32.ofNat b3).toInt8.toInt32) (by8 (by simp only [X0, X1, X2, X3] <;> omega)) ?_)
  refine go_bastoreV 3 ((Int32.ofNat b3).toInt8.toInt32) d33_151 rfl (i8i8 _) B120 ⟨by decide, by decide⟩ (by decide) (by show 3 < 6; decide) (List.Mem.head _) ?_
  intro h123 W124 B125
  have B126 : Arv Z h123 dst kd .byte 6 [(lv (Int32.ofNat b0)), (lv (Int32.ofNat b1)), (lv (Int32.ofNat b2)), (lv (Int32.ofNat b3)), (.int 0), (.int 0)] (.int 0) := B125
  refine go_aload d33_152 rfl rfl rfl ?_
  refine go_iload d33_154 rfl rfl ?_
  refine go_iincV 1 5 d33_156 rfl #[vr dc, vr src, vi 8, vi 8, vr dst, vi 0, vi 0, vi 0, vr fb, vi 8, vi 5, vi (Int32.ofNat (X0 b3)), vi (Int32.ofNat (X1 b3 b4)), vi (Int32.ofNat (X2 b4 b5)), vi (Int32.ofNat (X3 b5)), vi (Int32.ofNat (X0 b3 * 262144 + X1 b3 b4 * 4096 + X2 b4 b5 * 64 + X3 b5))] (by decide) rfl (by decide) rfl ?_
  refine go_iload d33_159 rfl rfl ?_
  refine go_bipush 8 d33_161 rfl ?_
  refine go_ishr d33_163 rfl (go_eq (y := Int32.ofNat ((X0 b3 * 262144 + X1 b3 b4 * 4096 + X2 b4 b5 * 64 + X3 b5) / 256)) (shrE (k := 8) (by decide) (by decide) (by omega) rfl) ?_)
  refine go_i2b d33_164 rfl (go_eq (y := (Int32.ofNat b4).toInt8.toInt32) (by8 (by simp only [X0, X1, X2, X3] <;> omega)) ?_)
  refine go_bastoreV 4 ((Int32.ofNat b4).toInt8.toInt32) d33_165 rfl (i8i8 _) B126 ⟨by decide, by decide⟩ (by decide) (by show 4 < 6; decide) (List.Mem.head _) ?_
  intro h127 W128 B129
  have B130 : Arv Z h127 dst kd .byte 6 [(lv (Int32.ofNat b0)), (lv (Int32.ofNat b1)), (lv (Int32.ofNat b2)), (lv (Int32.ofNat b3)), (lv (Int32.ofNat b4)), (.int 0)] (.int 0) := B129
  refine go_aload d33_166 rfl rfl rfl ?_
  refine go_iload d33_168 rfl rfl ?_
  refine go_iincV 1 6 d33_170 rfl #[vr dc, vr src, vi 8, vi 8, vr dst, vi 0, vi 0, vi 0, vr fb, vi 8, vi 6, vi (Int32.ofNat (X0 b3)), vi (Int32.ofNat (X1 b3 b4)), vi (Int32.ofNat (X2 b4 b5)), vi (Int32.ofNat (X3 b5)), vi (Int32.ofNat (X0 b3 * 262144 + X1 b3 b4 * 4096 + X2 b4 b5 * 64 + X3 b5))] (by decide) rfl (by decide) rfl ?_
  refine go_iload d33_173 rfl rfl ?_
  refine go_i2b d33_175 rfl (go_eq (y := (Int32.ofNat b5).toInt8.toInt32) (by8 (by simp only [X0, X1, X2, X3] <;> omega)) ?_)
  refine go_bastoreV 5 ((Int32.ofNat b5).toInt8.toInt32) d33_176 rfl (i8i8 _) B130 ⟨by decide, by decide⟩ (by decide) (by show 5 < 6; decide) (List.Mem.head _) ?_
  intro h131 W132 B133
  have B134 : Arv Z h131 dst kd .byte 6 [(lv (Int32.ofNat b0)), (lv (Int32.ofNat b1)), (lv (Int32.ofNat b2)), (lv (Int32.ofNat b3)), (lv (Int32.ofNat b4)), (lv (Int32.ofNat b5))] (.int 0) := B133
  refine go_goto (pt := 30) d33_177 ?_
  refine go_iloadN d33_30 rfl rfl ?_
  refine go_iload d33_31 rfl rfl ?_
  refine go_icmp_ge_t (pt := 180) d33_33 (by decide) ?_
  refine go_iload d33_180 rfl rfl ?_
  refine go_iload d33_182 rfl rfl ?_
  refine go_isub d33_184 rfl (go_eq (y := 6) (by decide) ?_)
  refine go_retI d33_185 [] rfl (by decide) (by decide) (fun _ q => nomatch q) ?_
  exact ⟨rfl, rfl, (((((((Keep.refl h [dst]).wr W110 (Or.inl (List.Mem.head _))).wr W114 (Or.inl (List.Mem.head _))).wr W118 (Or.inl (List.Mem.head _))).wr W124 (Or.inl (List.Mem.head _))).wr W128 (Or.inl (List.Mem.head _))).wr W132 (Or.inl (List.Mem.head _))), B134⟩
set_option maxRecDepth 65536 in
set_option maxHeartbeats 4000000 in
theorem c_d0_6 (hB : Base Z a0) (b0 b1 b2 b3 b4 b5 : Nat) (hb0 : b0 < 256) (hb1 : b1 < 256) (hb2 : b2 < 256) (hb3 : b3 < 256) (hb4 : b4 < 256) (hb5 : b5 < 256) {dc : Addr} (D0 : IsDec Z dc) {src dst : Addr} {ks kd : ClassId} (hsd : src ≠ dst) {h : Heap} (A : Arv Z h src ks .byte 8 [(lv (T (X0 b0))), (lv (T (X1 b0 b1))), (lv (T (X2 b1 b2))), (lv (T (X3 b2))), (lv (T (X0 b3))), (lv (T (X1 b3 b4))), (lv (T (X2 b4 b5))), (lv (T (X3 b5)))] (.int 0)) (B : Arv Z h dst kd .byte 6 [(.int 0), (.int 0), (.int 0), (.int 0), (.int 0), (.int 0)] (.int 0)) :
    Con l Z ELc n0 (⟨"java/util/Base64$Decoder", "decode0", "([BII[B)I"⟩ : MethodName) kb13 11 (Option.some FieldType.int) [] (⟨1, 0, 0, 27⟩ : Room) #[.ref dc, .ref src, .int 0, .int 8, .ref dst] h [dst] (fun v h' sf' => v = some (.int 6) ∧ sf' = [] ∧ Keep h h' [dst] ∧ Arv Z h' dst kd .byte 6 [(lv (Int32.ofNat b0)), (lv (Int32.ofNat b1)), (lv (Int32.ofNat b2)), (lv (Int32.ofNat b3)), (lv (Int32.ofNat b4)), (lv (Int32.ofNat b5))] (.int 0)) := by
  refine con_ofA hB (ls := #[.val (.ref dc), .val (.ref src), .val (.int 0), .val (.int 8), .val (.ref dst), .unset, .unset, .unset, .unset, .unset, .unset]) (fun m => by simp [entryFrame, mkF, argsToLocals, Value.category]) ?_
  show Go _ _ _ _ _ _ "java/util/Base64$Decoder" kb13 11 _ "decode0" _ h [dst] 0 0 0 #[vr dc, vr src, vi 0, vi 8, vr dst, .unset, .unset, .unset, .unset, .unset, .unset] []
  have lt101 : X0 b0 < 64 := (x0_lt hb0)
  have lt102 : X1 b0 b1 < 64 := (x1_lt hb0 hb1)
  have lt103 : X2 b1 b2 < 64 := (x2_lt hb1 hb2)
  have lt104 : X3 b2 < 64 := (x3_lt hb2)
  have lt105 : X0 b3 < 64 := (x0_lt hb3)
  have lt106 : X1 b3 b4 < 64 := (x1_lt hb3 hb4)
  have lt107 : X2 b4 b5 < 64 := (x2_lt hb4 hb5)
  have lt108 : X3 b5 < 64 := (x3_lt hb5)
  refine Go.owned (fun hOw => ?_)
  have hge := (hOw dst (List.Mem.head _)).2
  refine Go.old (fun hOld => ?_)
  obtain ⟨DX, D1, D2⟩ := id D0
  have DXh := Exa.ext hOld.2 DX
  have D1h := Fld.ext hOld.2 D1
  have D2h := Fld.ext hOld.2 D2
  obtain ⟨fb, kf, hSf, hAf⟩ := hB.2.2.2.2.2.2.2.1
  have hAg := hAf.ext hOld.2
  refine go_aloadN d13_0 rfl rfl rfl ?_
  refine go_getfield d13_1 rfl (wd hB 84 rfl) Via.refl D1h ?_
  refine go_if_eq_t (pt := 13) d13_4 (by decide) ?_
  refine go_getstatic d13_13 rfl (wd hB 86 rfl) Via.refl hSf ?_
  refine go_astore d13_16 rfl #[vr dc, vr src, vi 0, vi 8, vr dst, vr fb, .unset, .unset, .unset, .unset, .unset] rfl rfl ?_
  refine go_iconst 0 d13_18 rfl ?_
  refine go_istore d13_19 rfl #[vr dc, vr src, vi 0, vi 8, vr dst, vr fb, vi 0, .unset, .unset, .unset, .unset] rfl ?_
  refine go_iconst 0 d13_21 rfl ?_
  refine go_istore d13_22 rfl #[vr dc, vr src, vi 0, vi 8, vr dst, vr fb, vi 0, vi 0, .unset, .unset, .unset] rfl ?_
  refine go_bipush 18 d13_24 rfl ?_
  refine go_istore d13_26 rfl #[vr dc, vr src, vi 0, vi 8, vr dst, vr fb, vi 0, vi 0, vi 18, .unset, .unset] rfl ?_
  refine go_iloadN d13_28 rfl rfl ?_
  refine go_iloadN d13_29 rfl rfl ?_
  refine go_icmp_ge_f d13_30 rfl (by decide) ?_
  refine go_iload d13_33 rfl rfl ?_
  refine go_bipush 18 d13_35 rfl ?_
  refine go_icmp_ne_f d13_37 rfl (by decide) ?_
  refine go_iloadN d13_40 rfl rfl ?_
  refine go_iloadN d13_41 rfl rfl ?_
  refine go_iconst 4 d13_42 rfl ?_
  refine go_isub d13_43 rfl (go_eq (y := 4) (by decide) ?_)
  refine go_icmp_ge_f d13_44 rfl (by decide) ?_
  refine go_aloadN d13_47 rfl rfl rfl ?_
  refine go_aloadN d13_48 rfl rfl rfl ?_
  refine go_iloadN d13_49 rfl rfl ?_
  refine go_iloadN d13_50 rfl rfl ?_
  refine go_aload d13_51 rfl rfl rfl ?_
  refine go_iload d13_53 rfl rfl ?_
  refine go_aloadN d13_55 rfl rfl rfl ?_
  refine go_getfield d13_56 rfl (wd hB 84 rfl) Via.refl D1h ?_
  refine go_aloadN d13_59 rfl rfl rfl ?_
  refine go_getfield d13_60 rfl (wd hB 176 rfl) Via.refl D2h ?_
  refine go_virtual dc [(.ref src), (.int 0), (.int 8), (.ref dst), (.int 0), (.int 0), (.int 0)] [] 0 d13_63 rfl DXh (wd hB 186 rfl) (declares_of (wd hB 187 rfl) (wd hB 190 rfl)) (nf_of (wd hB 189 rfl)) (wd hB 189 rfl) (wd hB 187 rfl) (wd hB 34 rfl) (wd hB 190 rfl) (c_db_6 hB b0 b1 b2 b3 b4 b5 hb0 hb1 hb2 hb3 hb4 hb5 hsd A B) (allS (List.Mem.head _) (fun _ q => nomatch q)) (lenOf pd_13 rfl) rfl rfl rfl (fun v109 h110 s111 q112 => ?_)
  obtain ⟨rfl, rfl, K113, B114⟩ := q112
  show Go _ _ _ _ _ _ _ _ _ _ _ _ h110 [dst] 0 0 66 _ [(.int 6)]
  refine go_istore d13_66 rfl #[vr dc, vr src, vi 0, vi 8, vr dst, vr fb, vi 0, vi 0, vi 18, vi 6, .unset] rfl ?_
  refine go_iload d13_68 rfl rfl ?_
  refine go_iconst 2 d13_70 rfl ?_
  refine go_iadd d13_71 rfl (go_eq (y := 8) (by decide) ?_)
  refine go_iconst 3 d13_72 rfl ?_
  refine go_idiv d13_73 rfl (by decide) (go_eq (y := 2) (by decide) ?_)
  refine go_iconst 4 d13_74 rfl ?_
  refine go_imul d13_75 rfl (go_eq (y := 8) (by decide) ?_)
  refine go_istore d13_76 rfl #[vr dc, vr src, vi 0, vi 8, vr dst, vr fb, vi 0, vi 0, vi 18, vi 6, vi 8] rfl ?_
  refine go_iloadN d13_78 rfl rfl ?_
  refine go_iload d13_79 rfl rfl ?_
  refine go_iadd d13_81 rfl (go_eq (y := 8) (by decide) ?_)
  refine go_istoreN d13_82 rfl #[vr dc, vr src, vi 8, vi 8, vr dst, vr fb, vi 0, vi 0, vi 18, vi 6, vi 8] rfl ?_
  refine go_iload d13_83 rfl rfl ?_
  refine go_iload d13_85 rfl rfl ?_
  refine go_iadd d13_87 rfl (go_eq (y := 6) (by decide) ?_)
  refine go_istore d13_88 rfl #[vr dc, vr src, vi 8, vi 8, vr dst, vr fb, vi 6, vi 0, vi 18, vi 6, vi 8] rfl ?_
  refine go_iloadN d13_90 rfl rfl ?_
  refine go_iloadN d13_91 rfl rfl ?_
  refine go_icmp_lt_f d13_92 rfl (by decide) ?_
  refine go_goto (pt := 281) d13_95 ?_
  refine go_iload d13_281 rfl rfl ?_
  refine go_bipush 6 d13_283 rfl ?_
  refine go_icmp_ne_t (pt := 305) d13_285 (by decide) ?_
  refine go_iload d13_305 rfl rfl ?_
  refine go_if_ne_t (pt := 341) d13_307 (by decide) ?_
  refine go_iload d13_341 rfl rfl ?_
  refine go_bipush 12 d13_343 rfl ?_
  refine go_icmp_ne_t (pt := 358) d13_345 (by decide) ?_
  refine go_iloadN d13_358 rfl rfl ?_
  refine go_iloadN d13_359 rfl rfl ?_
  refine go_icmp_ge_t (pt := 416) d13_360 (by decide) ?_
  refine go_iload d13_416 rfl rfl ?_
  refine go_retI d13_418 [] rfl (by decide) (by decide) (fun _ q => nomatch q) ?_
  exact ⟨rfl, rfl, ((Keep.refl h [dst]).trans K113 (allS (Or.inl (List.Mem.head _)) all0)), B114⟩
set_option maxRecDepth 65536 in
set_option maxHeartbeats 4000000 in
theorem c_da_6 (hB : Base Z a0) (b0 b1 b2 b3 b4 b5 : Nat) (hb0 : b0 < 256) (hb1 : b1 < 256) (hb2 : b2 < 256) (hb3 : b3 < 256) (hb4 : b4 < 256) (hb5 : b5 < 256) {dc : Addr} (D0 : IsDec Z dc) {src : Addr} {ks : ClassId} {h : Heap} (A : Arv Z h src ks .byte 8 [(lv (T (X0 b0))), (lv (T (X1 b0 b1))), (lv (T (X2 b1 b2))), (lv (T (X3 b2))), (lv (T (X0 b3))), (lv (T (X1 b3 b4))), (lv (T (X2 b4 b5))), (lv (T (X3 b5)))] (.int 0)) :
    Con l Z ELc n0 (⟨"java/util/Base64$Decoder", "decode", "([B)[B"⟩ : MethodName) kb11 4 (Option.some (FieldType.array FieldType.byte)) [] (⟨2, 1, 6, 49⟩ : Room) #[.ref dc, .ref src] h [] (fun v h' sf' => ∃ r kr, v = some (.ref r) ∧ sf' = [] ∧ Ext h h' ∧ h.size ≤ r ∧ Arv Z h' r kr .byte 6 [(lv (Int32.ofNat b0)), (lv (Int32.ofNat b1)), (lv (Int32.ofNat b2)), (lv (Int32.ofNat b3)), (lv (Int32.ofNat b4)), (lv (Int32.ofNat b5))] (.int 0)) := by
  refine con_ofA hB (ls := #[.val (.ref dc), .val (.ref src), .unset, .unset]) (fun m => by simp [entryFrame, mkF, argsToLocals, Value.category]) ?_
  show Go _ _ _ _ _ _ "java/util/Base64$Decoder" kb11 4 _ "decode" _ h [] 0 0 0 #[vr dc, vr src, .unset, .unset] []
  refine Go.old (fun hOld => ?_)
  obtain ⟨DX, D1, D2⟩ := id D0
  have DXh := Exa.ext hOld.2 DX
  have D1h := Fld.ext hOld.2 D1
  have D2h := Fld.ext hOld.2 D2
  refine go_aloadN d11_0 rfl rfl rfl ?_
  refine go_aloadN d11_1 rfl rfl rfl ?_
  refine go_iconst 0 d11_2 rfl ?_
  refine go_aloadN d11_3 rfl rfl rfl ?_
  refine go_alen d11_4 rfl A ?_
  refine go_virtual dc [(.ref src), (.int 0), (.int 8)] [] 0 d11_5 rfl DXh (wd hB 79 rfl) (declares_of (wd hB 80 rfl) (wd hB 83 rfl)) (nf_of (wd hB 82 rfl)) (wd hB 82 rfl) (wd hB 80 rfl) (wd hB 34 rfl) (wd hB 83 rfl) (c_dol_6 hB b0 b1 b2 b3 b4 b5 hb0 hb1 hb2 hb3 hb4 hb5 D0 A) (fun _ q => nomatch q) (lenOf pd_9 rfl) rfl rfl rfl (fun v101 h102 s103 q104 => ?_)
  obtain ⟨rfl, rfl, rfl⟩ := q104
  show Go _ _ _ _ _ _ _ _ _ _ _ _ h [] 0 0 8 _ [(.int 6)]
  refine go_newarr (ty := .byte) (ad := "[B") 6 d11_8 rfl rfl (wd hB 18 rfl) (by decide) (by decide) (by decide) (by decide) (by decide) (by decide) ?_
  intro h110 x105 hx106 E107 ⟨A108, k109, B111⟩
  have B112 : Arv Z h110 x105 k109 .byte 6 [(.int 0), (.int 0), (.int 0), (.int 0), (.int 0), (.int 0)] (.int 0) := B111.pad (pad_rep [] (.int 0) 6)
  refine go_astoreN d11_10 rfl #[vr dc, vr src, vr x105, .unset] rfl rfl ?_
  refine go_aloadN d11_11 rfl rfl rfl ?_
  refine go_aloadN d11_12 rfl rfl rfl ?_
  refine go_iconst 0 d11_13 rfl ?_
  refine go_aloadN d11_14 rfl rfl rfl ?_
  have F113 := (A.ext E107)
  refine go_alen d11_15 rfl F113 ?_
  refine go_aloadN d11_16 rfl rfl rfl ?_
  have F118 := (Exa.ext E107 DXh)
  refine go_virtual dc [(.ref src), (.int 0), (.int 8), (.ref x105)] [] 0 d11_17 rfl F118 (wd hB 87 rfl) (declares_of (wd hB 88 rfl) (wd hB 91 rfl)) (nf_of (wd hB 90 rfl)) (wd hB 90 rfl) (wd hB 88 rfl) (wd hB 34 rfl) (wd hB 91 rfl) (c_d0_6 hB b0 b1 b2 b3 b4 b5 hb0 hb1 hb2 hb3 hb4 hb5 D0 (Nat.ne_of_lt (Nat.lt_of_lt_of_le A.lt (Nat.le_of_eq hx106.symm))) F113 B112) (allS (List.Mem.head _) (fun _ q => nomatch q)) (lenOf pd_10 rfl) rfl rfl rfl (fun v114 h115 s116 q117 => ?_)
  obtain ⟨rfl, rfl, K119, B120⟩ := q117
  show Go _ _ _ _ _ _ _ _ _ _ _ _ h115 [x105] 1 6 20 _ [(.int 6)]
  refine go_istoreN d11_20 rfl #[vr dc, vr src, vr x105, vi 6] rfl ?_
  refine go_iloadN d11_21 rfl rfl ?_
  refine go_aloadN d11_22 rfl rfl rfl ?_
  refine go_alen d11_23 rfl B120 ?_
  refine go_icmp_eq_t (pt := 33) d11_24 (by decide) ?_
  refine go_aloadN d11_33 rfl rfl rfl ?_
  refine go_retA d11_34 [] rfl rfl rfl rfl (by decide) (by decide) (fun _ q => nomatch q) ?_
  exact ⟨_, _, rfl, rfl, (ext_of_keep (((Keep.refl h []).ext E107).trans K119 (allS (Or.inr (Nat.le_of_eq hx106.symm)) all0))), (Nat.le_of_eq hx106.symm), B120⟩
set_option maxRecDepth 65536 in
set_option maxHeartbeats 4000000 in
theorem c_ds_6 (hB : Base Z a0) (b0 b1 b2 b3 b4 b5 : Nat) (hb0 : b0 < 256) (hb1 : b1 < 256) (hb2 : b2 < 256) (hb3 : b3 < 256) (hb4 : b4 < 256) (hb5 : b5 < 256) {dc : Addr} (D0 : IsDec Z dc) {is ut : Addr} (SI : Sta Z Z.heap "sun/nio/cs/ISO_8859_1" "INSTANCE" "Lsun/nio/cs/ISO_8859_1;" (.ref is)) (SU : Sta Z Z.heap "sun/nio/cs/UTF_8" "INSTANCE" "Lsun/nio/cs/UTF_8;" (.ref ut)) (IX : Exa Z Z.heap is "sun/nio/cs/ISO_8859_1") (UX : Exa Z Z.heap ut "sun/nio/cs/UTF_8") {s d : Addr} {k : ClassId} {h : Heap} (E : Exa Z h s "java/lang/String") (C : Fld Z h s "java/lang/String" "coder" "B" (.int 0)) (V : Fld Z h s "java/lang/String" "value" "[B" (.ref d)) (A : Arv Z h d k .byte 8 [(lv (T (X0 b0))), (lv (T (X1 b0 b1))), (lv (T (X2 b1 b2))), (lv (T (X3 b2))), (lv (T (X0 b3))), (lv (T (X1 b3 b4))), (lv (T (X2 b4 b5))), (lv (T (X3 b5)))] (.int 0)) (X : Exa Z h d "[B") :
    Con l Z ELc n0 (⟨"java/util/Base64$Decoder", "decode", "(Ljava/lang/String;)[B"⟩ : MethodName) kb5 2 (Option.some (FieldType.array FieldType.byte)) [] (⟨5, 2, 14, 76⟩ : Room) #[.ref dc, .ref s] h [] (fun v h' sf' => ∃ r kr, v = some (.ref r) ∧ sf' = [] ∧ Ext h h' ∧ h.size ≤ r ∧ Arv Z h' r kr .byte 6 [(lv (Int32.ofNat b0)), (lv (Int32.ofNat b1)), (lv (Int32.ofNat b2)), (lv (Int32.ofNat b3)), (lv (Int32.ofNat b4)), (lv (Int32.ofNat b5))] (.int 0)) := by
  refine con_ofA hB (ls := #[.val (.ref dc), .val (.ref s)]) (fun m => by simp [entryFrame, mkF, argsToLocals, Value.category]) ?_
  show Go _ _ _ _ _ _ "java/util/Base64$Decoder" kb5 2 _ "decode" _ h [] 0 0 0 #[vr dc, vr s] []
  refine Go.old (fun hOld => ?_)
  obtain ⟨DX, D1, D2⟩ := id D0
  have DXh := Exa.ext hOld.2 DX
  have D1h := Fld.ext hOld.2 D1
  have D2h := Fld.ext hOld.2 D2
  have IXh := Exa.ext hOld.2 IX
  have UXh := Exa.ext hOld.2 UX
  refine go_aloadN d5_0 rfl rfl rfl ?_
  refine go_aloadN d5_1 rfl rfl rfl ?_
  refine go_getstatic d5_2 rfl (wd hB 40 rfl) Via.refl SI ?_
  refine go_virtual s [(.ref is)] [(.ref dc)] 1 d5_5 rfl E (wd hB 42 rfl) (wd hB 43 rfl) (nf_of (wd hB 45 rfl)) (wd hB 45 rfl) (wd hB 44 rfl) (wd hB 6 rfl) (wd hB 46 rfl) (c_gb hB SI SU IX UX (by decide) A X E C V) (fun _ q => nomatch q) (lenOf pd_11 rfl) rfl rfl rfl (fun v101 h102 s103 q104 => ?_)
  obtain ⟨x105, rfl, rfl, E106, g107, X108, A109⟩ := q104
  show Go _ _ _ _ _ _ _ _ _ _ _ _ h102 [x105] 1 8 8 _ [(.ref x105), (.ref dc)]
  have F114 := (Exa.ext E106 DXh)
  refine go_virtual dc [(.ref x105)] [] 0 d5_8 rfl F114 (wd hB 74 rfl) (wd hB 75 rfl) (nf_of (wd hB 77 rfl)) (wd hB 77 rfl) (wd hB 76 rfl) (wd hB 34 rfl) (wd hB 78 rfl) (c_da_6 hB b0 b1 b2 b3 b4 b5 hb0 hb1 hb2 hb3 hb4 hb5 D0 A109) (fun _ q => nomatch q) (lenOf pd_12 rfl) rfl rfl rfl (fun v110 h111 s112 q113 => ?_)
  obtain ⟨r115, k116, rfl, rfl, E117, g118, A119⟩ := q113
  show Go _ _ _ _ _ _ _ _ _ _ _ _ h111 [x105] 2 14 11 _ [(.ref r115)]
  refine go_retA d5_11 [] rfl rfl rfl rfl (by decide) (by decide) (fun _ q => nomatch q) ?_
  exact ⟨_, _, rfl, rfl, (ext_of_keep (((Keep.refl h []).ext E106).ext E117)), (Nat.le_trans E106.1 g118), A119⟩
set_option maxRecDepth 65536 in
set_option maxHeartbeats 4000000 in
theorem c_cfs_4 (hB : Base Z a0) {fv : Value} (hfv : fv.isRef = true) {h : Heap} :
    Con l Z ELc n0 (⟨"jdk/internal/util/Preconditions", "checkFromIndexSize", "(IIILjava/util/function/BiFunction;)I"⟩ : MethodName) kb23 4 (Option.some FieldType.int) [] (⟨0, 0, 0, 0⟩ : Room) #[.int 0, .int 4, .int 4, fv] h [] (fun v h' sf' => v = some (.int 0) ∧ sf' = [] ∧ h = h') := by
  refine con_of (a0 := a0) (ls := #[.val (.int 0), .val (.int 4), .val (.int 4), .val fv]) (plainFor_of_name (by decide +kernel)) hB.2.1 (fun m => by rcases ref_cases hfv with e | ⟨_, e⟩ <;> rw [e] <;> first | (simp [entryFrame, mkF, argsToLocals, Value.category]; done) | rfl) ?_
  show Go _ _ _ _ _ _ "jdk/internal/util/Preconditions" kb23 4 _ "checkFromIndexSize" _ h [] 0 0 0 #[vi 0, vi 4, vi 4, .val fv] []
  refine go_iloadN d23_0 rfl rfl ?_
  refine go_iloadN d23_1 rfl rfl ?_
  refine go_ior d23_2 rfl (go_eq (y := 4) (by decide) ?_)
  refine go_iloadN d23_3 rfl rfl ?_
  refine go_ior d23_4 rfl (go_eq (y := 4) (by decide) ?_)
  refine go_if_lt_f d23_5 rfl (by decide) ?_
  refine go_iloadN d23_8 rfl rfl ?_
  refine go_iloadN d23_9 rfl rfl ?_
  refine go_iloadN d23_10 rfl rfl ?_
  refine go_isub d23_11 rfl (go_eq (y := 4) (by decide) ?_)
  refine go_icmp_le_t (pt := 23) d23_12 (by decide) ?_
  refine go_iloadN d23_23 rfl rfl ?_
  refine go_retI d23_24 [] rfl (by decide) (by decide) (fun _ q => nomatch q) ?_
  exact ⟨rfl, rfl, rfl⟩
set_option maxRecDepth 65536 in
set_option maxHeartbeats 4000000 in
theorem c_cbo_4 (hB : Base Z a0) {h : Heap} :
    Con l Z ELc n0 (⟨"java/lang/String", "checkBoundsOffCount", "(III)I"⟩ : MethodName) kb22 3 (Option.some FieldType.int) [] (⟨1, 0, 0, 15⟩ : Room) #[.int 0, .int 4, .int 4] h [] (fun v h' sf' => v = some (.int 0) ∧ sf' = [] ∧ h = h') := by
  refine con_ofA hB (ls := #[.val (.int 0), .val (.int 4), .val (.int 4)]) (fun m => by simp [entryFrame, mkF, argsToLocals, Value.category]) ?_
  show Go _ _ _ _ _ _ "java/lang/String" kb22 3 _ "checkBoundsOffCount" _ h [] 0 0 0 #[vi 0, vi 4, vi 4] []
  obtain ⟨fv, hFv, hfv⟩ := hB.2.2.2.1
  refine go_iloadN d22_0 rfl rfl ?_
  refine go_iloadN d22_1 rfl rfl ?_
  refine go_iloadN d22_2 rfl rfl ?_
  refine go_getstatic d22_3 rfl (wd hB 141 rfl) Via.refl hFv ?_
  refine go_static [(.int 0), (.int 4), (.int 4), fv] [] 0 d22_6 rfl (wd hB 143 rfl) (wd hB 144 rfl) (wd hB 142 rfl) (wd hB 145 rfl) (c_cfs_4 hB hfv) (fun _ q => nomatch q) (lenOf pd_14 rfl) rfl rfl rfl (fun v101 h102 s103 q104 => ?_)
  obtain ⟨rfl, rfl, rfl⟩ := q104
  show Go _ _ _ _ _ _ _ _ _ _ _ _ h [] 0 0 9 _ [(.int 0)]
  refine go_retI d22_9 [] rfl (by decide) (by decide) (fun _ q => nomatch q) ?_
  exact ⟨rfl, rfl, rfl⟩
set_option maxRecDepth 65536 in
set_option maxHeartbeats 4000000 in
theorem c_cor_4 (hB : Base Z a0) {b : Addr} {kb : ClassId} {vs : List Value} {h : Heap} (A : Arv Z h b kb .byte 4 vs (.int 0)) (X : Exa Z h b "[B") :
    Con l Z ELc n0 (⟨"java/util/Arrays", "copyOfRange", "([BII)[B"⟩ : MethodName) kb32 3 (Option.some (FieldType.array FieldType.byte)) [] (⟨1, 1, 4, 14⟩ : Room) #[.ref b, .int 0, .int 4] h [] (fun v h' sf' => ∃ x, v = some (.ref x) ∧ sf' = [x] ∧ Ext h h' ∧ h.size ≤ x ∧ Exa Z h' x "[B" ∧ Arv Z h' x kb .byte 4 vs (.int 0)) := by
  refine con_ofA hB (ls := #[.val (.ref b), .val (.int 0), .val (.int 4)]) (fun m => by simp [entryFrame, mkF, argsToLocals, Value.category]) ?_
  show Go _ _ _ _ _ _ "java/util/Arrays" kb32 3 _ "copyOfRange" _ h [] 0 0 0 #[vr b, vi 0, vi 4] []
  refine go_iloadN d32_0 rfl rfl ?_
  refine go_if_ne_f d32_1 rfl (by decide) ?_
  refine go_iloadN d32_4 rfl rfl ?_
  refine go_aloadN d32_5 rfl rfl rfl ?_
  refine go_alen d32_6 rfl A ?_
  refine go_icmp_eq_t (pt := 17) d32_7 (by decide) ?_
  refine go_aloadN d32_17 rfl rfl rfl ?_
  refine go_clone (ad := "[B") 4 0 d32_18 rfl (wd hB 184 rfl) (wd hB 66 rfl) (wd hB 70 rfl) (wd hB 68 rfl) (wd hB 69 rfl) (wd hB 71 rfl) A X (by decide) rfl rfl (by decide) (by decide) (by decide) (by decide) ?_
  intro h103 x101 hx102 E104 ⟨A105, B106⟩
  refine go_checkcast d32_21 rfl (wd hB 185 rfl) (Ins.self A105) ?_
  refine go_retA d32_24 [x101] rfl rfl rfl rfl (by decide) (by decide) (allS (List.Mem.head _) (fun _ q => nomatch q)) ?_
  exact ⟨_, rfl, rfl, (ext_of_keep ((Keep.refl h []).ext E104)), (Nat.le_of_eq hx102.symm), A105, B106⟩
set_option maxRecDepth 65536 in
set_option maxHeartbeats 4000000 in
theorem c_s3_4 (hB : Base Z a0) {b : Addr} {kb : ClassId} {vs : List Value} {h : Heap} (A : Arv Z h b kb .byte 4 vs (.int 0)) (X : Exa Z h b "[B") {x : Addr} (E : Exa Z h x "java/lang/String") (F1 : Fld Z h x "java/lang/String" "value" "[B" .null) (F2 : Fld Z h x "java/lang/String" "coder" "B" (.int 0)) :
    Con l Z ELc n0 (⟨"java/lang/String", "<init>", "([BIII)V"⟩ : MethodName) kb21 7 (Option.none : Option FieldType) [] (⟨2, 1, 4, 29⟩ : Room) #[.ref x, .ref b, .int 0, .int 0, .int 4] h [x] (fun v h' sf' => v = none ∧ sf' = [] ∧ Keep h h' [x] ∧ Exa Z h' x "java/lang/String" ∧ Fld Z h' x "java/lang/String" "coder" "B" (.int 0) ∧ ∃ d kd, Fld Z h' x "java/lang/String" "value" "[B" (.ref d) ∧ Arv Z h' d kd .byte 4 vs (.int 0)) := by
  refine con_ofA hB (ls := #[.val (.ref x), .val (.ref b), .val (.int 0), .val (.int 0), .val (.int 4), .unset, .unset]) (fun m => by simp [entryFrame, mkF, argsToLocals, Value.category]) ?_
  show Go _ _ _ _ _ _ "java/lang/String" kb21 7 _ "<init>" _ h [x] 0 0 0 #[vr x, vr b, vi 0, vi 0, vi 4, .unset, .unset] []
  obtain ⟨cz, hS, hcz⟩ := hB.2.2.1
  refine go_aloadN d21_0 rfl rfl rfl ?_
  refine go_initO d21_1 rfl (wd hB 14 rfl) (wd hB 15 rfl) (wd hB 16 rfl) rfl (by decide) 0 rfl (by decide) ?_
  refine go_iloadN d21_4 rfl rfl ?_
  refine go_iload d21_5 rfl rfl ?_
  refine go_aloadN d21_7 rfl rfl rfl ?_
  refine go_alen d21_8 rfl A ?_
  refine go_static [(.int 0), (.int 4), (.int 4)] [] 0 d21_9 rfl (wd hB 138 rfl) (wd hB 139 rfl) (wd hB 6 rfl) (wd hB 140 rfl) (c_cbo_4 hB) (fun _ q => nomatch q) (lenOf pd_15 rfl) rfl rfl rfl (fun v101 h102 s103 q104 => ?_)
  obtain ⟨rfl, rfl, rfl⟩ := q104
  show Go _ _ _ _ _ _ _ _ _ _ _ _ h [x] 0 0 12 _ [(.int 0)]
  refine go_pop d21_12 rfl rfl ?_
  refine go_iload d21_13 rfl rfl ?_
  refine go_if_ne_t (pt := 37) d21_15 (by decide) ?_
  refine go_getstatic d21_37 rfl (wd hB 52 rfl) Via.refl hS ?_
  refine go_if_eq_f d21_40 rfl hcz ?_
  refine go_iloadN d21_43 rfl rfl ?_
  refine go_i2b d21_44 rfl (go_eq (y := 0) (by decide) ?_)
  refine go_if_ne_f d21_45 rfl (by decide) ?_
  refine go_aloadN d21_48 rfl rfl rfl ?_
  refine go_aloadN d21_49 rfl rfl rfl ?_
  refine go_iloadN d21_50 rfl rfl ?_
  refine go_iloadN d21_51 rfl rfl ?_
  refine go_iload d21_52 rfl rfl ?_
  refine go_iadd d21_54 rfl (go_eq (y := 4) (by decide) ?_)
  refine go_static [(.ref b), (.int 0), (.int 4)] [(.ref x)] 1 d21_55 rfl (wd hB 180 rfl) (wd hB 181 rfl) (wd hB 182 rfl) (wd hB 183 rfl) (c_cor_4 hB A X) (fun _ q => nomatch q) (lenOf pd_16 rfl) rfl rfl rfl (fun v105 h106 s107 q108 => ?_)
  obtain ⟨x109, rfl, rfl, E110, g111, X112, A113⟩ := q108
  show Go _ _ _ _ _ _ _ _ _ _ _ _ h106 [x109, x] 1 4 58 _ [(.ref x109), (.ref x)]
  have F114 := (Fld.ext E110 F1)
  have F115 := (Exa.ext E110 E)
  refine go_putfield (ty := (.array .byte)) d21_58 rfl (wd hB 23 rfl) Via.refl F114 F115 (Or.inr ⟨(wd hB 19 rfl), rfl, rfl⟩) (wd hB 5 rfl) (by decide) rfl rfl (List.Mem.tail _ (List.Mem.head _)) ?_
  intro h116 W117
  have F118 := Fld.same W117 F114
  refine go_aloadN d21_61 rfl rfl rfl ?_
  refine go_iconst 0 d21_62 rfl ?_
  have F119 := (Fld.other W117 (Fld.ext E110 F2) (Or.inr (slot_ne (t := .byte) (t' := (.array .byte)) (Or.inr (wd hB 20 rfl) : Laid Z a0 "java/lang/String" "java/lang/String" "coder" "B") (Or.inr (wd hB 19 rfl) : Laid Z a0 "java/lang/String" "java/lang/String" "value" "[B") (by decide) (by decide) (by decide))))
  have F120 := (Exa.wr W117 F115)
  refine go_putfield (ty := .byte) d21_63 rfl (wd hB 24 rfl) Via.refl F119 F120 (Or.inr ⟨(wd hB 20 rfl), rfl, rfl⟩) (wd hB 5 rfl) (by decide) (by decide) (by decide) (List.Mem.tail _ (List.Mem.head _)) ?_
  intro h121 W122
  have F123 := Fld.same W122 F119
  refine go_goto (pt := 127) d21_66 ?_
  have F124 := (Exa.wr W122 F120)
  have F125 := (Fld.other W122 F118 (Or.inr (slot_ne (t := (.array .byte)) (t' := .byte) (Or.inr (wd hB 19 rfl) : Laid Z a0 "java/lang/String" "java/lang/String" "value" "[B") (Or.inr (wd hB 20 rfl) : Laid Z a0 "java/lang/String" "java/lang/String" "coder" "B") (by decide) (by decide) (by decide))))
  have F126 := (Arv.other (Arv.other A113 W117 (Ne.symm (Nat.ne_of_lt (Nat.lt_of_lt_of_le E.lt g111)))) W122 (Ne.symm (Nat.ne_of_lt (Nat.lt_of_lt_of_le E.lt g111))))
  refine go_ret d21_127 [] rfl (by decide) (by decide) (fun _ q => nomatch q) ?_
  exact ⟨rfl, rfl, ((((Keep.refl h [x]).ext E110).wr W117 (Or.inl (List.Mem.head _))).wr W122 (Or.inl (List.Mem.head _))), F124, F123, _, _, F125, F126⟩
set_option maxRecDepth 65536 in
set_option maxHeartbeats 4000000 in
theorem c_cfs_8 (hB : Base Z a0) {fv : Value} (hfv : fv.isRef = true) {h : Heap} :
    Con l Z ELc n0 (⟨"jdk/internal/util/Preconditions", "checkFromIndexSize", "(IIILjava/util/function/BiFunction;)I"⟩ : MethodName) kb23 4 (Option.some FieldType.int) [] (⟨0, 0, 0, 0⟩ : Room) #[.int 0, .int 8, .int 8, fv] h [] (fun v h' sf' => v = some (.int 0) ∧ sf' = [] ∧ h = h') := by
  refine con_of (a0 := a0) (ls := #[.val (.int 0), .val (.int 8), .val (.int 8), .val fv]) (plainFor_of_name (by decide +kernel)) hB.2.1 (fun m => by rcases ref_cases hfv with e | ⟨_, e⟩ <;> rw [e] <;> first | (simp [entryFrame, mkF, argsToLocals, Value.category]; done) | rfl) ?_
  show Go _ _ _ _ _ _ "jdk/internal/util/Preconditions" kb23 4 _ "checkFromIndexSize" _ h [] 0 0 0 #[vi 0, vi 8, vi 8, .val fv] []
  refine go_iloadN d23_0 rfl rfl ?_
  refine go_iloadN d23_1 rfl rfl ?_
  refine go_ior d23_2 rfl (go_eq (y := 8) (by decide) ?_)
  refine go_iloadN d23_3 rfl rfl ?_
  refine go_ior d23_4 rfl (go_eq (y := 8) (by decide) ?_)
  refine go_if_lt_f d23_5 rfl (by decide) ?_
  refine go_iloadN d23_8 rfl rfl ?_
  refine go_iloadN d23_9 rfl rfl ?_
  refine go_iloadN d23_10 rfl rfl ?_
  refine go_isub d23_11 rfl (go_eq (y := 8) (by decide) ?_)
  refine go_icmp_le_t (pt := 23) d23_12 (by decide) ?_
  refine go_iloadN d23_23 rfl rfl ?_
  refine go_retI d23_24 [] rfl (by decide) (by decide) (fun _ q => nomatch q) ?_
  exact ⟨rfl, rfl, rfl⟩
set_option maxRecDepth 65536 in
set_option maxHeartbeats 4000000 in
theorem c_cbo_8 (hB : Base Z a0) {h : Heap} :
    Con l Z ELc n0 (⟨"java/lang/String", "checkBoundsOffCount", "(III)I"⟩ : MethodName) kb22 3 (Option.some FieldType.int) [] (⟨1, 0, 0, 15⟩ : Room) #[.int 0, .int 8, .int 8] h [] (fun v h' sf' => v = some (.int 0) ∧ sf' = [] ∧ h = h') := by
  refine con_ofA hB (ls := #[.val (.int 0), .val (.int 8), .val (.int 8)]) (fun m => by simp [entryFrame, mkF, argsToLocals, Value.category]) ?_
  show Go _ _ _ _ _ _ "java/lang/String" kb22 3 _ "checkBoundsOffCount" _ h [] 0 0 0 #[vi 0, vi 8, vi 8] []
  obtain ⟨fv, hFv, hfv⟩ := hB.2.2.2.1
  refine go_iloadN d22_0 rfl rfl ?_
  refine go_iloadN d22_1 rfl rfl ?_
  refine go_iloadN d22_2 rfl rfl ?_
  refine go_getstatic d22_3 rfl (wd hB 141 rfl) Via.refl hFv ?_
  refine go_static [(.int 0), (.int 8), (.int 8), fv] [] 0 d22_6 rfl (wd hB 143 rfl) (wd hB 144 rfl) (wd hB 142 rfl) (wd hB 145 rfl) (c_cfs_8 hB hfv) (fun _ q => nomatch q) (lenOf pd_14 rfl) rfl rfl rfl (fun v101 h102 s103 q104 => ?_)
  obtain ⟨rfl, rfl, rfl⟩ := q104
  show Go _ _ _ _ _ _ _ _ _ _ _ _ h [] 0 0 9 _ [(.int 0)]
  refine go_retI d22_9 [] rfl (by decide) (by decide) (fun _ q => nomatch q) ?_
  exact ⟨rfl, rfl, rfl⟩
set_option maxRecDepth 65536 in
set_option maxHeartbeats 4000000 in
theorem c_cor_8 (hB : Base Z a0) {b : Addr} {kb : ClassId} {vs : List Value} {h : Heap} (A : Arv Z h b kb .byte 8 vs (.int 0)) (X : Exa Z h b "[B") :
    Con l Z ELc n0 (⟨"java/util/Arrays", "copyOfRange", "([BII)[B"⟩ : MethodName) kb32 3 (Option.some (FieldType.array FieldType.byte)) [] (⟨1, 1, 8, 14⟩ : Room) #[.ref b, .int 0, .int 8] h [] (fun v h' sf' => ∃ x, v = some (.ref x) ∧ sf' = [x] ∧ Ext h h' ∧ h.size ≤ x ∧ Exa Z h' x "[B" ∧ Arv Z h' x kb .byte 8 vs (.int 0)) := by
  refine con_ofA hB (ls := #[.val (.ref b), .val (.int 0), .val (.int 8)]) (fun m => by simp [entryFrame, mkF, argsToLocals, Value.category]) ?_
  show Go _ _ _ _ _ _ "java/util/Arrays" kb32 3 _ "copyOfRange" _ h [] 0 0 0 #[vr b, vi 0, vi 8] []
  refine go_iloadN d32_0 rfl rfl ?_
  refine go_if_ne_f d32_1 rfl (by decide) ?_
  refine go_iloadN d32_4 rfl rfl ?_
  refine go_aloadN d32_5 rfl rfl rfl ?_
  refine go_alen d32_6 rfl A ?_
  refine go_icmp_eq_t (pt := 17) d32_7 (by decide) ?_
  refine go_aloadN d32_17 rfl rfl rfl ?_
  refine go_clone (ad := "[B") 8 0 d32_18 rfl (wd hB 184 rfl) (wd hB 66 rfl) (wd hB 70 rfl) (wd hB 68 rfl) (wd hB 69 rfl) (wd hB 71 rfl) A X (by decide) rfl rfl (by decide) (by decide) (by decide) (by decide) ?_
  intro h103 x101 hx102 E104 ⟨A105, B106⟩
  refine go_checkcast d32_21 rfl (wd hB 185 rfl) (Ins.self A105) ?_
  refine go_retA d32_24 [x101] rfl rfl rfl rfl (by decide) (by decide) (allS (List.Mem.head _) (fun _ q => nomatch q)) ?_
  exact ⟨_, rfl, rfl, (ext_of_keep ((Keep.refl h []).ext E104)), (Nat.le_of_eq hx102.symm), A105, B106⟩
set_option maxRecDepth 65536 in
set_option maxHeartbeats 4000000 in
theorem c_s3_8 (hB : Base Z a0) {b : Addr} {kb : ClassId} {vs : List Value} {h : Heap} (A : Arv Z h b kb .byte 8 vs (.int 0)) (X : Exa Z h b "[B") {x : Addr} (E : Exa Z h x "java/lang/String") (F1 : Fld Z h x "java/lang/String" "value" "[B" .null) (F2 : Fld Z h x "java/lang/String" "coder" "B" (.int 0)) :
    Con l Z ELc n0 (⟨"java/lang/String", "<init>", "([BIII)V"⟩ : MethodName) kb21 7 (Option.none : Option FieldType) [] (⟨2, 1, 8, 29⟩ : Room) #[.ref x, .ref b, .int 0, .int 0, .int 8] h [x] (fun v h' sf' => v = none ∧ sf' = [] ∧ Keep h h' [x] ∧ Exa Z h' x "java/lang/String" ∧ Fld Z h' x "java/lang/String" "coder" "B" (.int 0) ∧ ∃ d kd, Fld Z h' x "java/lang/String" "value" "[B" (.ref d) ∧ Arv Z h' d kd .byte 8 vs (.int 0)) := by
  refine con_ofA hB (ls := #[.val (.ref x), .val (.ref b), .val (.int 0), .val (.int 0), .val (.int 8), .unset, .unset]) (fun m => by simp [entryFrame, mkF, argsToLocals, Value.category]) ?_
  show Go _ _ _ _ _ _ "java/lang/String" kb21 7 _ "<init>" _ h [x] 0 0 0 #[vr x, vr b, vi 0, vi 0, vi 8, .unset, .unset] []
  obtain ⟨cz, hS, hcz⟩ := hB.2.2.1
  refine go_aloadN d21_0 rfl rfl rfl ?_
  refine go_initO d21_1 rfl (wd hB 14 rfl) (wd hB 15 rfl) (wd hB 16 rfl) rfl (by decide) 0 rfl (by decide) ?_
  refine go_iloadN d21_4 rfl rfl ?_
  refine go_iload d21_5 rfl rfl ?_
  refine go_aloadN d21_7 rfl rfl rfl ?_
  refine go_alen d21_8 rfl A ?_
  refine go_static [(.int 0), (.int 8), (.int 8)] [] 0 d21_9 rfl (wd hB 138 rfl) (wd hB 139 rfl) (wd hB 6 rfl) (wd hB 140 rfl) (c_cbo_8 hB) (fun _ q => nomatch q) (lenOf pd_15 rfl) rfl rfl rfl (fun v101 h102 s103 q104 => ?_)
  obtain ⟨rfl, rfl, rfl⟩ := q104
  show Go _ _ _ _ _ _ _ _ _ _ _ _ h [x] 0 0 12 _ [(.int 0)]
  refine go_pop d21_12 rfl rfl ?_
  refine go_iload d21_13 rfl rfl ?_
  refine go_if_ne_t (pt := 37) d21_15 (by decide) ?_
  refine go_getstatic d21_37 rfl (wd hB 52 rfl) Via.refl hS ?_
  refine go_if_eq_f d21_40 rfl hcz ?_
  refine go_iloadN d21_43 rfl rfl ?_
  refine go_i2b d21_44 rfl (go_eq (y := 0) (by decide) ?_)
  refine go_if_ne_f d21_45 rfl (by decide) ?_
  refine go_aloadN d21_48 rfl rfl rfl ?_
  refine go_aloadN d21_49 rfl rfl rfl ?_
  refine go_iloadN d21_50 rfl rfl ?_
  refine go_iloadN d21_51 rfl rfl ?_
  refine go_iload d21_52 rfl rfl ?_
  refine go_iadd d21_54 rfl (go_eq (y := 8) (by decide) ?_)
  refine go_static [(.ref b), (.int 0), (.int 8)] [(.ref x)] 1 d21_55 rfl (wd hB 180 rfl) (wd hB 181 rfl) (wd hB 182 rfl) (wd hB 183 rfl) (c_cor_8 hB A X) (fun _ q => nomatch q) (lenOf pd_16 rfl) rfl rfl rfl (fun v105 h106 s107 q108 => ?_)
  obtain ⟨x109, rfl, rfl, E110, g111, X112, A113⟩ := q108
  show Go _ _ _ _ _ _ _ _ _ _ _ _ h106 [x109, x] 1 8 58 _ [(.ref x109), (.ref x)]
  have F114 := (Fld.ext E110 F1)
  have F115 := (Exa.ext E110 E)
  refine go_putfield (ty := (.array .byte)) d21_58 rfl (wd hB 23 rfl) Via.refl F114 F115 (Or.inr ⟨(wd hB 19 rfl), rfl, rfl⟩) (wd hB 5 rfl) (by decide) rfl rfl (List.Mem.tail _ (List.Mem.head _)) ?_
  intro h116 W117
  have F118 := Fld.same W117 F114
  refine go_aloadN d21_61 rfl rfl rfl ?_
  refine go_iconst 0 d21_62 rfl ?_
  have F119 := (Fld.other W117 (Fld.ext E110 F2) (Or.inr (slot_ne (t := .byte) (t' := (.array .byte)) (Or.inr (wd hB 20 rfl) : Laid Z a0 "java/lang/String" "java/lang/String" "coder" "B") (Or.inr (wd hB 19 rfl) : Laid Z a0 "java/lang/String" "java/lang/String" "value" "[B") (by decide) (by decide) (by decide))))
  have F120 := (Exa.wr W117 F115)
  refine go_putfield (ty := .byte) d21_63 rfl (wd hB 24 rfl) Via.refl F119 F120 (Or.inr ⟨(wd hB 20 rfl), rfl, rfl⟩) (wd hB 5 rfl) (by decide) (by decide) (by decide) (List.Mem.tail _ (List.Mem.head _)) ?_
  intro h121 W122
  have F123 := Fld.same W122 F119
  refine go_goto (pt := 127) d21_66 ?_
  have F124 := (Exa.wr W122 F120)
  have F125 := (Fld.other W122 F118 (Or.inr (slot_ne (t := (.array .byte)) (t' := .byte) (Or.inr (wd hB 19 rfl) : Laid Z a0 "java/lang/String" "java/lang/String" "value" "[B") (Or.inr (wd hB 20 rfl) : Laid Z a0 "java/lang/String" "java/lang/String" "coder" "B") (by decide) (by decide) (by decide))))
  have F126 := (Arv.other (Arv.other A113 W117 (Ne.symm (Nat.ne_of_lt (Nat.lt_of_lt_of_le E.lt g111)))) W122 (Ne.symm (Nat.ne_of_lt (Nat.lt_of_lt_of_le E.lt g111))))
  refine go_ret d21_127 [] rfl (by decide) (by decide) (fun _ q => nomatch q) ?_
  exact ⟨rfl, rfl, ((((Keep.refl h [x]).ext E110).wr W117 (Or.inl (List.Mem.head _))).wr W122 (Or.inl (List.Mem.head _))), F124, F123, _, _, F125, F126⟩
set_option maxRecDepth 65536 in
set_option maxHeartbeats 4000000 in
theorem c_cfs_0 (hB : Base Z a0) {fv : Value} (hfv : fv.isRef = true) {h : Heap} :
    Con l Z ELc n0 (⟨"jdk/internal/util/Preconditions", "checkFromIndexSize", "(IIILjava/util/function/BiFunction;)I"⟩ : MethodName) kb23 4 (Option.some FieldType.int) [] (⟨0, 0, 0, 0⟩ : Room) #[.int 0, .int 0, .int 0, fv] h [] (fun v h' sf' => v = some (.int 0) ∧ sf' = [] ∧ h = h') := by
  refine con_of (a0 := a0) (ls := #[.val (.int 0), .val (.int 0), .val (.int 0), .val fv]) (plainFor_of_name (by decide +kernel)) hB.2.1 (fun m => by rcases ref_cases hfv with e | ⟨_, e⟩ <;> rw [e] <;> first | (simp [entryFrame, mkF, argsToLocals, Value.category]; done) | rfl) ?_
  show Go _ _ _ _ _ _ "jdk/internal/util/Preconditions" kb23 4 _ "checkFromIndexSize" _ h [] 0 0 0 #[vi 0, vi 0, vi 0, .val fv] []
  refine go_iloadN d23_0 rfl rfl ?_
  refine go_iloadN d23_1 rfl rfl ?_
  refine go_ior d23_2 rfl (go_eq (y := 0) (by decide) ?_)
  refine go_iloadN d23_3 rfl rfl ?_
  refine go_ior d23_4 rfl (go_eq (y := 0) (by decide) ?_)
  refine go_if_lt_f d23_5 rfl (by decide) ?_
  refine go_iloadN d23_8 rfl rfl ?_
  refine go_iloadN d23_9 rfl rfl ?_
  refine go_iloadN d23_10 rfl rfl ?_
  refine go_isub d23_11 rfl (go_eq (y := 0) (by decide) ?_)
  refine go_icmp_le_t (pt := 23) d23_12 (by decide) ?_
  refine go_iloadN d23_23 rfl rfl ?_
  refine go_retI d23_24 [] rfl (by decide) (by decide) (fun _ q => nomatch q) ?_
  exact ⟨rfl, rfl, rfl⟩
set_option maxRecDepth 65536 in
set_option maxHeartbeats 4000000 in
theorem c_cbo_0 (hB : Base Z a0) {h : Heap} :
    Con l Z ELc n0 (⟨"java/lang/String", "checkBoundsOffCount", "(III)I"⟩ : MethodName) kb22 3 (Option.some FieldType.int) [] (⟨1, 0, 0, 15⟩ : Room) #[.int 0, .int 0, .int 0] h [] (fun v h' sf' => v = some (.int 0) ∧ sf' = [] ∧ h = h') := by
  refine con_ofA hB (ls := #[.val (.int 0), .val (.int 0), .val (.int 0)]) (fun m => by simp [entryFrame, mkF, argsToLocals, Value.category]) ?_
  show Go _ _ _ _ _ _ "java/lang/String" kb22 3 _ "checkBoundsOffCount" _ h [] 0 0 0 #[vi 0, vi 0, vi 0] []
  obtain ⟨fv, hFv, hfv⟩ := hB.2.2.2.1
  refine go_iloadN d22_0 rfl rfl ?_
  refine go_iloadN d22_1 rfl rfl ?_
  refine go_iloadN d22_2 rfl rfl ?_
  refine go_getstatic d22_3 rfl (wd hB 141 rfl) Via.refl hFv ?_
  refine go_static [(.int 0), (.int 0), (.int 0), fv] [] 0 d22_6 rfl (wd hB 143 rfl) (wd hB 144 rfl) (wd hB 142 rfl) (wd hB 145 rfl) (c_cfs_0 hB hfv) (fun _ q => nomatch q) (lenOf pd_14 rfl) rfl rfl rfl (fun v101 h102 s103 q104 => ?_)
  obtain ⟨rfl, rfl, rfl⟩ := q104
  show Go _ _ _ _ _ _ _ _ _ _ _ _ h [] 0 0 9 _ [(.int 0)]
  refine go_retI d22_9 [] rfl (by decide) (by decide) (fun _ q => nomatch q) ?_
  exact ⟨rfl, rfl, rfl⟩
set_option maxRecDepth 65536 in
set_option maxHeartbeats 4000000 in
theorem c_s3_0 (hB : Base Z a0) {b : Addr} {kb : ClassId} {vs : List Value} {h : Heap} (A : Arv Z h b kb .byte 0 vs (.int 0)) (X : Exa Z h b "[B") {x : Addr} (E : Exa Z h x "java/lang/String") (F1 : Fld Z h x "java/lang/String" "value" "[B" .null) (F2 : Fld Z h x "java/lang/String" "coder" "B" (.int 0)) :
    Con l Z ELc n0 (⟨"java/lang/String", "<init>", "([BIII)V"⟩ : MethodName) kb21 7 (Option.none : Option FieldType) [] (⟨2, 4, 8, 29⟩ : Room) #[.ref x, .ref b, .int 0, .int 0, .int 0] h [x] (fun v h' sf' => v = none ∧ sf' = [] ∧ Keep h h' [x] ∧ Exa Z h' x "java/lang/String" ∧ Fld Z h' x "java/lang/String" "coder" "B" (.int 0) ∧ ∃ d kd, Fld Z h' x "java/lang/String" "value" "[B" (.ref d) ∧ Arv Z h' d kd .byte 0 [] (.int 0)) := by
  refine con_ofA hB (ls := #[.val (.ref x), .val (.ref b), .val (.int 0), .val (.int 0), .val (.int 0), .unset, .unset]) (fun m => by simp [entryFrame, mkF, argsToLocals, Value.category]) ?_
  show Go _ _ _ _ _ _ "java/lang/String" kb21 7 _ "<init>" _ h [x] 0 0 0 #[vr x, vr b, vi 0, vi 0, vi 0, .unset, .unset] []
  obtain ⟨cz, hS, hcz⟩ := hB.2.2.1
  refine go_aloadN d21_0 rfl rfl rfl ?_
  refine go_initO d21_1 rfl (wd hB 14 rfl) (wd hB 15 rfl) (wd hB 16 rfl) rfl (by decide) 0 rfl (by decide) ?_
  refine go_iloadN d21_4 rfl rfl ?_
  refine go_iload d21_5 rfl rfl ?_
  refine go_aloadN d21_7 rfl rfl rfl ?_
  refine go_alen d21_8 rfl A ?_
  refine go_static [(.int 0), (.int 0), (.int 0)] [] 0 d21_9 rfl (wd hB 138 rfl) (wd hB 139 rfl) (wd hB 6 rfl) (wd hB 140 rfl) (c_cbo_0 hB) (fun _ q => nomatch q) (lenOf pd_15 rfl) rfl rfl rfl (fun v101 h102 s103 q104 => ?_)
  obtain ⟨rfl, rfl, rfl⟩ := q104
  show Go _ _ _ _ _ _ _ _ _ _ _ _ h [x] 0 0 12 _ [(.int 0)]
  refine go_pop d21_12 rfl rfl ?_
  refine go_iload d21_13 rfl rfl ?_
  refine go_if_ne_f d21_15 rfl (by decide) ?_
  refine go_aloadN d21_18 rfl rfl rfl ?_
  refine go_ldcT (text := "") 0 0 [] d21_19 rfl (wd hB 17 rfl) (stA hB) (by decide) ⟨by decide, by decide⟩ (by decide) (by decide) (by decide) (by decide) (by decide) (by decide) ?_
  intro h105 a106 b108 k109 E107 F110 F111 F112 F113 F114
  refine go_getfield d21_21 rfl (wd hB 23 rfl) Via.refl F112 ?_
  have F116 := (Fld.ext E107 F1)
  have F117 := (Exa.ext E107 E)
  refine go_putfield (ty := (.array .byte)) d21_24 rfl (wd hB 23 rfl) Via.refl F116 F117 (Or.inr ⟨(wd hB 19 rfl), rfl, rfl⟩) (wd hB 5 rfl) (by decide) rfl rfl (List.Mem.head _) ?_
  intro h118 W119
  have F120 := Fld.same W119 F116
  refine go_aloadN d21_27 rfl rfl rfl ?_
  refine go_ldcT (text := "") 0 0 [] d21_28 rfl (wd hB 17 rfl) (stA hB) (by decide) ⟨by decide, by decide⟩ (by decide) (by decide) (by decide) (by decide) (by decide) (by decide) ?_
  intro h121 a122 b124 k125 E123 F126 F127 F128 F129 F130
  refine go_getfield d21_30 rfl (wd hB 24 rfl) Via.refl F127 ?_
  have F132 := (Fld.ext E123 (Fld.other W119 (Fld.ext E107 F2) (Or.inr (slot_ne (t := .byte) (t' := (.array .byte)) (Or.inr (wd hB 20 rfl) : Laid Z a0 "java/lang/String" "java/lang/String" "coder" "B") (Or.inr (wd hB 19 rfl) : Laid Z a0 "java/lang/String" "java/lang/String" "value" "[B") (by decide) (by decide) (by decide)))))
  have F133 := (Exa.ext E123 (Exa.wr W119 F117))
  refine go_putfield (ty := .byte) d21_33 rfl (wd hB 24 rfl) Via.refl F132 F133 (Or.inr ⟨(wd hB 20 rfl), rfl, rfl⟩) (wd hB 5 rfl) (by decide) (by decide) (by decide) (List.Mem.head _) ?_
  intro h134 W135
  have F136 := Fld.same W135 F132
  have F137 := (Exa.wr W135 F133)
  have F138 := (Fld.other W135 (Fld.ext E123 F120) (Or.inr (slot_ne (t := (.array .byte)) (t' := .byte) (Or.inr (wd hB 19 rfl) : Laid Z a0 "java/lang/String" "java/lang/String" "value" "[B") (Or.inr (wd hB 20 rfl) : Laid Z a0 "java/lang/String" "java/lang/String" "coder" "B") (by decide) (by decide) (by decide))))
  have F139 := (Arv.other ((Arv.other F113 W119 (Ne.symm (F114 x (List.Mem.head _)).2)).ext E123) W135 (Ne.symm (F114 x (List.Mem.head _)).2))
  refine go_ret d21_36 [] rfl (by decide) (by decide) (fun _ q => nomatch q) ?_
  exact ⟨rfl, rfl, (((((Keep.refl h [x]).ext E107).wr W119 (Or.inl (List.Mem.head _))).ext E123).wr W135 (Or.inl (List.Mem.head _))), F137, F136, _, _, F138, F139⟩
set_option maxRecDepth 65536 in
set_option maxHeartbeats 4000000 in
theorem c_leq_0 (hB : Base Z a0) {d1 d2 : Addr} {k1 k2 : ClassId} {h : Heap} (A1 : Arv Z h d1 k1 .byte 0 [] (.int 0)) (A2 : Arv Z h d2 k2 .byte 0 [] (.int 0)) :
    Con l Z ELc n0 (⟨"java/lang/StringLatin1", "equals", "([B[B)Z"⟩ : MethodName) kb25 3 (Option.some FieldType.boolean) [] (⟨0, 0, 0, 0⟩ : Room) #[.ref d1, .ref d2] h [] (fun v h' sf' => v = some (.int 1) ∧ sf' = [] ∧ h = h') := by
  refine con_ofA hB (ls := #[.val (.ref d1), .val (.ref d2), .unset]) (fun m => by simp [entryFrame, mkF, argsToLocals, Value.category]) ?_
  show Go _ _ _ _ _ _ "java/lang/StringLatin1" kb25 3 _ "equals" _ h [] 0 0 0 #[vr d1, vr d2, .unset] []
  refine go_aloadN d25_0 rfl rfl rfl ?_
  refine go_alen d25_1 rfl A1 ?_
  refine go_aloadN d25_2 rfl rfl rfl ?_
  refine go_alen d25_3 rfl A2 ?_
  refine go_icmp_ne_f d25_4 rfl (by decide) ?_
  refine go_iconst 0 d25_7 rfl ?_
  refine go_istoreN d25_8 rfl #[vr d1, vr d2, vi 0] rfl ?_
  refine go_iloadN d25_9 rfl rfl ?_
  refine go_aloadN d25_10 rfl rfl rfl ?_
  refine go_alen d25_11 rfl A1 ?_
  refine go_icmp_ge_t (pt := 32) d25_12 (by decide) ?_
  refine go_iconst 1 d25_32 rfl ?_
  refine go_retN (t := .boolean) d25_33 [] rfl (by simp) (by decide) (by decide) (fun _ q => nomatch q) ?_
  exact ⟨by decide, rfl, rfl⟩
set_option maxRecDepth 65536 in
set_option maxHeartbeats 4000000 in
theorem c_seq_0 (hB : Base Z a0) {s1 d1 s2 d2 : Addr} {k1 k2 : ClassId} (hne : s1 ≠ s2) {h : Heap} (E1 : Exa Z h s1 "java/lang/String") (C1 : Fld Z h s1 "java/lang/String" "coder" "B" (.int 0)) (V1 : Fld Z h s1 "java/lang/String" "value" "[B" (.ref d1)) (A1 : Arv Z h d1 k1 .byte 0 [] (.int 0)) (E2 : Exa Z h s2 "java/lang/String") (C2 : Fld Z h s2 "java/lang/String" "coder" "B" (.int 0)) (V2 : Fld Z h s2 "java/lang/String" "value" "[B" (.ref d2)) (A2 : Arv Z h d2 k2 .byte 0 [] (.int 0)) :
    Con l Z ELc n0 (⟨"java/lang/String", "equals", "(Ljava/lang/Object;)Z"⟩ : MethodName) kb24 3 (Option.some FieldType.boolean) [] (⟨1, 0, 0, 14⟩ : Room) #[.ref s1, .ref s2] h [] (fun v h' sf' => v = some (.int 1) ∧ sf' = [] ∧ h = h') := by
  refine con_ofA hB (ls := #[.val (.ref s1), .val (.ref s2), .unset]) (fun m => by simp [entryFrame, mkF, argsToLocals, Value.category]) ?_
  show Go _ _ _ _ _ _ "java/lang/String" kb24 3 _ "equals" _ h [] 0 0 0 #[vr s1, vr s2, .unset] []
  obtain ⟨cz, hS, hcz⟩ := hB.2.2.1
  refine go_aloadN d24_0 rfl rfl rfl ?_
  refine go_aloadN d24_1 rfl rfl rfl ?_
  refine go_acmp (pt := 7) false d24_2 rfl rfl (decide_eq_false (fun q => hne (Value.ref.inj q))) (by decide) (by decide) ?_
  refine go_aloadN d24_7 rfl rfl rfl ?_
  refine go_instY d24_8 rfl (wd hB 151 rfl) (Ins.self E2) ?_
  refine go_if_eq_f d24_11 rfl (by decide) ?_
  refine go_aloadN d24_14 rfl rfl rfl ?_
  refine go_checkcast d24_15 rfl (wd hB 151 rfl) (Ins.self E2) ?_
  refine go_astoreN d24_18 rfl #[vr s1, vr s2, vr s2] rfl rfl ?_
  refine go_getstatic d24_19 rfl (wd hB 52 rfl) Via.refl hS ?_
  refine go_if_eq_f d24_22 rfl hcz ?_
  refine go_aloadN d24_25 rfl rfl rfl ?_
  refine go_getfield d24_26 rfl (wd hB 24 rfl) Via.refl C1 ?_
  refine go_aloadN d24_29 rfl rfl rfl ?_
  refine go_getfield d24_30 rfl (wd hB 24 rfl) Via.refl C2 ?_
  refine go_icmp_ne_f d24_33 rfl (by decide) ?_
  refine go_aloadN d24_36 rfl rfl rfl ?_
  refine go_getfield d24_37 rfl (wd hB 23 rfl) Via.refl V1 ?_
  refine go_aloadN d24_40 rfl rfl rfl ?_
  refine go_getfield d24_41 rfl (wd hB 23 rfl) Via.refl V2 ?_
  refine go_static [(.ref d1), (.ref d2)] [] 0 d24_44 rfl (wd hB 152 rfl) (wd hB 153 rfl) (wd hB 154 rfl) (wd hB 155 rfl) (c_leq_0 hB A1 A2) (fun _ q => nomatch q) (lenOf pd_17 rfl) rfl rfl rfl (fun v101 h102 s103 q104 => ?_)
  obtain ⟨rfl, rfl, rfl⟩ := q104
  show Go _ _ _ _ _ _ _ _ _ _ _ _ h [] 0 0 47 _ [(.int 1)]
  refine go_if_eq_f d24_47 rfl (by decide) ?_
  refine go_iconst 1 d24_50 rfl ?_
  refine go_goto (pt := 55) d24_51 ?_
  refine go_retN (t := .boolean) d24_55 [] rfl (by simp) (by decide) (by decide) (fun _ q => nomatch q) ?_
  exact ⟨by decide, rfl, rfl⟩
set_option maxRecDepth 65536 in
set_option maxHeartbeats 4000000 in
theorem c_leq_4 (hB : Base Z a0) {v0 v1 v2 v3 : Int32} {d1 d2 : Addr} {k1 k2 : ClassId} {h : Heap} (A1 : Arv Z h d1 k1 .byte 4 [(.int v0), (.int v1), (.int v2), (.int v3)] (.int 0)) (A2 : Arv Z h d2 k2 .byte 4 [(.int v0), (.int v1), (.int v2), (.int v3)] (.int 0)) :
    Con l Z ELc n0 (⟨"java/lang/StringLatin1", "equals", "([B[B)Z"⟩ : MethodName) kb25 3 (Option.some FieldType.boolean) [] (⟨0, 0, 0, 0⟩ : Room) #[.ref d1, .ref d2] h [] (fun v h' sf' => v = some (.int 1) ∧ sf' = [] ∧ h = h') := by
  refine con_ofA hB (ls := #[.val (.ref d1), .val (.ref d2), .unset]) (fun m => by simp [entryFrame, mkF, argsToLocals, Value.category]) ?_
  show Go _ _ _ _ _ _ "java/lang/StringLatin1" kb25 3 _ "equals" _ h [] 0 0 0 #[vr d1, vr d2, .unset] []
  refine go_aloadN d25_0 rfl rfl rfl ?_
  refine go_alen d25_1 rfl A1 ?_
  refine go_aloadN d25_2 rfl rfl rfl ?_
  refine go_alen d25_3 rfl A2 ?_
  refine go_icmp_ne_f d25_4 rfl (by decide) ?_
  refine go_iconst 0 d25_7 rfl ?_
  refine go_istoreN d25_8 rfl #[vr d1, vr d2, vi 0] rfl ?_
  refine go_iloadN d25_9 rfl rfl ?_
  refine go_aloadN d25_10 rfl rfl rfl ?_
  refine go_alen d25_11 rfl A1 ?_
  refine go_icmp_ge_f d25_12 rfl (by decide) ?_
  refine go_aloadN d25_15 rfl rfl rfl ?_
  refine go_iloadN d25_16 rfl rfl ?_
  refine go_baload (v := (.int v0)) 0 d25_17 rfl A1 ⟨by decide, by decide⟩ (by decide) rfl ?_
  refine go_aloadN d25_18 rfl rfl rfl ?_
  refine go_iloadN d25_19 rfl rfl ?_
  refine go_baload (v := (.int v0)) 0 d25_20 rfl A2 ⟨by decide, by decide⟩ (by decide) rfl ?_
  refine go_icmp_eq_t (pt := 26) d25_21 rfl ?_
  refine go_iincV 1 1 d25_26 rfl #[vr d1, vr d2, vi 1] (by decide) rfl (by decide) rfl ?_
  refine go_goto (pt := 9) d25_29 ?_
  refine go_iloadN d25_9 rfl rfl ?_
  refine go_aloadN d25_10 rfl rfl rfl ?_
  refine go_alen d25_11 rfl A1 ?_
  refine go_icmp_ge_f d25_12 rfl (by decide) ?_
  refine go_aloadN d25_15 rfl rfl rfl ?_
  refine go_iloadN d25_16 rfl rfl ?_
  refine go_baload (v := (.int v1)) 1 d25_17 rfl A1 ⟨by decide, by decide⟩ (by decide) rfl ?_
  refine go_aloadN d25_18 rfl rfl rfl ?_
  refine go_iloadN d25_19 rfl rfl ?_
  refine go_baload (v := (.int v1)) 1 d25_20 rfl A2 ⟨by decide, by decide⟩ (by decide) rfl ?_
  refine go_icmp_eq_t (pt := 26) d25_21 rfl ?_
  refine go_iincV 1 2 d25_26 rfl #[vr d1, vr d2, vi 2] (by decide) rfl (by decide) rfl ?_
  refine go_goto (pt := 9) d25_29 ?_
  refine go_iloadN d25_9 rfl rfl ?_
  refine go_aloadN d25_10 rfl rfl rfl ?_
  refine go_alen d25_11 rfl A1 ?_
  refine go_icmp_ge_f d25_12 rfl (by decide) ?_
  refine go_aloadN d25_15 rfl rfl rfl ?_
  refine go_iloadN d25_16 rfl rfl ?_
  refine go_baload (v := (.int v2)) 2 d25_17 rfl A1 ⟨by decide, by decide⟩ (by decide) rfl ?_
  refine go_aloadN d25_18 rfl rfl rfl ?_
  refine go_iloadN d25_19 rfl rfl ?_
  refine go_baload (v := (.int v2)) 2 d25_20 rfl A2 ⟨by decide, by decide⟩ (by decide) rfl ?_
  refine go_icmp_eq_t (pt := 26) d25_21 rfl ?_
  refine go_iincV 1 3 d25_26 rfl #[vr d1, vr d2, vi 3] (by decide) rfl (by decide) rfl ?_
  refine go_goto (pt := 9) d25_29 ?_
  refine go_iloadN d25_9 rfl rfl ?_
  refine go_aloadN d25_10 rfl rfl rfl ?_
  refine go_alen d25_11 rfl A1 ?_
  refine go_icmp_ge_f d25_12 rfl (by decide) ?_
  refine go_aloadN d25_15 rfl rfl rfl ?_
  refine go_iloadN d25_16 rfl rfl ?_
  refine go_baload (v := (.int v3)) 3 d25_17 rfl A1 ⟨by decide, by decide⟩ (by decide) rfl ?_
  refine go_aloadN d25_18 rfl rfl rfl ?_
  refine go_iloadN d25_19 rfl rfl ?_
  refine go_baload (v := (.int v3)) 3 d25_20 rfl A2 ⟨by decide, by decide⟩ (by decide) rfl ?_
  refine go_icmp_eq_t (pt := 26) d25_21 rfl ?_
  refine go_iincV 1 4 d25_26 rfl #[vr d1, vr d2, vi 4] (by decide) rfl (by decide) rfl ?_
  refine go_goto (pt := 9) d25_29 ?_
  refine go_iloadN d25_9 rfl rfl ?_
  refine go_aloadN d25_10 rfl rfl rfl ?_
  refine go_alen d25_11 rfl A1 ?_
  refine go_icmp_ge_t (pt := 32) d25_12 (by decide) ?_
  refine go_iconst 1 d25_32 rfl ?_
  refine go_retN (t := .boolean) d25_33 [] rfl (by simp) (by decide) (by decide) (fun _ q => nomatch q) ?_
  exact ⟨by decide, rfl, rfl⟩
set_option maxRecDepth 65536 in
set_option maxHeartbeats 4000000 in
theorem c_seq_4 (hB : Base Z a0) {v0 v1 v2 v3 : Int32} {s1 d1 s2 d2 : Addr} {k1 k2 : ClassId} (hne : s1 ≠ s2) {h : Heap} (E1 : Exa Z h s1 "java/lang/String") (C1 : Fld Z h s1 "java/lang/String" "coder" "B" (.int 0)) (V1 : Fld Z h s1 "java/lang/String" "value" "[B" (.ref d1)) (A1 : Arv Z h d1 k1 .byte 4 [(.int v0), (.int v1), (.int v2), (.int v3)] (.int 0)) (E2 : Exa Z h s2 "java/lang/String") (C2 : Fld Z h s2 "java/lang/String" "coder" "B" (.int 0)) (V2 : Fld Z h s2 "java/lang/String" "value" "[B" (.ref d2)) (A2 : Arv Z h d2 k2 .byte 4 [(.int v0), (.int v1), (.int v2), (.int v3)] (.int 0)) :
    Con l Z ELc n0 (⟨"java/lang/String", "equals", "(Ljava/lang/Object;)Z"⟩ : MethodName) kb24 3 (Option.some FieldType.boolean) [] (⟨1, 0, 0, 14⟩ : Room) #[.ref s1, .ref s2] h [] (fun v h' sf' => v = some (.int 1) ∧ sf' = [] ∧ h = h') := by
  refine con_ofA hB (ls := #[.val (.ref s1), .val (.ref s2), .unset]) (fun m => by simp [entryFrame, mkF, argsToLocals, Value.category]) ?_
  show Go _ _ _ _ _ _ "java/lang/String" kb24 3 _ "equals" _ h [] 0 0 0 #[vr s1, vr s2, .unset] []
  obtain ⟨cz, hS, hcz⟩ := hB.2.2.1
  refine go_aloadN d24_0 rfl rfl rfl ?_
  refine go_aloadN d24_1 rfl rfl rfl ?_
  refine go_acmp (pt := 7) false d24_2 rfl rfl (decide_eq_false (fun q => hne (Value.ref.inj q))) (by decide) (by decide) ?_
  refine go_aloadN d24_7 rfl rfl rfl ?_
  refine go_instY d24_8 rfl (wd hB 151 rfl) (Ins.self E2) ?_
  refine go_if_eq_f d24_11 rfl (by decide) ?_
  refine go_aloadN d24_14 rfl rfl rfl ?_
  refine go_checkcast d24_15 rfl (wd hB 151 rfl) (Ins.self E2) ?_
  refine go_astoreN d24_18 rfl #[vr s1, vr s2, vr s2] rfl rfl ?_
  refine go_getstatic d24_19 rfl (wd hB 52 rfl) Via.refl hS ?_
  refine go_if_eq_f d24_22 rfl hcz ?_
  refine go_aloadN d24_25 rfl rfl rfl ?_
  refine go_getfield d24_26 rfl (wd hB 24 rfl) Via.refl C1 ?_
  refine go_aloadN d24_29 rfl rfl rfl ?_
  refine go_getfield d24_30 rfl (wd hB 24 rfl) Via.refl C2 ?_
  refine go_icmp_ne_f d24_33 rfl (by decide) ?_
  refine go_aloadN d24_36 rfl rfl rfl ?_
  refine go_getfield d24_37 rfl (wd hB 23 rfl) Via.refl V1 ?_
  refine go_aloadN d24_40 rfl rfl rfl ?_
  refine go_getfield d24_41 rfl (wd hB 23 rfl) Via.refl V2 ?_
  refine go_static [(.ref d1), (.ref d2)] [] 0 d24_44 rfl (wd hB 152 rfl) (wd hB 153 rfl) (wd hB 154 rfl) (wd hB 155 rfl) (c_leq_4 hB A1 A2) (fun _ q => nomatch q) (lenOf pd_17 rfl) rfl rfl rfl (fun v101 h102 s103 q104 => ?_)
  obtain ⟨rfl, rfl, rfl⟩ := q104
  show Go _ _ _ _ _ _ _ _ _ _ _ _ h [] 0 0 47 _ [(.int 1)]
  refine go_if_eq_f d24_47 rfl (by decide) ?_
  refine go_iconst 1 d24_50 rfl ?_
  refine go_goto (pt := 55) d24_51 ?_
  refine go_retN (t := .boolean) d24_55 [] rfl (by simp) (by decide) (by decide) (fun _ q => nomatch q) ?_
  exact ⟨by decide, rfl, rfl⟩
set_option maxRecDepth 65536 in
set_option maxHeartbeats 4000000 in
theorem c_leq_8 (hB : Base Z a0) {v0 v1 v2 v3 v4 v5 v6 v7 : Int32} {d1 d2 : Addr} {k1 k2 : ClassId} {h : Heap} (A1 : Arv Z h d1 k1 .byte 8 [(.int v0), (.int v1), (.int v2), (.int v3), (.int v4), (.int v5), (.int v6), (.int v7)] (.int 0)) (A2 : Arv Z h d2 k2 .byte 8 [(.int v0), (.int v1), (.int v2), (.int v3), (.int v4), (.int v5), (.int v6), (.int v7)] (.int 0)) :
    Con l Z ELc n0 (⟨"java/lang/StringLatin1", "equals", "([B[B)Z"⟩ : MethodName) kb25 3 (Option.some FieldType.boolean) [] (⟨0, 0, 0, 0⟩ : Room) #[.ref d1, .ref d2] h [] (fun v h' sf' => v = some (.int 1) ∧ sf' = [] ∧ h = h') := by
  refine con_ofA hB (ls := #[.val (.ref d1), .val (.ref d2), .unset]) (fun m => by simp [entryFrame, mkF, argsToLocals, Value.category]) ?_
  show Go _ _ _ _ _ _ "java/lang/StringLatin1" kb25 3 _ "equals" _ h [] 0 0 0 #[vr d1, vr d2, .unset] []
  refine go_aloadN d25_0 rfl rfl rfl ?_
  refine go_alen d25_1 rfl A1 ?_
  refine go_aloadN d25_2 rfl rfl rfl ?_
  refine go_alen d25_3 rfl A2 ?_
  refine go_icmp_ne_f d25_4 rfl (by decide) ?_
  refine go_iconst 0 d25_7 rfl ?_
  refine go_istoreN d25_8 rfl #[vr d1, vr d2, vi 0] rfl ?_
  refine go_iloadN d25_9 rfl rfl ?_
  refine go_aloadN d25_10 rfl rfl rfl ?_
  refine go_alen d25_11 rfl A1 ?_
  refine go_icmp_ge_f d25_12 rfl (by decide) ?_
  refine go_aloadN d25_15 rfl rfl rfl ?_
  refine go_iloadN d25_16 rfl rfl ?_
  refine go_baload (v := (.int v0)) 0 d25_17 rfl A1 ⟨by decide, by decide⟩ (by decide) rfl ?_
  refine go_aloadN d25_18 rfl rfl rfl ?_
  refine go_iloadN d25_19 rfl rfl ?_
  refine go_baload (v := (.int v0)) 0 d25_20 rfl A2 ⟨by decide, by decide⟩ (by decide) rfl ?_
  refine go_icmp_eq_t (pt := 26) d25_21 rfl ?_
  refine go_iincV 1 1 d25_26 rfl #[vr d1, vr d2, vi 1] (by decide) rfl (by decide) rfl ?_
  refine go_goto (pt := 9) d25_29 ?_
  refine go_iloadN d25_9 rfl rfl ?_
  refine go_aloadN d25_10 rfl rfl rfl ?_
  refine go_alen d25_11 rfl A1 ?_
  refine go_icmp_ge_f d25_12 rfl (by decide) ?_
  refine go_aloadN d25_15 rfl rfl rfl ?_
  refine go_iloadN d25_16 rfl rfl ?_
  refine go_baload (v := (.int v1)) 1 d25_17 rfl A1 ⟨by decide, by decide⟩ (by decide) rfl ?_
  refine go_aloadN d25_18 rfl rfl rfl ?_
  refine go_iloadN d25_19 rfl rfl ?_
  refine go_baload (v := (.int v1)) 1 d25_20 rfl A2 ⟨by decide, by decide⟩ (by decide) rfl ?_
  refine go_icmp_eq_t (pt := 26) d25_21 rfl ?_
  refine go_iincV 1 2 d25_26 rfl #[vr d1, vr d2, vi 2] (by decide) rfl (by decide) rfl ?_
  refine go_goto (pt := 9) d25_29 ?_
  refine go_iloadN d25_9 rfl rfl ?_
  refine go_aloadN d25_10 rfl rfl rfl ?_
  refine go_alen d25_11 rfl A1 ?_
  refine go_icmp_ge_f d25_12 rfl (by decide) ?_
  refine go_aloadN d25_15 rfl rfl rfl ?_
  refine go_iloadN d25_16 rfl rfl ?_
  refine go_baload (v := (.int v2)) 2 d25_17 rfl A1 ⟨by decide, by decide⟩ (by decide) rfl ?_
  refine go_aloadN d25_18 rfl rfl rfl ?_
  refine go_iloadN d25_19 rfl rfl ?_
  refine go_baload (v := (.int v2)) 2 d25_20 rfl A2 ⟨by decide, by decide⟩ (by decide) rfl ?_
  refine go_icmp_eq_t (pt := 26) d25_21 rfl ?_
  refine go_iincV 1 3 d25_26 rfl #[vr d1, vr d2, vi 3] (by decide) rfl (by decide) rfl ?_
  refine go_goto (pt := 9) d25_29 ?_
  refine go_iloadN d25_9 rfl rfl ?_
  refine go_aloadN d25_10 rfl rfl rfl ?_
  refine go_alen d25_11 rfl A1 ?_
  refine go_icmp_ge_f d25_12 rfl (by decide) ?_
  refine go_aloadN d25_15 rfl rfl rfl ?_
  refine go_iloadN d25_16 rfl rfl ?_
  refine go_baload (v := (.int v3)) 3 d25_17 rfl A1 ⟨by decide, by decide⟩ (by decide) rfl ?_
  refine go_aloadN d25_18 rfl rfl rfl ?_
  refine go_iloadN d25_19 rfl rfl ?_
  refine go_baload (v := (.int v3)) 3 d25_20 rfl A2 ⟨by decide, by decide⟩ (by decide) rfl ?_
  refine go_icmp_eq_t (pt := 26) d25_21 rfl ?_
  refine go_iincV 1 4 d25_26 rfl #[vr d1, vr d2, vi 4] (by decide) rfl (by decide) rfl ?_
  refine go_goto (pt := 9) d25_29 ?_
  refine go_iloadN d25_9 rfl rfl ?_
  refine go_aloadN d25_10 rfl rfl rfl ?_
  refine go_alen d25_11 rfl A1 ?_
  refine go_icmp_ge_f d25_12 rfl (by decide) ?_
  refine go_aloadN d25_15 rfl rfl rfl ?_
  refine go_iloadN d25_16 rfl rfl ?_
  refine go_baload (v := (.int v4)) 4 d25_17 rfl A1 ⟨by decide, by decide⟩ (by decide) rfl ?_
  refine go_aloadN d25_18 rfl rfl rfl ?_
  refine go_iloadN d25_19 rfl rfl ?_
  refine go_baload (v := (.int v4)) 4 d25_20 rfl A2 ⟨by decide, by decide⟩ (by decide) rfl ?_
  refine go_icmp_eq_t (pt := 26) d25_21 rfl ?_
  refine go_iincV 1 5 d25_26 rfl #[vr d1, vr d2, vi 5] (by decide) rfl (by decide) rfl ?_
  refine go_goto (pt := 9) d25_29 ?_
  refine go_iloadN d25_9 rfl rfl ?_
  refine go_aloadN d25_10 rfl rfl rfl ?_
  refine go_alen d25_11 rfl A1 ?_
  refine go_icmp_ge_f d25_12 rfl (by decide) ?_
  refine go_aloadN d25_15 rfl rfl rfl ?_
  refine go_iloadN d25_16 rfl rfl ?_
  refine go_baload (v := (.int v5)) 5 d25_17 rfl A1 ⟨by decide, by decide⟩ (by decide) rfl ?_
  refine go_aloadN d25_18 rfl rfl rfl ?_
  refine go_iloadN d25_19 rfl rfl ?_
  refine go_baload (v := (.int v5)) 5 d25_20 rfl A2 ⟨by decide, by decide⟩ (by decide) rfl ?_
  refine go_icmp_eq_t (pt := 26) d25_21 rfl ?_
  refine go_iincV 1 6 d25_26 rfl #[vr d1, vr d2, vi 6] (by decide) rfl (by decide) rfl ?_
  refine go_goto (pt := 9) d25_29 ?_
  refine go_iloadN d25_9 rfl rfl ?_
  refine go_aloadN d25_10 rfl rfl rfl ?_
  refine go_alen d25_11 rfl A1 ?_
  refine go_icmp_ge_f d25_12 rfl (by decide) ?_
  refine go_aloadN d25_15 rfl rfl rfl ?_
  refine go_iloadN d25_16 rfl rfl ?_
  refine go_baload (v := (.int v6)) 6 d25_17 rfl A1 ⟨by decide, by decide⟩ (by decide) rfl ?_
  refine go_aloadN d25_18 rfl rfl rfl ?_
  refine go_iloadN d25_19 rfl rfl ?_
  refine go_baload (v := (.int v6)) 6 d25_20 rfl A2 ⟨by decide, by decide⟩ (by decide) rfl ?_
  refine go_icmp_eq_t (pt := 26) d25_21 rfl ?_
  refine go_iincV 1 7 d25_26 rfl #[vr d1, vr d2, vi 7] (by decide) rfl (by decide) rfl ?_
  refine go_goto (pt := 9) d25_29 ?_
  refine go_iloadN d25_9 rfl rfl ?_
  refine go_aloadN d25_10 rfl rfl rfl ?_
  refine go_alen d25_11 rfl A1 ?_
  refine go_icmp_ge_f d25_12 rfl (by decide) ?_
  refine go_aloadN d25_15 rfl rfl rfl ?_
  refine go_iloadN d25_16 rfl rfl ?_
  refine go_baload (v := (.int v7)) 7 d25_17 rfl A1 ⟨by decide, by decide⟩ (by decide) rfl ?_
  refine go_aloadN d25_18 rfl rfl rfl ?_
  refine go_iloadN d25_19 rfl rfl ?_
  refine go_baload (v := (.int v7)) 7 d25_20 rfl A2 ⟨by decide, by decide⟩ (by decide) rfl ?_
  refine go_icmp_eq_t (pt := 26) d25_21 rfl ?_
  refine go_iincV 1 8 d25_26 rfl #[vr d1, vr d2, vi 8] (by decide) rfl (by decide) rfl ?_
  refine go_goto (pt := 9) d25_29 ?_
  refine go_iloadN d25_9 rfl rfl ?_
  refine go_aloadN d25_10 rfl rfl rfl ?_
  refine go_alen d25_11 rfl A1 ?_
  refine go_icmp_ge_t (pt := 32) d25_12 (by decide) ?_
  refine go_iconst 1 d25_32 rfl ?_
  refine go_retN (t := .boolean) d25_33 [] rfl (by simp) (by decide) (by decide) (fun _ q => nomatch q) ?_
  exact ⟨by decide, rfl, rfl⟩
set_option maxRecDepth 65536 in
set_option maxHeartbeats 4000000 in
theorem c_seq_8 (hB : Base Z a0) {v0 v1 v2 v3 v4 v5 v6 v7 : Int32} {s1 d1 s2 d2 : Addr} {k1 k2 : ClassId} (hne : s1 ≠ s2) {h : Heap} (E1 : Exa Z h s1 "java/lang/String") (C1 : Fld Z h s1 "java/lang/String" "coder" "B" (.int 0)) (V1 : Fld Z h s1 "java/lang/String" "value" "[B" (.ref d1)) (A1 : Arv Z h d1 k1 .byte 8 [(.int v0), (.int v1), (.int v2), (.int v3), (.int v4), (.int v5), (.int v6), (.int v7)] (.int 0)) (E2 : Exa Z h s2 "java/lang/String") (C2 : Fld Z h s2 "java/lang/String" "coder" "B" (.int 0)) (V2 : Fld Z h s2 "java/lang/String" "value" "[B" (.ref d2)) (A2 : Arv Z h d2 k2 .byte 8 [(.int v0), (.int v1), (.int v2), (.int v3), (.int v4), (.int v5), (.int v6), (.int v7)] (.int 0)) :
    Con l Z ELc n0 (⟨"java/lang/String", "equals", "(Ljava/lang/Object;)Z"⟩ : MethodName) kb24 3 (Option.some FieldType.boolean) [] (⟨1, 0, 0, 14⟩ : Room) #[.ref s1, .ref s2] h [] (fun v h' sf' => v = some (.int 1) ∧ sf' = [] ∧ h = h') := by
  refine con_ofA hB (ls := #[.val (.ref s1), .val (.ref s2), .unset]) (fun m => by simp [entryFrame, mkF, argsToLocals, Value.category]) ?_
  show Go _ _ _ _ _ _ "java/lang/String" kb24 3 _ "equals" _ h [] 0 0 0 #[vr s1, vr s2, .unset] []
  obtain ⟨cz, hS, hcz⟩ := hB.2.2.1
  refine go_aloadN d24_0 rfl rfl rfl ?_
  refine go_aloadN d24_1 rfl rfl rfl ?_
  refine go_acmp (pt := 7) false d24_2 rfl rfl (decide_eq_false (fun q => hne (Value.ref.inj q))) (by decide) (by decide) ?_
  refine go_aloadN d24_7 rfl rfl rfl ?_
  refine go_instY d24_8 rfl (wd hB 151 rfl) (Ins.self E2) ?_
  refine go_if_eq_f d24_11 rfl (by decide) ?_
  refine go_aloadN d24_14 rfl rfl rfl ?_
  refine go_checkcast d24_15 rfl (wd hB 151 rfl) (Ins.self E2) ?_
  refine go_astoreN d24_18 rfl #[vr s1, vr s2, vr s2] rfl rfl ?_
  refine go_getstatic d24_19 rfl (wd hB 52 rfl) Via.refl hS ?_
  refine go_if_eq_f d24_22 rfl hcz ?_
  refine go_aloadN d24_25 rfl rfl rfl ?_
  refine go_getfield d24_26 rfl (wd hB 24 rfl) Via.refl C1 ?_
  refine go_aloadN d24_29 rfl rfl rfl ?_
  refine go_getfield d24_30 rfl (wd hB 24 rfl) Via.refl C2 ?_
  refine go_icmp_ne_f d24_33 rfl (by decide) ?_
  refine go_aloadN d24_36 rfl rfl rfl ?_
  refine go_getfield d24_37 rfl (wd hB 23 rfl) Via.refl V1 ?_
  refine go_aloadN d24_40 rfl rfl rfl ?_
  refine go_getfield d24_41 rfl (wd hB 23 rfl) Via.refl V2 ?_
  refine go_static [(.ref d1), (.ref d2)] [] 0 d24_44 rfl (wd hB 152 rfl) (wd hB 153 rfl) (wd hB 154 rfl) (wd hB 155 rfl) (c_leq_8 hB A1 A2) (fun _ q => nomatch q) (lenOf pd_17 rfl) rfl rfl rfl (fun v101 h102 s103 q104 => ?_)
  obtain ⟨rfl, rfl, rfl⟩ := q104
  show Go _ _ _ _ _ _ _ _ _ _ _ _ h [] 0 0 47 _ [(.int 1)]
  refine go_if_eq_f d24_47 rfl (by decide) ?_
  refine go_iconst 1 d24_50 rfl ?_
  refine go_goto (pt := 55) d24_51 ?_
  refine go_retN (t := .boolean) d24_55 [] rfl (by simp) (by decide) (by decide) (fun _ q => nomatch q) ?_
  exact ⟨by decide, rfl, rfl⟩
set_option maxRecDepth 65536 in
set_option maxHeartbeats 4000000 in
theorem c_ae_0_2 (hB : Base Z a0) {h : Heap} :
    Con l Z ELc n0 (⟨"java/lang/Math", "addExact", "(II)I"⟩ : MethodName) kb18 3 (Option.some FieldType.int) [] (⟨0, 0, 0, 0⟩ : Room) #[.int 0, .int 2] h [] (fun v h' sf' => v = some (.int 2) ∧ sf' = [] ∧ h = h') := by
  refine con_ofA hB (ls := #[.val (.int 0), .val (.int 2), .unset]) (fun m => by simp [entryFrame, mkF, argsToLocals, Value.category]) ?_
  show Go _ _ _ _ _ _ "java/lang/Math" kb18 3 _ "addExact" _ h [] 0 0 0 #[vi 0, vi 2, .unset] []
  refine go_iloadN d18_0 rfl rfl ?_
  refine go_iloadN d18_1 rfl rfl ?_
  refine go_iadd d18_2 rfl (go_eq (y := 2) (by decide) ?_)
  refine go_istoreN d18_3 rfl #[vi 0, vi 2, vi 2] rfl ?_
  refine go_iloadN d18_4 rfl rfl ?_
  refine go_iloadN d18_5 rfl rfl ?_
  refine go_ixor d18_6 rfl (go_eq (y := 2) (by decide) ?_)
  refine go_iloadN d18_7 rfl rfl ?_
  refine go_iloadN d18_8 rfl rfl ?_
  refine go_ixor d18_9 rfl (go_eq (y := 0) (by decide) ?_)
  refine go_iand d18_10 rfl (go_eq (y := 0) (by decide) ?_)
  refine go_if_ge_t (pt := 24) d18_11 (by decide) ?_
  refine go_iloadN d18_24 rfl rfl ?_
  refine go_retI d18_25 [] rfl (by decide) (by decide) (fun _ q => nomatch q) ?_
  exact ⟨rfl, rfl, rfl⟩
set_option maxRecDepth 65536 in
set_option maxHeartbeats 4000000 in
theorem c_me_4_0 (hB : Base Z a0) {h : Heap} :
    Con l Z ELc n0 (⟨"java/lang/Math", "multiplyExact", "(II)I"⟩ : MethodName) kb19 4 (Option.some FieldType.int) [] (⟨0, 0, 0, 0⟩ : Room) #[.int 4, .int 0] h [] (fun v h' sf' => v = some (.int 0) ∧ sf' = [] ∧ h = h') := by
  refine con_ofA hB (ls := #[.val (.int 4), .val (.int 0), .unset, .unset]) (fun m => by simp [entryFrame, mkF, argsToLocals, Value.category]) ?_
  show Go _ _ _ _ _ _ "java/lang/Math" kb19 4 _ "multiplyExact" _ h [] 0 0 0 #[vi 4, vi 0, .unset, .unset] []
  refine go_iloadN d19_0 rfl rfl ?_
  refine go_i2l d19_1 rfl (go_eqL (y := 4) (by decide) ?_)
  refine go_iloadN d19_2 rfl rfl ?_
  refine go_i2l d19_3 rfl (go_eqL (y := 0) (by decide) ?_)
  refine go_lmul d19_4 rfl (go_eqL (y := 0) (by decide) ?_)
  refine go_lstoreN d19_5 rfl #[vi 4, vi 0, .val (.long 0), .second] rfl ?_
  refine go_lloadN d19_6 rfl rfl ?_
  refine go_l2i d19_7 rfl (go_eq (y := 0) (by decide) ?_)
  refine go_i2l d19_8 rfl (go_eqL (y := 0) (by decide) ?_)
  refine go_lloadN d19_9 rfl rfl ?_
  refine go_lcmp d19_10 rfl (go_eq (y := 0) (by decide) ?_)
  refine go_if_eq_t (pt := 24) d19_11 (by decide) ?_
  refine go_lloadN d19_24 rfl rfl ?_
  refine go_l2i d19_25 rfl (go_eq (y := 0) (by decide) ?_)
  refine go_retI d19_26 [] rfl (by decide) (by decide) (fun _ q => nomatch q) ?_
  exact ⟨rfl, rfl, rfl⟩
set_option maxRecDepth 65536 in
set_option maxHeartbeats 4000000 in
theorem c_eol_0 (hB : Base Z a0) {ec : Addr} (E0 : IsEnc Z ec) {h : Heap} :
    ConH l Z ELc n0 (⟨"java/util/Base64$Encoder", "encodedOutLength", "(IZ)I"⟩ : MethodName) kbx2 5 (Option.some FieldType.int) [(2, 79, 82, 33)] (⟨1, 0, 0, 15⟩ : Room) #[.ref ec, .int 0, .int 1] h [] (fun v h' sf' => v = some (.int 0) ∧ sf' = [] ∧ h = h') := by
  refine con_ofAH hB (ls := #[.val (.ref ec), .val (.int 0), .val (.int 1), .unset, .unset]) (fun m => by simp [entryFrame, mkF, argsToLocals, Value.category]) ?_
  show Go _ _ _ _ _ _ "java/util/Base64$Encoder" kbx2 5 _ "encodedOutLength" _ h [] 0 0 0 #[vr ec, vi 0, vi 1, .unset, .unset] []
  refine Go.old (fun hOld => ?_)
  obtain ⟨EX, E1, E3, E4⟩ := id E0
  have EXh := Exa.ext hOld.2 EX
  have E1h := Fld.ext hOld.2 E1
  have E3h := Fld.ext hOld.2 E3
  have E4h := Fld.ext hOld.2 E4
  refine go_iconst 0 dx2_0 rfl ?_
  refine go_istoreN dx2_1 rfl #[vr ec, vi 0, vi 1, vi 0, .unset] rfl ?_
  refine go_aloadN dx2_2 rfl rfl rfl ?_
  refine go_getfield dx2_3 rfl (wd hB 115 rfl) Via.refl E4h ?_
  refine go_if_eq_f dx2_6 rfl (by decide) ?_
  refine go_iconst 4 dx2_9 rfl ?_
  refine go_iloadN dx2_10 rfl rfl ?_
  refine go_iconst 2 dx2_11 rfl ?_
  refine go_static [(.int 0), (.int 2)] [(.int 4)] 1 dx2_12 rfl (wd hB 117 rfl) (wd hB 118 rfl) (wd hB 119 rfl) (wd hB 120 rfl) (c_ae_0_2 hB) (fun _ q => nomatch q) (lenOf pd_18 rfl) rfl rfl rfl (fun v101 h102 s103 q104 => ?_)
  obtain ⟨rfl, rfl, rfl⟩ := q104
  show Go _ _ _ _ _ _ _ _ _ _ _ _ h [] 0 0 15 _ [(.int 2), (.int 4)]
  refine go_iconst 3 dx2_15 rfl ?_
  refine go_idiv dx2_16 rfl (by decide) (go_eq (y := 0) (by decide) ?_)
  refine go_static [(.int 4), (.int 0)] [] 0 dx2_17 rfl (wd hB 121 rfl) (wd hB 122 rfl) (wd hB 119 rfl) (wd hB 123 rfl) (c_me_4_0 hB) (fun _ q => nomatch q) (lenOf pd_18 rfl) rfl rfl rfl (fun v105 h106 s107 q108 => ?_)
  obtain ⟨rfl, rfl, rfl⟩ := q108
  show Go _ _ _ _ _ _ _ _ _ _ _ _ h [] 0 0 20 _ [(.int 0)]
  refine go_istoreN dx2_20 rfl #[vr ec, vi 0, vi 1, vi 0, .unset] rfl ?_
  refine go_goto (pt := 53) dx2_21 ?_
  refine go_aloadN dx2_53 rfl rfl rfl ?_
  refine go_getfield dx2_54 rfl (wd hB 124 rfl) Via.refl E3h ?_
  refine go_if_le_t (pt := 79) dx2_57 (by decide) ?_
  refine go_goto (pt := 100) dx2_79 ?_
  refine go_iloadN dx2_100 rfl rfl ?_
  refine go_retI dx2_101 [] rfl (by decide) (by decide) (fun _ q => nomatch q) ?_
  exact ⟨rfl, rfl, rfl⟩
set_option maxRecDepth 65536 in
set_option maxHeartbeats 4000000 in
theorem c_e0_0 (hB : Base Z a0) (b0 b1 b2 b3 b4 b5 : Nat) (hb0 : b0 < 256) (hb1 : b1 < 256) (hb2 : b2 < 256) (hb3 : b3 < 256) (hb4 : b4 < 256) (hb5 : b5 < 256) {ec : Addr} (E0 : IsEnc Z ec) {src dst : Addr} {ks kd : ClassId} (hsd : src ≠ dst) {h : Heap} (A : Arv Z h src ks .byte 0 [] (.int 0)) (B : Arv Z h dst kd .byte 0 [] (.int 0)) :
    Con l Z ELc n0 (⟨"java/util/Base64$Encoder", "encode0", "([BII[B)I"⟩ : MethodName) kb20 16 (Option.some FieldType.int) [] (⟨0, 0, 0, 0⟩ : Room) #[.ref ec, .ref src, .int 0, .int 0, .ref dst] h [dst] (fun v h' sf' => v = some (.int 0) ∧ sf' = [] ∧ Keep h h' [dst] ∧ Arv Z h' dst kd .byte 0 [] (.int 0)) := by
  refine con_ofA hB (ls := #[.val (.ref ec), .val (.ref src), .val (.int 0), .val (.int 0), .val (.ref dst), .unset, .unset, .unset, .unset, .unset, .unset, .unset, .unset, .unset, .unset, .unset]) (fun m => by simp [entryFrame, mkF, argsToLocals, Value.category]) ?_
  show Go _ _ _ _ _ _ "java/util/Base64$Encoder" kb20 16 _ "encode0" _ h [dst] 0 0 0 #[vr ec, vr src, vi 0, vi 0, vr dst, .unset, .unset, .unset, .unset, .unset, .unset, .unset, .unset, .unset, .unset, .unset] []
  refine Go.owned (fun hOw => ?_)
  have hge := (hOw dst (List.Mem.head _)).2
  refine Go.old (fun hOld => ?_)
  obtain ⟨EX, E1, E3, E4⟩ := id E0
  have EXh := Exa.ext hOld.2 EX
  have E1h := Fld.ext hOld.2 E1
  have E3h := Fld.ext hOld.2 E3
  have E4h := Fld.ext hOld.2 E4
  obtain ⟨tb, kt, hSt, hAt⟩ := hB.2.2.2.2.2.2.2.2.2.1
  have hAu := hAt.ext hOld.2
  refine go_aloadN d20_0 rfl rfl rfl ?_
  refine go_getfield d20_1 rfl (wd hB 131 rfl) Via.refl E1h ?_
  refine go_if_eq_t (pt := 13) d20_4 (by decide) ?_
  refine go_getstatic d20_13 rfl (wd hB 133 rfl) Via.refl hSt ?_
  refine go_astore d20_16 rfl #[vr ec, vr src, vi 0, vi 0, vr dst, vr tb, .unset, .unset, .unset, .unset, .unset, .unset, .unset, .unset, .unset, .unset] rfl rfl ?_
  refine go_iloadN d20_18 rfl rfl ?_
  refine go_istore d20_19 rfl #[vr ec, vr src, vi 0, vi 0, vr dst, vr tb, vi 0, .unset, .unset, .unset, .unset, .unset, .unset, .unset, .unset, .unset] rfl ?_
  refine go_iloadN d20_21 rfl rfl ?_
  refine go_iloadN d20_22 rfl rfl ?_
  refine go_isub d20_23 rfl (go_eq (y := 0) (by decide) ?_)
  refine go_iconst 3 d20_24 rfl ?_
  refine go_idiv d20_25 rfl (by decide) (go_eq (y := 0) (by decide) ?_)
  refine go_iconst 3 d20_26 rfl ?_
  refine go_imul d20_27 rfl (go_eq (y := 0) (by decide) ?_)
  refine go_istore d20_28 rfl #[vr ec, vr src, vi 0, vi 0, vr dst, vr tb, vi 0, vi 0, .unset, .unset, .unset, .unset, .unset, .unset, .unset, .unset] rfl ?_
  refine go_iloadN d20_30 rfl rfl ?_
  refine go_iload d20_31 rfl rfl ?_
  refine go_iadd d20_33 rfl (go_eq (y := 0) (by decide) ?_)
  refine go_istore d20_34 rfl #[vr ec, vr src, vi 0, vi 0, vr dst, vr tb, vi 0, vi 0, vi 0, .unset, .unset, .unset, .unset, .unset, .unset, .unset] rfl ?_
  refine go_aloadN d20_36 rfl rfl rfl ?_
  refine go_getfield d20_37 rfl (wd hB 124 rfl) Via.refl E3h ?_
  refine go_if_le_t (pt := 66) d20_40 (by decide) ?_
  refine go_iconst 0 d20_66 rfl ?_
  refine go_istore d20_67 rfl #[vr ec, vr src, vi 0, vi 0, vr dst, vr tb, vi 0, vi 0, vi 0, vi 0, .unset, .unset, .unset, .unset, .unset, .unset] rfl ?_
  refine go_iload d20_69 rfl rfl ?_
  refine go_iload d20_71 rfl rfl ?_
  refine go_icmp_ge_t (pt := 189) d20_73 (by decide) ?_
  refine go_iload d20_189 rfl rfl ?_
  refine go_iloadN d20_191 rfl rfl ?_
  refine go_icmp_ge_t (pt := 352) d20_192 (by decide) ?_
  refine go_iload d20_352 rfl rfl ?_
  refine go_retI d20_354 [] rfl (by decide) (by decide) (fun _ q => nomatch q) ?_
  exact ⟨rfl, rfl, (Keep.refl h [dst]), B⟩
set_option maxRecDepth 65536 in
set_option maxHeartbeats 4000000 in
theorem c_ea_0 (hB : Base Z a0) (b0 b1 b2 b3 b4 b5 : Nat) (hb0 : b0 < 256) (hb1 : b1 < 256) (hb2 : b2 < 256) (hb3 : b3 < 256) (hb4 : b4 < 256) (hb5 : b5 < 256) {ec : Addr} (E0 : IsEnc Z ec) {src : Addr} {ks : ClassId} {h : Heap} (A : Arv Z h src ks .byte 0 [] (.int 0)) :
    Con l Z ELc n0 (⟨"java/util/Base64$Encoder", "encode", "([B)[B"⟩ : MethodName) kb17 5 (Option.some (FieldType.array FieldType.byte)) [] (⟨2, 1, 0, 31⟩ : Room) #[.ref ec, .ref src] h [] (fun v h' sf' => ∃ r kr, v = some (.ref r) ∧ sf' = [] ∧ Ext h h' ∧ h.size ≤ r ∧ Exa Z h' r "[B" ∧ Arv Z h' r kr .byte 0 [] (.int 0)) := by
  refine con_ofA hB (ls := #[.val (.ref ec), .val (.ref src), .unset, .unset, .unset]) (fun m => by simp [entryFrame, mkF, argsToLocals, Value.category]) ?_
  show Go _ _ _ _ _ _ "java/util/Base64$Encoder" kb17 5 _ "encode" _ h [] 0 0 0 #[vr ec, vr src, .unset, .unset, .unset] []
  refine Go.old (fun hOld => ?_)
  obtain ⟨EX, E1, E3, E4⟩ := id E0
  have EXh := Exa.ext hOld.2 EX
  have E1h := Fld.ext hOld.2 E1
  have E3h := Fld.ext hOld.2 E3
  have E4h := Fld.ext hOld.2 E4
  refine go_aloadN d17_0 rfl rfl rfl ?_
  refine go_aloadN d17_1 rfl rfl rfl ?_
  refine go_alen d17_2 rfl A ?_
  refine go_iconst 1 d17_3 rfl ?_
  refine go_virtualH ec [(.int 0), (.int 1)] [] 0 d17_4 rfl EXh (wd hB 110 rfl) (declares_ofH (wd hB 111 rfl) (wd hB 114 rfl)) (nf_of (wd hB 113 rfl)) (wd hB 113 rfl) (wd hB 111 rfl) (wd hB 99 rfl) (wd hB 114 rfl) (c_eol_0 hB E0) (fun _ q => nomatch q) (lenOf pd_19 rfl) rfl rfl rfl (fun v101 h102 s103 q104 => ?_)
  obtain ⟨rfl, rfl, rfl⟩ := q104
  show Go _ _ _ _ _ _ _ _ _ _ _ _ h [] 0 0 7 _ [(.int 0)]
  refine go_istoreN d17_7 rfl #[vr ec, vr src, vi 0, .unset, .unset] rfl ?_
  refine go_iloadN d17_8 rfl rfl ?_
  refine go_newarr (ty := .byte) (ad := "[B") 0 d17_9 rfl rfl (wd hB 18 rfl) (by decide) (by decide) (by decide) (by decide) (by decide) (by decide) ?_
  intro h110 x105 hx106 E107 ⟨A108, k109, B111⟩
  have B112 : Arv Z h110 x105 k109 .byte 0 [] (.int 0) := B111.pad (pad_rep [] (.int 0) 0)
  refine go_astoreN d17_11 rfl #[vr ec, vr src, vi 0, vr x105, .unset] rfl rfl ?_
  refine go_aloadN d17_12 rfl rfl rfl ?_
  refine go_aloadN d17_13 rfl rfl rfl ?_
  refine go_iconst 0 d17_14 rfl ?_
  refine go_aloadN d17_15 rfl rfl rfl ?_
  have F113 := (A.ext E107)
  refine go_alen d17_16 rfl F113 ?_
  refine go_aloadN d17_17 rfl rfl rfl ?_
  have F118 := (Exa.ext E107 EXh)
  refine go_virtual ec [(.ref src), (.int 0), (.int 0), (.ref x105)] [] 0 d17_18 rfl F118 (wd hB 126 rfl) (declares_of (wd hB 127 rfl) (wd hB 130 rfl)) (nf_of (wd hB 129 rfl)) (wd hB 129 rfl) (wd hB 127 rfl) (wd hB 99 rfl) (wd hB 130 rfl) (c_e0_0 hB b0 b1 b2 b3 b4 b5 hb0 hb1 hb2 hb3 hb4 hb5 E0 (Nat.ne_of_lt (Nat.lt_of_lt_of_le A.lt (Nat.le_of_eq hx106.symm))) F113 B112) (allS (List.Mem.head _) (fun _ q => nomatch q)) (lenOf pd_10 rfl) rfl rfl rfl (fun v114 h115 s116 q117 => ?_)
  obtain ⟨rfl, rfl, K119, B120⟩ := q117
  show Go _ _ _ _ _ _ _ _ _ _ _ _ h115 [x105] 1 0 21 _ [(.int 0)]
  refine go_istore d17_21 rfl #[vr ec, vr src, vi 0, vr x105, vi 0] rfl ?_
  refine go_iload d17_23 rfl rfl ?_
  refine go_aloadN d17_25 rfl rfl rfl ?_
  refine go_alen d17_26 rfl B120 ?_
  refine go_icmp_eq_t (pt := 37) d17_27 (by decide) ?_
  refine go_aloadN d17_37 rfl rfl rfl ?_
  have F121 := (A108.keep K119)
  refine go_retA d17_38 [] rfl rfl rfl rfl (by decide) (by decide) (fun _ q => nomatch q) ?_
  exact ⟨_, _, rfl, rfl, (ext_of_keep (((Keep.refl h []).ext E107).trans K119 (allS (Or.inr (Nat.le_of_eq hx106.symm)) all0))), (Nat.le_of_eq hx106.symm), F121, B120⟩
set_option maxRecDepth 65536 in
set_option maxHeartbeats 4000000 in
theorem c_es_0 (hB : Base Z a0) (b0 b1 b2 b3 b4 b5 : Nat) (hb0 : b0 < 256) (hb1 : b1 < 256) (hb2 : b2 < 256) (hb3 : b3 < 256) (hb4 : b4 < 256) (hb5 : b5 < 256) {ec : Addr} (E0 : IsEnc Z ec) {src : Addr} {ks : ClassId} {h : Heap} (A : Arv Z h src ks .byte 0 [] (.int 0)) :
    Con l Z ELc n0 (⟨"java/util/Base64$Encoder", "encodeToString", "([B)Ljava/lang/String;"⟩ : MethodName) kb16 3 (Option.some (FieldType.object "java/lang/String")) [] (⟨3, 6, 12, 48⟩ : Room) #[.ref ec, .ref src] h [] (fun v h' sf' => ∃ s d kd, v = some (.ref s) ∧ sf' = [] ∧ Ext h h' ∧ h.size ≤ s ∧ Exa Z h' s "java/lang/String" ∧ Fld Z h' s "java/lang/String" "coder" "B" (.int 0) ∧ Fld Z h' s "java/lang/String" "value" "[B" (.ref d) ∧ Arv Z h' d kd .byte 0 [] (.int 0)) := by
  refine con_ofA hB (ls := #[.val (.ref ec), .val (.ref src), .unset]) (fun m => by simp [entryFrame, mkF, argsToLocals, Value.category]) ?_
  show Go _ _ _ _ _ _ "java/util/Base64$Encoder" kb16 3 _ "encodeToString" _ h [] 0 0 0 #[vr ec, vr src, .unset] []
  refine Go.old (fun hOld => ?_)
  obtain ⟨EX, E1, E3, E4⟩ := id E0
  have EXh := Exa.ext hOld.2 EX
  have E1h := Fld.ext hOld.2 E1
  have E3h := Fld.ext hOld.2 E3
  have E4h := Fld.ext hOld.2 E4
  refine go_aloadN d16_0 rfl rfl rfl ?_
  refine go_aloadN d16_1 rfl rfl rfl ?_
  refine go_virtual ec [(.ref src)] [] 0 d16_2 rfl EXh (wd hB 105 rfl) (wd hB 106 rfl) (nf_of (wd hB 108 rfl)) (wd hB 108 rfl) (wd hB 107 rfl) (wd hB 99 rfl) (wd hB 109 rfl) (c_ea_0 hB b0 b1 b2 b3 b4 b5 hb0 hb1 hb2 hb3 hb4 hb5 E0 A) (fun _ q => nomatch q) (lenOf pd_12 rfl) rfl rfl rfl (fun v101 h102 s103 q104 => ?_)
  obtain ⟨r105, k106, rfl, rfl, E107, g108, X109, A110⟩ := q104
  show Go _ _ _ _ _ _ _ _ _ _ _ _ h102 [] 1 0 5 _ [(.ref r105)]
  refine go_astoreN d16_5 rfl #[vr ec, vr src, vr r105] rfl rfl ?_
  refine go_new d16_6 rfl (wd hB 134 rfl) (wd hB 5 rfl) (wd hB 6 rfl) (by decide) (by decide) ?_
  intro h116 x111 hx112 E113 ⟨A114, D115⟩
  have F117 : Fld Z h116 x111 "java/lang/String" "value" "[B" .null := D115 (Or.inr (wd hB 19 rfl)) (ty := (.array .byte)) (by decide)
  have F118 : Fld Z h116 x111 "java/lang/String" "coder" "B" (.int 0) := D115 (Or.inr (wd hB 20 rfl)) (ty := .byte) (by decide)
  refine go_dup d16_9 rfl rfl ?_
  refine go_aloadN d16_10 rfl rfl rfl ?_
  refine go_iconst 0 d16_11 rfl ?_
  refine go_iconst 0 d16_12 rfl ?_
  refine go_aloadN d16_13 rfl rfl rfl ?_
  have F119 := (A110.ext E113)
  refine go_alen d16_14 rfl F119 ?_
  have F120 := (Exa.ext E113 X109)
  refine go_special x111 [(.ref r105), (.int 0), (.int 0), (.int 0)] [(.ref x111)] 1 d16_15 rfl rfl (wd hB 135 rfl) (wd hB 136 rfl) (wd hB 6 rfl) (wd hB 137 rfl) (c_s3_0 hB F119 F120 A114 F117 F118) (allS (List.Mem.head _) (fun _ q => nomatch q)) (lenOf pd_20 rfl) rfl rfl rfl (fun v121 h122 s123 q124 => ?_)
  obtain ⟨rfl, rfl, K125, E126, F127, d128, k129, G130, A131⟩ := q124
  show Go _ _ _ _ _ _ _ _ _ _ _ _ h122 [x111] 6 12 18 _ [(.ref x111)]
  refine go_retA d16_18 [] rfl rfl rfl rfl (by decide) (by decide) (fun _ q => nomatch q) ?_
  exact ⟨x111, d128, k129, rfl, rfl, (ext_of_keep ((((Keep.refl h []).ext E107).ext E113).trans K125 (allS (Or.inr (Nat.le_trans E107.1 (Nat.le_of_eq hx112.symm))) all0))), (Nat.le_trans E107.1 (Nat.le_of_eq hx112.symm)), E126, F127, G130, A131⟩
set_option maxRecDepth 65536 in
set_option maxHeartbeats 4000000 in
theorem c_be_0 (hB : Base Z a0) (b0 b1 b2 b3 b4 b5 : Nat) (hb0 : b0 < 256) (hb1 : b1 < 256) (hb2 : b2 < 256) (hb3 : b3 < 256) (hb4 : b4 < 256) (hb5 : b5 < 256) {ec : Addr} (E0 : IsEnc Z ec) (SE : Sta Z Z.heap "java/util/Base64$Encoder" "RFC4648" "Ljava/util/Base64$Encoder;" (.ref ec)) {src : Addr} {ks : ClassId} {h : Heap} (A : Arv Z h src ks .byte 0 [] (.int 0)) :
    Con l Z ELc n0 (⟨"com/example/cardea/cardea/Base64Text", "encode", "([B)Ljava/lang/String;"⟩ : MethodName) kb14 1 (Option.some (FieldType.object "java/lang/String")) [] (⟨4, 6, 12, 62⟩ : Room) #[.ref src] h [] (fun v h' sf' => ∃ s d kd, v = some (.ref s) ∧ sf' = [] ∧ Ext h h' ∧ h.size ≤ s ∧ Exa Z h' s "java/lang/String" ∧ Fld Z h' s "java/lang/String" "coder" "B" (.int 0) ∧ Fld Z h' s "java/lang/String" "value" "[B" (.ref d) ∧ Arv Z h' d kd .byte 0 [] (.int 0)) := by
  refine con_ofA hB (ls := #[.val (.ref src)]) (fun m => by simp [entryFrame, mkF, argsToLocals, Value.category]) ?_
  show Go _ _ _ _ _ _ "com/example/cardea/cardea/Base64Text" kb14 1 _ "encode" _ h [] 0 0 0 #[vr src] []
  refine Go.old (fun hOld => ?_)
  obtain ⟨EX, E1, E3, E4⟩ := id E0
  have EXh := Exa.ext hOld.2 EX
  have E1h := Fld.ext hOld.2 E1
  have E3h := Fld.ext hOld.2 E3
  have E4h := Fld.ext hOld.2 E4
  refine go_static [] [] 0 d14_0 rfl (wd hB 95 rfl) (wd hB 96 rfl) (wd hB 31 rfl) (wd hB 97 rfl) (c_ge hB SE) (fun _ q => nomatch q) (lenOf pd_21 rfl) rfl rfl rfl (fun v101 h102 s103 q104 => ?_)
  obtain ⟨rfl, rfl, rfl⟩ := q104
  show Go _ _ _ _ _ _ _ _ _ _ _ _ h [] 0 0 3 _ [(.ref ec)]
  refine go_aloadN d14_3 rfl rfl rfl ?_
  refine go_virtual ec [(.ref src)] [] 0 d14_4 rfl EXh (wd hB 100 rfl) (wd hB 101 rfl) (nf_of (wd hB 103 rfl)) (wd hB 103 rfl) (wd hB 102 rfl) (wd hB 99 rfl) (wd hB 104 rfl) (c_es_0 hB b0 b1 b2 b3 b4 b5 hb0 hb1 hb2 hb3 hb4 hb5 E0 A) (fun _ q => nomatch q) (lenOf pd_22 rfl) rfl rfl rfl (fun v105 h106 s107 q108 => ?_)
  obtain ⟨s109, d110, k111, rfl, rfl, E112, g113, F114, F115, F116, F117⟩ := q108
  show Go _ _ _ _ _ _ _ _ _ _ _ _ h106 [] 6 12 7 _ [(.ref s109)]
  refine go_retA d14_7 [] rfl rfl rfl rfl (by decide) (by decide) (fun _ q => nomatch q) ?_
  exact ⟨s109, d110, _, rfl, rfl, (ext_of_keep ((Keep.refl h []).ext E112)), g113, F114, F115, F116, F117⟩
set_option maxRecDepth 65536 in
set_option maxHeartbeats 4000000 in
theorem c_bd_0 (hB : Base Z a0) (b0 b1 b2 b3 b4 b5 : Nat) (hb0 : b0 < 256) (hb1 : b1 < 256) (hb2 : b2 < 256) (hb3 : b3 < 256) (hb4 : b4 < 256) (hb5 : b5 < 256) {s d : Addr} {k : ClassId} {h : Heap} (E : Exa Z h s "java/lang/String") (C : Fld Z h s "java/lang/String" "coder" "B" (.int 0)) (V : Fld Z h s "java/lang/String" "value" "[B" (.ref d)) (A : Arv Z h d k .byte 0 [] (.int 0)) (X : Exa Z h d "[B") :
    ConH l Z ELc n0 (⟨"com/example/cardea/cardea/Base64Text", "decode", "(Ljava/lang/String;)[B"⟩ : MethodName) kbx1 3 (Option.some (FieldType.array FieldType.byte)) [(0, 8, 11, 29)] (⟨6, 8, 20, 89⟩ : Room) #[.ref s] h [] (fun v h' sf' => ∃ r kr, v = some (.ref r) ∧ sf' = [] ∧ Ext h h' ∧ Arv Z h' r kr .byte 0 [] (.int 0)) := by
  refine con_ofAH hB (ls := #[.val (.ref s), .unset, .unset]) (fun m => by simp [entryFrame, mkF, argsToLocals, Value.category]) ?_
  show Go _ _ _ _ _ _ "com/example/cardea/cardea/Base64Text" kbx1 3 _ "decode" _ h [] 0 0 0 #[vr s, .unset, .unset] []
  obtain ⟨dc, SD, D0⟩ := hB.2.2.2.2.1
  obtain ⟨is, SI, IX⟩ := hB.2.2.2.2.2.1
  obtain ⟨ut, SU, UX⟩ := hB.2.2.2.2.2.2.1
  obtain ⟨ec, SE, E0⟩ := hB.2.2.2.2.2.2.2.2.1
  refine Go.old (fun hOld => ?_)
  obtain ⟨DX, D1, D2⟩ := id D0
  have DXh := Exa.ext hOld.2 DX
  have D1h := Fld.ext hOld.2 D1
  have D2h := Fld.ext hOld.2 D2
  obtain ⟨EX, E1, E3, E4⟩ := id E0
  have EXh := Exa.ext hOld.2 EX
  have E1h := Fld.ext hOld.2 E1
  have E3h := Fld.ext hOld.2 E3
  have E4h := Fld.ext hOld.2 E4
  refine go_static [] [] 0 dx1_0 rfl (wd hB 29 rfl) (wd hB 30 rfl) (wd hB 31 rfl) (wd hB 32 rfl) (c_gd hB SD) (fun _ q => nomatch q) (lenOf pd_23 rfl) rfl rfl rfl (fun v101 h102 s103 q104 => ?_)
  obtain ⟨rfl, rfl, rfl⟩ := q104
  show Go _ _ _ _ _ _ _ _ _ _ _ _ h [] 0 0 3 _ [(.ref dc)]
  refine go_aloadN dx1_3 rfl rfl rfl ?_
  refine go_virtual dc [(.ref s)] [] 0 dx1_4 rfl DXh (wd hB 35 rfl) (wd hB 36 rfl) (nf_of (wd hB 38 rfl)) (wd hB 38 rfl) (wd hB 37 rfl) (wd hB 34 rfl) (wd hB 39 rfl) (c_ds_0 hB b0 b1 b2 b3 b4 b5 hb0 hb1 hb2 hb3 hb4 hb5 D0 SI SU IX UX E C V A X) (fun _ q => nomatch q) (lenOf pd_24 rfl) rfl rfl rfl (fun v105 h106 s107 q108 => ?_)
  obtain ⟨r109, k110, rfl, rfl, E111, g112, A113⟩ := q108
  show Go _ _ _ _ _ _ _ _ _ _ _ _ h106 [] 2 8 7 _ [(.ref r109)]
  refine go_astoreN dx1_7 rfl #[vr s, vr r109, .unset] rfl rfl ?_
  refine go_goto (pt := 22) dx1_8 ?_
  refine go_aloadN dx1_22 rfl rfl rfl ?_
  refine go_static [(.ref r109)] [] 0 dx1_23 rfl (wd hB 92 rfl) (wd hB 93 rfl) (wd hB 27 rfl) (wd hB 94 rfl) (c_be_0 hB b0 b1 b2 b3 b4 b5 hb0 hb1 hb2 hb3 hb4 hb5 E0 SE A113) (fun _ q => nomatch q) (lenOf pd_22 rfl) rfl rfl rfl (fun v114 h115 s116 q117 => ?_)
  obtain ⟨s118, d119, k120, rfl, rfl, E121, g122, F123, F124, F125, F126⟩ := q117
  show Go _ _ _ _ _ _ _ _ _ _ _ _ h115 [] 8 20 26 _ [(.ref s118)]
  refine go_aloadN dx1_26 rfl rfl rfl ?_
  have F127 := (Exa.ext E121 (Exa.ext E111 E))
  have F128 := (Fld.ext E121 (Fld.ext E111 C))
  have F129 := (Fld.ext E121 (Fld.ext E111 V))
  have F130 := ((A.ext E111).ext E121)
  refine go_virtual s118 [(.ref s)] [] 0 dx1_27 rfl F123 (wd hB 146 rfl) (wd hB 147 rfl) (nf_of (wd hB 149 rfl)) (wd hB 149 rfl) (wd hB 148 rfl) (wd hB 6 rfl) (wd hB 150 rfl) (c_seq_0 hB (Ne.symm (Nat.ne_of_lt (Nat.lt_of_lt_of_le (Nat.lt_of_lt_of_le E.lt E111.1) g122))) F123 F124 F125 F126 F127 F128 F129 F130) (fun _ q => nomatch q) (lenOf pd_25 rfl) rfl rfl rfl (fun v131 h132 s133 q134 => ?_)
  obtain ⟨rfl, rfl, rfl⟩ := q134
  show Go _ _ _ _ _ _ _ _ _ _ _ _ h115 [] 8 20 30 _ [(.int 1)]
  refine go_if_ne_t (pt := 43) dx1_30 (by decide) ?_
  refine go_aloadN dx1_43 rfl rfl rfl ?_
  have F135 := (A113.ext E121)
  refine go_retA dx1_44 [] rfl rfl rfl rfl (by decide) (by decide) (fun _ q => nomatch q) ?_
  exact ⟨_, _, rfl, rfl, (ext_of_keep (((Keep.refl h []).ext E111).ext E121)), F135⟩
set_option maxRecDepth 65536 in
set_option maxHeartbeats 4000000 in
theorem c_ae_1_2 (hB : Base Z a0) {h : Heap} :
    Con l Z ELc n0 (⟨"java/lang/Math", "addExact", "(II)I"⟩ : MethodName) kb18 3 (Option.some FieldType.int) [] (⟨0, 0, 0, 0⟩ : Room) #[.int 1, .int 2] h [] (fun v h' sf' => v = some (.int 3) ∧ sf' = [] ∧ h = h') := by
  refine con_ofA hB (ls := #[.val (.int 1), .val (.int 2), .unset]) (fun m => by simp [entryFrame, mkF, argsToLocals, Value.category]) ?_
  show Go _ _ _ _ _ _ "java/lang/Math" kb18 3 _ "addExact" _ h [] 0 0 0 #[vi 1, vi 2, .unset] []
  refine go_iloadN d18_0 rfl rfl ?_
  refine go_iloadN d18_1 rfl rfl ?_
  refine go_iadd d18_2 rfl (go_eq (y := 3) (by decide) ?_)
  refine go_istoreN d18_3 rfl #[vi 1, vi 2, vi 3] rfl ?_
  refine go_iloadN d18_4 rfl rfl ?_
  refine go_iloadN d18_5 rfl rfl ?_
  refine go_ixor d18_6 rfl (go_eq (y := 2) (by decide) ?_)
  refine go_iloadN d18_7 rfl rfl ?_
  refine go_iloadN d18_8 rfl rfl ?_
  refine go_ixor d18_9 rfl (go_eq (y := 1) (by decide) ?_)
  refine go_iand d18_10 rfl (go_eq (y := 0) (by decide) ?_)
  refine go_if_ge_t (pt := 24) d18_11 (by decide) ?_
  refine go_iloadN d18_24 rfl rfl ?_
  refine go_retI d18_25 [] rfl (by decide) (by decide) (fun _ q => nomatch q) ?_
  exact ⟨rfl, rfl, rfl⟩
set_option maxRecDepth 65536 in
set_option maxHeartbeats 4000000 in
theorem c_me_4_1 (hB : Base Z a0) {h : Heap} :
    Con l Z ELc n0 (⟨"java/lang/Math", "multiplyExact", "(II)I"⟩ : MethodName) kb19 4 (Option.some FieldType.int) [] (⟨0, 0, 0, 0⟩ : Room) #[.int 4, .int 1] h [] (fun v h' sf' => v = some (.int 4) ∧ sf' = [] ∧ h = h') := by
  refine con_ofA hB (ls := #[.val (.int 4), .val (.int 1), .unset, .unset]) (fun m => by simp [entryFrame, mkF, argsToLocals, Value.category]) ?_
  show Go _ _ _ _ _ _ "java/lang/Math" kb19 4 _ "multiplyExact" _ h [] 0 0 0 #[vi 4, vi 1, .unset, .unset] []
  refine go_iloadN d19_0 rfl rfl ?_
  refine go_i2l d19_1 rfl (go_eqL (y := 4) (by decide) ?_)
  refine go_iloadN d19_2 rfl rfl ?_
  refine go_i2l d19_3 rfl (go_eqL (y := 1) (by decide) ?_)
  refine go_lmul d19_4 rfl (go_eqL (y := 4) (by decide) ?_)
  refine go_lstoreN d19_5 rfl #[vi 4, vi 1, .val (.long 4), .second] rfl ?_
  refine go_lloadN d19_6 rfl rfl ?_
  refine go_l2i d19_7 rfl (go_eq (y := 4) (by decide) ?_)
  refine go_i2l d19_8 rfl (go_eqL (y := 4) (by decide) ?_)
  refine go_lloadN d19_9 rfl rfl ?_
  refine go_lcmp d19_10 rfl (go_eq (y := 0) (by decide) ?_)
  refine go_if_eq_t (pt := 24) d19_11 (by decide) ?_
  refine go_lloadN d19_24 rfl rfl ?_
  refine go_l2i d19_25 rfl (go_eq (y := 4) (by decide) ?_)
  refine go_retI d19_26 [] rfl (by decide) (by decide) (fun _ q => nomatch q) ?_
  exact ⟨rfl, rfl, rfl⟩
set_option maxRecDepth 65536 in
set_option maxHeartbeats 4000000 in
theorem c_eol_1 (hB : Base Z a0) {ec : Addr} (E0 : IsEnc Z ec) {h : Heap} :
    ConH l Z ELc n0 (⟨"java/util/Base64$Encoder", "encodedOutLength", "(IZ)I"⟩ : MethodName) kbx2 5 (Option.some FieldType.int) [(2, 79, 82, 33)] (⟨1, 0, 0, 15⟩ : Room) #[.ref ec, .int 1, .int 1] h [] (fun v h' sf' => v = some (.int 4) ∧ sf' = [] ∧ h = h') := by
  refine con_ofAH hB (ls := #[.val (.ref ec), .val (.int 1), .val (.int 1), .unset, .unset]) (fun m => by simp [entryFrame, mkF, argsToLocals, Value.category]) ?_
  show Go _ _ _ _ _ _ "java/util/Base64$Encoder" kbx2 5 _ "encodedOutLength" _ h [] 0 0 0 #[vr ec, vi 1, vi 1, .unset, .unset] []
  refine Go.old (fun hOld => ?_)
  obtain ⟨EX, E1, E3, E4⟩ := id E0
  have EXh := Exa.ext hOld.2 EX
  have E1h := Fld.ext hOld.2 E1
  have E3h := Fld.ext hOld.2 E3
  have E4h := Fld.ext hOld.2 E4
  refine go_iconst 0 dx2_0 rfl ?_
  refine go_istoreN dx2_1 rfl #[vr ec, vi 1, vi 1, vi 0, .unset] rfl ?_
  refine go_aloadN dx2_2 rfl rfl rfl ?_
  refine go_getfield dx2_3 rfl (wd hB 115 rfl) Via.refl E4h ?_
  refine go_if_eq_f dx2_6 rfl (by decide) ?_
  refine go_iconst 4 dx2_9 rfl ?_
  refine go_iloadN dx2_10 rfl rfl ?_
  refine go_iconst 2 dx2_11 rfl ?_
  refine go_static [(.int 1), (.int 2)] [(.int 4)] 1 dx2_12 rfl (wd hB 117 rfl) (wd hB 118 rfl) (wd hB 119 rfl) (wd hB 120 rfl) (c_ae_1_2 hB) (fun _ q => nomatch q) (lenOf pd_18 rfl) rfl rfl rfl (fun v101 h102 s103 q104 => ?_)
  obtain ⟨rfl, rfl, rfl⟩ := q104
  show Go _ _ _ _ _ _ _ _ _ _ _ _ h [] 0 0 15 _ [(.int 3), (.int 4)]
  refine go_iconst 3 dx2_15 rfl ?_
  refine go_idiv dx2_16 rfl (by decide) (go_eq (y := 1) (by decide) ?_)
  refine go_static [(.int 4), (.int 1)] [] 0 dx2_17 rfl (wd hB 121 rfl) (wd hB 122 rfl) (wd hB 119 rfl) (wd hB 123 rfl) (c_me_4_1 hB) (fun _ q => nomatch q) (lenOf pd_18 rfl) rfl rfl rfl (fun v105 h106 s107 q108 => ?_)
  obtain ⟨rfl, rfl, rfl⟩ := q108
  show Go _ _ _ _ _ _ _ _ _ _ _ _ h [] 0 0 20 _ [(.int 4)]
  refine go_istoreN dx2_20 rfl #[vr ec, vi 1, vi 1, vi 4, .unset] rfl ?_
  refine go_goto (pt := 53) dx2_21 ?_
  refine go_aloadN dx2_53 rfl rfl rfl ?_
  refine go_getfield dx2_54 rfl (wd hB 124 rfl) Via.refl E3h ?_
  refine go_if_le_t (pt := 79) dx2_57 (by decide) ?_
  refine go_goto (pt := 100) dx2_79 ?_
  refine go_iloadN dx2_100 rfl rfl ?_
  refine go_retI dx2_101 [] rfl (by decide) (by decide) (fun _ q => nomatch q) ?_
  exact ⟨rfl, rfl, rfl⟩
set_option maxRecDepth 65536 in
set_option maxHeartbeats 4000000 in
theorem c_e0_1 (hB : Base Z a0) (b0 b1 b2 b3 b4 b5 : Nat) (hb0 : b0 < 256) (hb1 : b1 < 256) (hb2 : b2 < 256) (hb3 : b3 < 256) (hb4 : b4 < 256) (hb5 : b5 < 256) {ec : Addr} (E0 : IsEnc Z ec) {src dst : Addr} {ks kd : ClassId} (hsd : src ≠ dst) {h : Heap} (A : Arv Z h src ks .byte 1 [(lv (Int32.ofNat b0))] (.int 0)) (B : Arv Z h dst kd .byte 4 [(.int 0), (.int 0), (.int 0), (.int 0)] (.int 0)) :
    Con l Z ELc n0 (⟨"java/util/Base64$Encoder", "encode0", "([BII[B)I"⟩ : MethodName) kb20 16 (Option.some FieldType.int) [] (⟨0, 0, 0, 0⟩ : Room) #[.ref ec, .ref src, .int 0, .int 1, .ref dst] h [dst] (fun v h' sf' => v = some (.int 4) ∧ sf' = [] ∧ Keep h h' [dst] ∧ Arv Z h' dst kd .byte 4 [(lv (T (X0 b0))), (lv (T (X1 b0 0))), (lv (61 : Int32)), (lv (61 : Int32))] (.int 0)) := by
  refine con_ofA hB (ls := #[.val (.ref ec), .val (.ref src), .val (.int 0), .val (.int 1), .val (.ref dst), .unset, .unset, .unset, .unset, .unset, .unset, .unset, .unset, .unset, .unset, .unset]) (fun m => by simp [entryFrame, mkF, argsToLocals, Value.category]) ?_
  show Go _ _ _ _ _ _ "java/util/Base64$Encoder" kb20 16 _ "encode0" _ h [dst] 0 0 0 #[vr ec, vr src, vi 0, vi 1, vr dst, .unset, .unset, .unset, .unset, .unset, .unset, .unset, .unset, .unset, .unset, .unset] []
  have lt101 : X0 b0 < 64 := (x0_lt hb0)
  have lt102 : X1 b0 0 < 64 := (x1_lt hb0 (by decide : 0 < 256))
  refine Go.owned (fun hOw => ?_)
  have hge := (hOw dst (List.Mem.head _)).2
  refine Go.old (fun hOld => ?_)
  obtain ⟨EX, E1, E3, E4⟩ := id E0
  have EXh := Exa.ext hOld.2 EX
  have E1h := Fld.ext hOld.2 E1
  have E3h := Fld.ext hOld.2 E3
  have E4h := Fld.ext hOld.2 E4
  obtain ⟨tb, kt, hSt, hAt⟩ := hB.2.2.2.2.2.2.2.2.2.1
  have hAu := hAt.ext hOld.2
  refine go_aloadN d20_0 rfl rfl rfl ?_
  refine go_getfield d20_1 rfl (wd hB 131 rfl) Via.refl E1h ?_
  refine go_if_eq_t (pt := 13) d20_4 (by decide) ?_
  refine go_getstatic d20_13 rfl (wd hB 133 rfl) Via.refl hSt ?_
  refine go_astore d20_16 rfl #[vr ec, vr src, vi 0, vi 1, vr dst, vr tb, .unset, .unset, .unset, .unset, .unset, .unset, .unset, .unset, .unset, .unset] rfl rfl ?_
  refine go_iloadN d20_18 rfl rfl ?_
  refine go_istore d20_19 rfl #[vr ec, vr src, vi 0, vi 1, vr dst, vr tb, vi 0, .unset, .unset, .unset, .unset, .unset, .unset, .unset, .unset, .unset] rfl ?_
  refine go_iloadN d20_21 rfl rfl ?_
  refine go_iloadN d20_22 rfl rfl ?_
  refine go_isub d20_23 rfl (go_eq (y := 1) (by decide) ?_)
  refine go_iconst 3 d20_24 rfl ?_
  refine go_idiv d20_25 rfl (by decide) (go_eq (y := 0) (by decide) ?_)
  refine go_iconst 3 d20_26 rfl ?_
  refine go_imul d20_27 rfl (go_eq (y := 0) (by decide) ?_)
  refine go_istore d20_28 rfl #[vr ec, vr src, vi 0, vi 1, vr dst, vr tb, vi 0, vi 0, .unset, .unset, .unset, .unset, .unset, .unset, .unset, .unset] rfl ?_
  refine go_iloadN d20_30 rfl rfl ?_
  refine go_iload d20_31 rfl rfl ?_
  refine go_iadd d20_33 rfl (go_eq (y := 0) (by decide) ?_)
  refine go_istore d20_34 rfl #[vr ec, vr src, vi 0, vi 1, vr dst, vr tb, vi 0, vi 0, vi 0, .unset, .unset, .unset, .unset, .unset, .unset, .unset] rfl ?_
  refine go_aloadN d20_36 rfl rfl rfl ?_
  refine go_getfield d20_37 rfl (wd hB 124 rfl) Via.refl E3h ?_
  refine go_if_le_t (pt := 66) d20_40 (by decide) ?_
  refine go_iconst 0 d20_66 rfl ?_
  refine go_istore d20_67 rfl #[vr ec, vr src, vi 0, vi 1, vr dst, vr tb, vi 0, vi 0, vi 0, vi 0, .unset, .unset, .unset, .unset, .unset, .unset] rfl ?_
  refine go_iload d20_69 rfl rfl ?_
  refine go_iload d20_71 rfl rfl ?_
  refine go_icmp_ge_t (pt := 189) d20_73 (by decide) ?_
  refine go_iload d20_189 rfl rfl ?_
  refine go_iloadN d20_191 rfl rfl ?_
  refine go_icmp_ge_f d20_192 rfl (by decide) ?_
  refine go_aloadN d20_195 rfl rfl rfl ?_
  refine go_iload d20_196 rfl rfl ?_
  refine go_iincV 1 1 d20_198 rfl #[vr ec, vr src, vi 0, vi 1, vr dst, vr tb, vi 1, vi 0, vi 0, vi 0, .unset, .unset, .unset, .unset, .unset, .unset] (by decide) rfl (by decide) rfl ?_
  refine go_baload (v := (.int ((Int32.ofNat b0).toInt8.toInt32))) 0 d20_201 rfl A ⟨by decide, by decide⟩ (by decide) rfl ?_
  refine go_sipush 255 d20_202 rfl ?_
  refine go_iand d20_205 rfl (go_eq (y := Int32.ofNat b0) (B_isC hb0).back ?_)
  refine go_istore d20_206 rfl #[vr ec, vr src, vi 0, vi 1, vr dst, vr tb, vi 1, vi 0, vi 0, vi 0, vi (Int32.ofNat b0), .unset, .unset, .unset, .unset, .unset] rfl ?_
  refine go_aload d20_208 rfl rfl rfl ?_
  refine go_iload d20_210 rfl rfl ?_
  refine go_iincV 1 1 d20_212 rfl #[vr ec, vr src, vi 0, vi 1, vr dst, vr tb, vi 1, vi 0, vi 0, vi 1, vi (Int32.ofNat b0), .unset, .unset, .unset, .unset, .unset] (by decide) rfl (by decide) rfl ?_
  refine go_aload d20_215 rfl rfl rfl ?_
  refine go_iload d20_217 rfl rfl ?_
  refine go_iconst 2 d20_219 rfl ?_
  refine go_ishr d20_220 rfl (go_eq (y := Int32.ofNat (X0 b0)) (shrE (k := 2) (by decide) (by decide) (by omega) rfl) ?_)
  refine go_caload (v := (.int (T (X0 b0)))) (X0 b0) d20_221 rfl hAu (N_in lt101) (N_cl lt101) (tb_at lt101) ?_
  refine go_i2b d20_222 rfl ?_
  refine go_bastoreV 0 ((T (X0 b0)).toInt8.toInt32) d20_223 rfl (i8i8 _) B ⟨by decide, by decide⟩ (by decide) (by show 0 < 4; decide) (List.Mem.head _) ?_
  intro h103 W104 B105
  have B106 : Arv Z h103 dst kd .byte 4 [(lv (T (X0 b0))), (.int 0), (.int 0), (.int 0)] (.int 0) := B105
  refine go_iload d20_224 rfl rfl ?_
  refine go_iloadN d20_226 rfl rfl ?_
  refine go_icmp_ne_f d20_227 rfl (by decide) ?_
  refine go_aload d20_230 rfl rfl rfl ?_
  refine go_iload d20_232 rfl rfl ?_
  refine go_iincV 1 2 d20_234 rfl #[vr ec, vr src, vi 0, vi 1, vr dst, vr tb, vi 1, vi 0, vi 0, vi 2, vi (Int32.ofNat b0), .unset, .unset, .unset, .unset, .unset] (by decide) rfl (by decide) rfl ?_
  refine go_aload d20_237 rfl rfl rfl ?_
  refine go_iload d20_239 rfl rfl ?_
  refine go_iconst 4 d20_241 rfl ?_
  refine go_ishl d20_242 rfl (go_eq (y := Int32.ofNat (b0 * 16)) (shlE (k := 4) (by decide) (by decide) (by omega) rfl (by omega)) ?_)
  refine go_bipush 63 d20_243 rfl ?_
  refine go_iand d20_245 rfl (go_eq (y := Int32.ofNat (X1 b0 0)) (and63 (by omega) (by simp only [X0, X1, X2, X3] <;> omega)) ?_)
  have F107 := (Arv.other hAu W104 (old_ne hOld hAt.lt hge))
  refine go_caload (v := (.int (T (X1 b0 0)))) (X1 b0 0) d20_246 rfl F107 (N_in lt102) (N_cl lt102) (tb_at lt102) ?_
  refine go_i2b d20_247 rfl ?_
  refine go_bastoreV 1 ((T (X1 b0 0)).toInt8.toInt32) d20_248 rfl (i8i8 _) B106 ⟨by decide, by decide⟩ (by decide) (by show 1 < 4; decide) (List.Mem.head _) ?_
  intro h108 W109 B110
  have B111 : Arv Z h108 dst kd .byte 4 [(lv (T (X0 b0))), (lv (T (X1 b0 0))), (.int 0), (.int 0)] (.int 0) := B110
  refine go_aloadN d20_249 rfl rfl rfl ?_
  have F112 := (Fld.other W109 (Fld.other W104 E4h (Or.inl (old_ne hOld EX.lt hge))) (Or.inl (old_ne hOld EX.lt hge)))
  refine go_getfield d20_250 rfl (wd hB 115 rfl) Via.refl F112 ?_
  refine go_if_eq_f d20_253 rfl (by decide) ?_
  refine go_aload d20_256 rfl rfl rfl ?_
  refine go_iload d20_258 rfl rfl ?_
  refine go_iincV 1 3 d20_260 rfl #[vr ec, vr src, vi 0, vi 1, vr dst, vr tb, vi 1, vi 0, vi 0, vi 3, vi (Int32.ofNat b0), .unset, .unset, .unset, .unset, .unset] (by decide) rfl (by decide) rfl ?_
  refine go_bipush 61 d20_263 rfl ?_
  refine go_bastoreV 2 ((61 : Int32).toInt8.toInt32) d20_265 rfl rfl B111 ⟨by decide, by decide⟩ (by decide) (by show 2 < 4; decide) (List.Mem.head _) ?_
  intro h113 W114 B115
  have B116 : Arv Z h113 dst kd .byte 4 [(lv (T (X0 b0))), (lv (T (X1 b0 0))), (lv (61 : Int32)), (.int 0)] (.int 0) := B115
  refine go_aload d20_266 rfl rfl rfl ?_
  refine go_iload d20_268 rfl rfl ?_
  refine go_iincV 1 4 d20_270 rfl #[vr ec, vr src, vi 0, vi 1, vr dst, vr tb, vi 1, vi 0, vi 0, vi 4, vi (Int32.ofNat b0), .unset, .unset, .unset, .unset, .unset] (by decide) rfl (by decide) rfl ?_
  refine go_bipush 61 d20_273 rfl ?_
  refine go_bastoreV 3 ((61 : Int32).toInt8.toInt32) d20_275 rfl rfl B116 ⟨by decide, by decide⟩ (by decide) (by show 3 < 4; decide) (List.Mem.head _) ?_
  intro h117 W118 B119
  have B120 : Arv Z h117 dst kd .byte 4 [(lv (T (X0 b0))), (lv (T (X1 b0 0))), (lv (61 : Int32)), (lv (61 : Int32))] (.int 0) := B119
  refine go_goto (pt := 352) d20_276 ?_
  refine go_iload d20_352 rfl rfl ?_
  refine go_retI d20_354 [] rfl (by decide) (by decide) (fun _ q => nomatch q) ?_
  exact ⟨rfl, rfl, (((((Keep.refl h [dst]).wr W104 (Or.inl (List.Mem.head _))).wr W109 (Or.inl (List.Mem.head _))).wr W114 (Or.inl (List.Mem.head _))).wr W118 (Or.inl (List.Mem.head _))), B120⟩
set_option maxRecDepth 65536 in
set_option maxHeartbeats 4000000 in
theorem c_ea_1 (hB : Base Z a0) (b0 b1 b2 b3 b4 b5 : Nat) (hb0 : b0 < 256) (hb1 : b1 < 256) (hb2 : b2 < 256) (hb3 : b3 < 256) (hb4 : b4 < 256) (hb5 : b5 < 256) {ec : Addr} (E0 : IsEnc Z ec) {src : Addr} {ks : ClassId} {h : Heap} (A : Arv Z h src ks .byte 1 [(lv (Int32.ofNat b0))] (.int 0)) :
    Con l Z ELc n0 (⟨"java/util/Base64$Encoder", "encode", "([B)[B"⟩ : MethodName) kb17 5 (Option.some (FieldType.array FieldType.byte)) [] (⟨2, 1, 4, 31⟩ : Room) #[.ref ec, .ref src] h [] (fun v h' sf' => ∃ r kr, v = some (.ref r) ∧ sf' = [] ∧ Ext h h' ∧ h.size ≤ r ∧ Exa Z h' r "[B" ∧ Arv Z h' r kr .byte 4 [(lv (T (X0 b0))), (lv (T (X1 b0 0))), (lv (61 : Int32)), (lv (61 : Int32))] (.int 0)) := by
  refine con_ofA hB (ls := #[.val (.ref ec), .val (.ref src), .unset, .unset, .unset]) (fun m => by simp [entryFrame, mkF, argsToLocals, Value.category]) ?_
  show Go _ _ _ _ _ _ "java/util/Base64$Encoder" kb17 5 _ "encode" _ h [] 0 0 0 #[vr ec, vr src, .unset, .unset, .unset] []
  refine Go.old (fun hOld => ?_)
  obtain ⟨EX, E1, E3, E4⟩ := id E0
  have EXh := Exa.ext hOld.2 EX
  have E1h := Fld.ext hOld.2 E1
  have E3h := Fld.ext hOld.2 E3
  have E4h := Fld.ext hOld.2 E4
  refine go_aloadN d17_0 rfl rfl rfl ?_
  refine go_aloadN d17_1 rfl rfl rfl ?_
  refine go_alen d17_2 rfl A ?_
  refine go_iconst 1 d17_3 rfl ?_
  refine go_virtualH ec [(.int 1), (.int 1)] [] 0 d17_4 rfl EXh (wd hB 110 rfl) (declares_ofH (wd hB 111 rfl) (wd hB 114 rfl)) (nf_of (wd hB 113 rfl)) (wd hB 113 rfl) (wd hB 111 rfl) (wd hB 99 rfl) (wd hB 114 rfl) (c_eol_1 hB E0) (fun _ q => nomatch q) (lenOf pd_19 rfl) rfl rfl rfl (fun v101 h102 s103 q104 => ?_)
  obtain ⟨rfl, rfl, rfl⟩ := q104
  show Go _ _ _ _ _ _ _ _ _ _ _ _ h [] 0 0 7 _ [(.int 4)]
  refine go_istoreN d17_7 rfl #[vr ec, vr src, vi 4, .unset, .unset] rfl ?_
  refine go_iloadN d17_8 rfl rfl ?_
  refine go_newarr (ty := .byte) (ad := "[B") 4 d17_9 rfl rfl (wd hB 18 rfl) (by decide) (by decide) (by decide) (by decide) (by decide) (by decide) ?_
  intro h110 x105 hx106 E107 ⟨A108, k109, B111⟩
  have B112 : Arv Z h110 x105 k109 .byte 4 [(.int 0), (.int 0), (.int 0), (.int 0)] (.int 0) := B111.pad (pad_rep [] (.int 0) 4)
  refine go_astoreN d17_11 rfl #[vr ec, vr src, vi 4, vr x105, .unset] rfl rfl ?_
  refine go_aloadN d17_12 rfl rfl rfl ?_
  refine go_aloadN d17_13 rfl rfl rfl ?_
  refine go_iconst 0 d17_14 rfl ?_
  refine go_aloadN d17_15 rfl rfl rfl ?_
  have F113 := (A.ext E107)
  refine go_alen d17_16 rfl F113 ?_
  refine go_aloadN d17_17 rfl rfl rfl ?_
  have F118 := (Exa.ext E107 EXh)
  refine go_virtual ec [(.ref src), (.int 0), (.int 1), (.ref x105)] [] 0 d17_18 rfl F118 (wd hB 126 rfl) (declares_of (wd hB 127 rfl) (wd hB 130 rfl)) (nf_of (wd hB 129 rfl)) (wd hB 129 rfl) (wd hB 127 rfl) (wd hB 99 rfl) (wd hB 130 rfl) (c_e0_1 hB b0 b1 b2 b3 b4 b5 hb0 hb1 hb2 hb3 hb4 hb5 E0 (Nat.ne_of_lt (Nat.lt_of_lt_of_le A.lt (Nat.le_of_eq hx106.symm))) F113 B112) (allS (List.Mem.head _) (fun _ q => nomatch q)) (lenOf pd_10 rfl) rfl rfl rfl (fun v114 h115 s116 q117 => ?_)
  obtain ⟨rfl, rfl, K119, B120⟩ := q117
  show Go _ _ _ _ _ _ _ _ _ _ _ _ h115 [x105] 1 4 21 _ [(.int 4)]
  refine go_istore d17_21 rfl #[vr ec, vr src, vi 4, vr x105, vi 4] rfl ?_
  refine go_iload d17_23 rfl rfl ?_
  refine go_aloadN d17_25 rfl rfl rfl ?_
  refine go_alen d17_26 rfl B120 ?_
  refine go_icmp_eq_t (pt := 37) d17_27 (by decide) ?_
  refine go_aloadN d17_37 rfl rfl rfl ?_
  have F121 := (A108.keep K119)
  refine go_retA d17_38 [] rfl rfl rfl rfl (by decide) (by decide) (fun _ q => nomatch q) ?_
  exact ⟨_, _, rfl, rfl, (ext_of_keep (((Keep.refl h []).ext E107).trans K119 (allS (Or.inr (Nat.le_of_eq hx106.symm)) all0))), (Nat.le_of_eq hx106.symm), F121, B120⟩
set_option maxRecDepth 65536 in
set_option maxHeartbeats 4000000 in
theorem c_es_1 (hB : Base Z a0) (b0 b1 b2 b3 b4 b5 : Nat) (hb0 : b0 < 256) (hb1 : b1 < 256) (hb2 : b2 < 256) (hb3 : b3 < 256) (hb4 : b4 < 256) (hb5 : b5 < 256) {ec : Addr} (E0 : IsEnc Z ec) {src : Addr} {ks : ClassId} {h : Heap} (A : Arv Z h src ks .byte 1 [(lv (Int32.ofNat b0))] (.int 0)) :
    Con l Z ELc n0 (⟨"java/util/Base64$Encoder", "encodeToString", "([B)Ljava/lang/String;"⟩ : MethodName) kb16 3 (Option.some (FieldType.object "java/lang/String")) [] (⟨3, 3, 12, 48⟩ : Room) #[.ref ec, .ref src] h [] (fun v h' sf' => ∃ s d kd, v = some (.ref s) ∧ sf' = [] ∧ Ext h h' ∧ h.size ≤ s ∧ Exa Z h' s "java/lang/String" ∧ Fld Z h' s "java/lang/String" "coder" "B" (.int 0) ∧ Fld Z h' s "java/lang/String" "value" "[B" (.ref d) ∧ Arv Z h' d kd .byte 4 [(lv (T (X0 b0))), (lv (T (X1 b0 0))), (lv (61 : Int32)), (lv (61 : Int32))] (.int 0)) := by
  refine con_ofA hB (ls := #[.val (.ref ec), .val (.ref src), .unset]) (fun m => by simp [entryFrame, mkF, argsToLocals, Value.category]) ?_
  show Go _ _ _ _ _ _ "java/util/Base64$Encoder" kb16 3 _ "encodeToString" _ h [] 0 0 0 #[vr ec, vr src, .unset] []
  refine Go.old (fun hOld => ?_)
  obtain ⟨EX, E1, E3, E4⟩ := id E0
  have EXh := Exa.ext hOld.2 EX
  have E1h := Fld.ext hOld.2 E1
  have E3h := Fld.ext hOld.2 E3
  have E4h := Fld.ext hOld.2 E4
  refine go_aloadN d16_0 rfl rfl rfl ?_
  refine go_aloadN d16_1 rfl rfl rfl ?_
  refine go_virtual ec [(.ref src)] [] 0 d16_2 rfl EXh (wd hB 105 rfl) (wd hB 106 rfl) (nf_of (wd hB 108 rfl)) (wd hB 108 rfl) (wd hB 107 rfl) (wd hB 99 rfl) (wd hB 109 rfl) (c_ea_1 hB b0 b1 b2 b3 b4 b5 hb0 hb1 hb2 hb3 hb4 hb5 E0 A) (fun _ q => nomatch q) (lenOf pd_12 rfl) rfl rfl rfl (fun v101 h102 s103 q104 => ?_)
  obtain ⟨r105, k106, rfl, rfl, E107, g108, X109, A110⟩ := q104
  show Go _ _ _ _ _ _ _ _ _ _ _ _ h102 [] 1 4 5 _ [(.ref r105)]
  refine go_astoreN d16_5 rfl #[vr ec, vr src, vr r105] rfl rfl ?_
  refine go_new d16_6 rfl (wd hB 134 rfl) (wd hB 5 rfl) (wd hB 6 rfl) (by decide) (by decide) ?_
  intro h116 x111 hx112 E113 ⟨A114, D115⟩
  have F117 : Fld Z h116 x111 "java/lang/String" "value" "[B" .null := D115 (Or.inr (wd hB 19 rfl)) (ty := (.array .byte)) (by decide)
  have F118 : Fld Z h116 x111 "java/lang/String" "coder" "B" (.int 0) := D115 (Or.inr (wd hB 20 rfl)) (ty := .byte) (by decide)
  refine go_dup d16_9 rfl rfl ?_
  refine go_aloadN d16_10 rfl rfl rfl ?_
  refine go_iconst 0 d16_11 rfl ?_
  refine go_iconst 0 d16_12 rfl ?_
  refine go_aloadN d16_13 rfl rfl rfl ?_
  have F119 := (A110.ext E113)
  refine go_alen d16_14 rfl F119 ?_
  have F120 := (Exa.ext E113 X109)
  refine go_special x111 [(.ref r105), (.int 0), (.int 0), (.int 4)] [(.ref x111)] 1 d16_15 rfl rfl (wd hB 135 rfl) (wd hB 136 rfl) (wd hB 6 rfl) (wd hB 137 rfl) (c_s3_4 hB F119 F120 A114 F117 F118) (allS (List.Mem.head _) (fun _ q => nomatch q)) (lenOf pd_20 rfl) rfl rfl rfl (fun v121 h122 s123 q124 => ?_)
  obtain ⟨rfl, rfl, K125, E126, F127, d128, k129, G130, A131⟩ := q124
  show Go _ _ _ _ _ _ _ _ _ _ _ _ h122 [x111] 3 12 18 _ [(.ref x111)]
  refine go_retA d16_18 [] rfl rfl rfl rfl (by decide) (by decide) (fun _ q => nomatch q) ?_
  exact ⟨x111, d128, k129, rfl, rfl, (ext_of_keep ((((Keep.refl h []).ext E107).ext E113).trans K125 (allS (Or.inr (Nat.le_trans E107.1 (Nat.le_of_eq hx112.symm))) all0))), (Nat.le_trans E107.1 (Nat.le_of_eq hx112.symm)), E126, F127, G130, A131⟩
set_option maxRecDepth 65536 in
set_option maxHeartbeats 4000000 in
theorem c_be_1 (hB : Base Z a0) (b0 b1 b2 b3 b4 b5 : Nat) (hb0 : b0 < 256) (hb1 : b1 < 256) (hb2 : b2 < 256) (hb3 : b3 < 256) (hb4 : b4 < 256) (hb5 : b5 < 256) {ec : Addr} (E0 : IsEnc Z ec) (SE : Sta Z Z.heap "java/util/Base64$Encoder" "RFC4648" "Ljava/util/Base64$Encoder;" (.ref ec)) {src : Addr} {ks : ClassId} {h : Heap} (A : Arv Z h src ks .byte 1 [(lv (Int32.ofNat b0))] (.int 0)) :
    Con l Z ELc n0 (⟨"com/example/cardea/cardea/Base64Text", "encode", "([B)Ljava/lang/String;"⟩ : MethodName) kb14 1 (Option.some (FieldType.object "java/lang/String")) [] (⟨4, 3, 12, 62⟩ : Room) #[.ref src] h [] (fun v h' sf' => ∃ s d kd, v = some (.ref s) ∧ sf' = [] ∧ Ext h h' ∧ h.size ≤ s ∧ Exa Z h' s "java/lang/String" ∧ Fld Z h' s "java/lang/String" "coder" "B" (.int 0) ∧ Fld Z h' s "java/lang/String" "value" "[B" (.ref d) ∧ Arv Z h' d kd .byte 4 [(lv (T (X0 b0))), (lv (T (X1 b0 0))), (lv (61 : Int32)), (lv (61 : Int32))] (.int 0)) := by
  refine con_ofA hB (ls := #[.val (.ref src)]) (fun m => by simp [entryFrame, mkF, argsToLocals, Value.category]) ?_
  show Go _ _ _ _ _ _ "com/example/cardea/cardea/Base64Text" kb14 1 _ "encode" _ h [] 0 0 0 #[vr src] []
  refine Go.old (fun hOld => ?_)
  obtain ⟨EX, E1, E3, E4⟩ := id E0
  have EXh := Exa.ext hOld.2 EX
  have E1h := Fld.ext hOld.2 E1
  have E3h := Fld.ext hOld.2 E3
  have E4h := Fld.ext hOld.2 E4
  refine go_static [] [] 0 d14_0 rfl (wd hB 95 rfl) (wd hB 96 rfl) (wd hB 31 rfl) (wd hB 97 rfl) (c_ge hB SE) (fun _ q => nomatch q) (lenOf pd_21 rfl) rfl rfl rfl (fun v101 h102 s103 q104 => ?_)
  obtain ⟨rfl, rfl, rfl⟩ := q104
  show Go _ _ _ _ _ _ _ _ _ _ _ _ h [] 0 0 3 _ [(.ref ec)]
  refine go_aloadN d14_3 rfl rfl rfl ?_
  refine go_virtual ec [(.ref src)] [] 0 d14_4 rfl EXh (wd hB 100 rfl) (wd hB 101 rfl) (nf_of (wd hB 103 rfl)) (wd hB 103 rfl) (wd hB 102 rfl) (wd hB 99 rfl) (wd hB 104 rfl) (c_es_1 hB b0 b1 b2 b3 b4 b5 hb0 hb1 hb2 hb3 hb4 hb5 E0 A) (fun _ q => nomatch q) (lenOf pd_22 rfl) rfl rfl rfl (fun v105 h106 s107 q108 => ?_)
  obtain ⟨s109, d110, k111, rfl, rfl, E112, g113, F114, F115, F116, F117⟩ := q108
  show Go _ _ _ _ _ _ _ _ _ _ _ _ h106 [] 3 12 7 _ [(.ref s109)]
  refine go_retA d14_7 [] rfl rfl rfl rfl (by decide) (by decide) (fun _ q => nomatch q) ?_
  exact ⟨s109, d110, _, rfl, rfl, (ext_of_keep ((Keep.refl h []).ext E112)), g113, F114, F115, F116, F117⟩
set_option maxRecDepth 65536 in
set_option maxHeartbeats 4000000 in
theorem c_bd_1 (hB : Base Z a0) (b0 b1 b2 b3 b4 b5 : Nat) (hb0 : b0 < 256) (hb1 : b1 < 256) (hb2 : b2 < 256) (hb3 : b3 < 256) (hb4 : b4 < 256) (hb5 : b5 < 256) {s d : Addr} {k : ClassId} {h : Heap} (E : Exa Z h s "java/lang/String") (C : Fld Z h s "java/lang/String" "coder" "B" (.int 0)) (V : Fld Z h s "java/lang/String" "value" "[B" (.ref d)) (A : Arv Z h d k .byte 4 [(lv (T (X0 b0))), (lv (T (X1 b0 0))), (lv (61 : Int32)), (lv (61 : Int32))] (.int 0)) (X : Exa Z h d "[B") :
    ConH l Z ELc n0 (⟨"com/example/cardea/cardea/Base64Text", "decode", "(Ljava/lang/String;)[B"⟩ : MethodName) kbx1 3 (Option.some (FieldType.array FieldType.byte)) [(0, 8, 11, 29)] (⟨6, 5, 21, 89⟩ : Room) #[.ref s] h [] (fun v h' sf' => ∃ r kr, v = some (.ref r) ∧ sf' = [] ∧ Ext h h' ∧ Arv Z h' r kr .byte 1 [(lv (Int32.ofNat b0))] (.int 0)) := by
  refine con_ofAH hB (ls := #[.val (.ref s), .unset, .unset]) (fun m => by simp [entryFrame, mkF, argsToLocals, Value.category]) ?_
  show Go _ _ _ _ _ _ "com/example/cardea/cardea/Base64Text" kbx1 3 _ "decode" _ h [] 0 0 0 #[vr s, .unset, .unset] []
  obtain ⟨dc, SD, D0⟩ := hB.2.2.2.2.1
  obtain ⟨is, SI, IX⟩ := hB.2.2.2.2.2.1
  obtain ⟨ut, SU, UX⟩ := hB.2.2.2.2.2.2.1
  obtain ⟨ec, SE, E0⟩ := hB.2.2.2.2.2.2.2.2.1
  refine Go.old (fun hOld => ?_)
  obtain ⟨DX, D1, D2⟩ := id D0
  have DXh := Exa.ext hOld.2 DX
  have D1h := Fld.ext hOld.2 D1
  have D2h := Fld.ext hOld.2 D2
  obtain ⟨EX, E1, E3, E4⟩ := id E0
  have EXh := Exa.ext hOld.2 EX
  have E1h := Fld.ext hOld.2 E1
  have E3h := Fld.ext hOld.2 E3
  have E4h := Fld.ext hOld.2 E4
  refine go_static [] [] 0 dx1_0 rfl (wd hB 29 rfl) (wd hB 30 rfl) (wd hB 31 rfl) (wd hB 32 rfl) (c_gd hB SD) (fun _ q => nomatch q) (lenOf pd_23 rfl) rfl rfl rfl (fun v101 h102 s103 q104 => ?_)
  obtain ⟨rfl, rfl, rfl⟩ := q104
  show Go _ _ _ _ _ _ _ _ _ _ _ _ h [] 0 0 3 _ [(.ref dc)]
  refine go_aloadN dx1_3 rfl rfl rfl ?_
  refine go_virtual dc [(.ref s)] [] 0 dx1_4 rfl DXh (wd hB 35 rfl) (wd hB 36 rfl) (nf_of (wd hB 38 rfl)) (wd hB 38 rfl) (wd hB 37 rfl) (wd hB 34 rfl) (wd hB 39 rfl) (c_ds_1 hB b0 b1 b2 b3 b4 b5 hb0 hb1 hb2 hb3 hb4 hb5 D0 SI SU IX UX E C V A X) (fun _ q => nomatch q) (lenOf pd_24 rfl) rfl rfl rfl (fun v105 h106 s107 q108 => ?_)
  obtain ⟨r109, k110, rfl, rfl, E111, g112, A113⟩ := q108
  show Go _ _ _ _ _ _ _ _ _ _ _ _ h106 [] 2 9 7 _ [(.ref r109)]
  refine go_astoreN dx1_7 rfl #[vr s, vr r109, .unset] rfl rfl ?_
  refine go_goto (pt := 22) dx1_8 ?_
  refine go_aloadN dx1_22 rfl rfl rfl ?_
  refine go_static [(.ref r109)] [] 0 dx1_23 rfl (wd hB 92 rfl) (wd hB 93 rfl) (wd hB 27 rfl) (wd hB 94 rfl) (c_be_1 hB b0 b1 b2 b3 b4 b5 hb0 hb1 hb2 hb3 hb4 hb5 E0 SE A113) (fun _ q => nomatch q) (lenOf pd_22 rfl) rfl rfl rfl (fun v114 h115 s116 q117 => ?_)
  obtain ⟨s118, d119, k120, rfl, rfl, E121, g122, F123, F124, F125, F126⟩ := q117
  show Go _ _ _ _ _ _ _ _ _ _ _ _ h115 [] 5 21 26 _ [(.ref s118)]
  refine go_aloadN dx1_26 rfl rfl rfl ?_
  have F127 := (Exa.ext E121 (Exa.ext E111 E))
  have F128 := (Fld.ext E121 (Fld.ext E111 C))
  have F129 := (Fld.ext E121 (Fld.ext E111 V))
  have F130 := ((A.ext E111).ext E121)
  refine go_virtual s118 [(.ref s)] [] 0 dx1_27 rfl F123 (wd hB 146 rfl) (wd hB 147 rfl) (nf_of (wd hB 149 rfl)) (wd hB 149 rfl) (wd hB 148 rfl) (wd hB 6 rfl) (wd hB 150 rfl) (c_seq_4 hB (Ne.symm (Nat.ne_of_lt (Nat.lt_of_lt_of_le (Nat.lt_of_lt_of_le E.lt E111.1) g122))) F123 F124 F125 F126 F127 F128 F129 F130) (fun _ q => nomatch q) (lenOf pd_25 rfl) rfl rfl rfl (fun v131 h132 s133 q134 => ?_)
  obtain ⟨rfl, rfl, rfl⟩ := q134
  show Go _ _ _ _ _ _ _ _ _ _ _ _ h115 [] 5 21 30 _ [(.int 1)]
  refine go_if_ne_t (pt := 43) dx1_30 (by decide) ?_
  refine go_aloadN dx1_43 rfl rfl rfl ?_
  have F135 := (A113.ext E121)
  refine go_retA dx1_44 [] rfl rfl rfl rfl (by decide) (by decide) (fun _ q => nomatch q) ?_
  exact ⟨_, _, rfl, rfl, (ext_of_keep (((Keep.refl h []).ext E111).ext E121)), F135⟩
set_option maxRecDepth 65536 in
set_option maxHeartbeats 4000000 in
theorem c_ae_2_2 (hB : Base Z a0) {h : Heap} :
    Con l Z ELc n0 (⟨"java/lang/Math", "addExact", "(II)I"⟩ : MethodName) kb18 3 (Option.some FieldType.int) [] (⟨0, 0, 0, 0⟩ : Room) #[.int 2, .int 2] h [] (fun v h' sf' => v = some (.int 4) ∧ sf' = [] ∧ h = h') := by
  refine con_ofA hB (ls := #[.val (.int 2), .val (.int 2), .unset]) (fun m => by simp [entryFrame, mkF, argsToLocals, Value.category]) ?_
  show Go _ _ _ _ _ _ "java/lang/Math" kb18 3 _ "addExact" _ h [] 0 0 0 #[vi 2, vi 2, .unset] []
  refine go_iloadN d18_0 rfl rfl ?_
  refine go_iloadN d18_1 rfl rfl ?_
  refine go_iadd d18_2 rfl (go_eq (y := 4) (by decide) ?_)
  refine go_istoreN d18_3 rfl #[vi 2, vi 2, vi 4] rfl ?_
  refine go_iloadN d18_4 rfl rfl ?_
  refine go_iloadN d18_5 rfl rfl ?_
  refine go_ixor d18_6 rfl (go_eq (y := 6) (by decide) ?_)
  refine go_iloadN d18_7 rfl rfl ?_
  refine go_iloadN d18_8 rfl rfl ?_
  refine go_ixor d18_9 rfl (go_eq (y := 6) (by decide) ?_)
  refine go_iand d18_10 rfl (go_eq (y := 6) (by decide) ?_)
  refine go_if_ge_t (pt := 24) d18_11 (by decide) ?_
  refine go_iloadN d18_24 rfl rfl ?_
  refine go_retI d18_25 [] rfl (by decide) (by decide) (fun _ q => nomatch q) ?_
  exact ⟨rfl, rfl, rfl⟩
set_option maxRecDepth 65536 in
set_option maxHeartbeats 4000000 in
theorem c_eol_2 (hB : Base Z a0) {ec : Addr} (E0 : IsEnc Z ec) {h : Heap} :
    ConH l Z ELc n0 (⟨"java/util/Base64$Encoder", "encodedOutLength", "(IZ)I"⟩ : MethodName) kbx2 5 (Option.some FieldType.int) [(2, 79, 82, 33)] (⟨1, 0, 0, 15⟩ : Room) #[.ref ec, .int 2, .int 1] h [] (fun v h' sf' => v = some (.int 4) ∧ sf' = [] ∧ h = h') := by
  refine con_ofAH hB (ls := #[.val (.ref ec), .val (.int 2), .val (.int 1), .unset, .unset]) (fun m => by simp [entryFrame, mkF, argsToLocals, Value.category]) ?_
  show Go _ _ _ _ _ _ "java/util/Base64$Encoder" kbx2 5 _ "encodedOutLength" _ h [] 0 0 0 #[vr ec, vi 2, vi 1, .unset, .unset] []
  refine Go.old (fun hOld => ?_)
  obtain ⟨EX, E1, E3, E4⟩ := id E0
  have EXh := Exa.ext hOld.2 EX
  have E1h := Fld.ext hOld.2 E1
  have E3h := Fld.ext hOld.2 E3
  have E4h := Fld.ext hOld.2 E4
  refine go_iconst 0 dx2_0 rfl ?_
  refine go_istoreN dx2_1 rfl #[vr ec, vi 2, vi 1, vi 0, .unset] rfl ?_
  refine go_aloadN dx2_2 rfl rfl rfl ?_
  refine go_getfield dx2_3 rfl (wd hB 115 rfl) Via.refl E4h ?_
  refine go_if_eq_f dx2_6 rfl (by decide) ?_
  refine go_iconst 4 dx2_9 rfl ?_
  refine go_iloadN dx2_10 rfl rfl ?_
  refine go_iconst 2 dx2_11 rfl ?_
  refine go_static [(.int 2), (.int 2)] [(.int 4)] 1 dx2_12 rfl (wd hB 117 rfl) (wd hB 118 rfl) (wd hB 119 rfl) (wd hB 120 rfl) (c_ae_2_2 hB) (fun _ q => nomatch q) (lenOf pd_18 rfl) rfl rfl rfl (fun v101 h102 s103 q104 => ?_)
  obtain ⟨rfl, rfl, rfl⟩ := q104
  show Go _ _ _ _ _ _ _ _ _ _ _ _ h [] 0 0 15 _ [(.int 4), (.int 4)]
  refine go_iconst 3 dx2_15 rfl ?_
  refine go_idiv dx2_16 rfl (by decide) (go_eq (y := 1) (by decide) ?_)
  refine go_static [(.int 4), (.int 1)] [] 0 dx2_17 rfl (wd hB 121 rfl) (wd hB 122 rfl) (wd hB 119 rfl) (wd hB 123 rfl) (c_me_4_1 hB) (fun _ q => nomatch q) (lenOf pd_18 rfl) rfl rfl rfl (fun v105 h106 s107 q108 => ?_)
  obtain ⟨rfl, rfl, rfl⟩ := q108
  show Go _ _ _ _ _ _ _ _ _ _ _ _ h [] 0 0 20 _ [(.int 4)]
  refine go_istoreN dx2_20 rfl #[vr ec, vi 2, vi 1, vi 4, .unset] rfl ?_
  refine go_goto (pt := 53) dx2_21 ?_
  refine go_aloadN dx2_53 rfl rfl rfl ?_
  refine go_getfield dx2_54 rfl (wd hB 124 rfl) Via.refl E3h ?_
  refine go_if_le_t (pt := 79) dx2_57 (by decide) ?_
  refine go_goto (pt := 100) dx2_79 ?_
  refine go_iloadN dx2_100 rfl rfl ?_
  refine go_retI dx2_101 [] rfl (by decide) (by decide) (fun _ q => nomatch q) ?_
  exact ⟨rfl, rfl, rfl⟩
set_option maxRecDepth 65536 in
set_option maxHeartbeats 4000000 in
theorem c_e0_2 (hB : Base Z a0) (b0 b1 b2 b3 b4 b5 : Nat) (hb0 : b0 < 256) (hb1 : b1 < 256) (hb2 : b2 < 256) (hb3 : b3 < 256) (hb4 : b4 < 256) (hb5 : b5 < 256) {ec : Addr} (E0 : IsEnc Z ec) {src dst : Addr} {ks kd : ClassId} (hsd : src ≠ dst) {h : Heap} (A : Arv Z h src ks .byte 2 [(lv (Int32.ofNat b0)), (lv (Int32.ofNat b1))] (.int 0)) (B : Arv Z h dst kd .byte 4 [(.int 0), (.int 0), (.int 0), (.int 0)] (.int 0)) :
    Con l Z ELc n0 (⟨"java/util/Base64$Encoder", "encode0", "([BII[B)I"⟩ : MethodName) kb20 16 (Option.some FieldType.int) [] (⟨0, 0, 0, 0⟩ : Room) #[.ref ec, .ref src, .int 0, .int 2, .ref dst] h [dst] (fun v h' sf' => v = some (.int 4) ∧ sf' = [] ∧ Keep h h' [dst] ∧ Arv Z h' dst kd .byte 4 [(lv (T (X0 b0))), (lv (T (X1 b0 b1))), (lv (T (X2 b1 0))), (lv (61 : Int32))] (.int 0)) := by
  refine con_ofA hB (ls := #[.val (.ref ec), .val (.ref src), .val (.int 0), .val (.int 2), .val (.ref dst), .unset, .unset, .unset, .unset, .unset, .unset, .unset, .unset, .unset, .unset, .unset]) (fun m => by simp [entryFrame, mkF, argsToLocals, Value.category]) ?_
  show Go _ _ _ _ _ _ "java/util/Base64$Encoder" kb20 16 _ "encode0" _ h [dst] 0 0 0 #[vr ec, vr src, vi 0, vi 2, vr dst, .unset, .unset, .unset, .unset, .unset, .unset, .unset, .unset, .unset, .unset, .unset] []
  have lt101 : X0 b0 < 64 := (x0_lt hb0)
  have lt102 : X1 b0 b1 < 64 := (x1_lt hb0 hb1)
  have lt103 : X2 b1 0 < 64 := (x2_lt hb1 (by decide : 0 < 256))
  refine Go.owned (fun hOw => ?_)
  have hge := (hOw dst (List.Mem.head _)).2
  refine Go.old (fun hOld => ?_)
  obtain ⟨EX, E1, E3, E4⟩ := id E0
  have EXh := Exa.ext hOld.2 EX
  have E1h := Fld.ext hOld.2 E1
  have E3h := Fld.ext hOld.2 E3
  have E4h := Fld.ext hOld.2 E4
  obtain ⟨tb, kt, hSt, hAt⟩ := hB.2.2.2.2.2.2.2.2.2.1
  have hAu := hAt.ext hOld.2
  refine go_aloadN d20_0 rfl rfl rfl ?_
  refine go_getfield d20_1 rfl (wd hB 131 rfl) Via.refl E1h ?_
  refine go_if_eq_t (pt := 13) d20_4 (by decide) ?_
  refine go_getstatic d20_13 rfl (wd hB 133 rfl) Via.refl hSt ?_
  refine go_astore d20_16 rfl #[vr ec, vr src, vi 0, vi 2, vr dst, vr tb, .unset, .unset, .unset, .unset, .unset, .unset, .unset, .unset, .unset, .unset] rfl rfl ?_
  refine go_iloadN d20_18 rfl rfl ?_
  refine go_istore d20_19 rfl #[vr ec, vr src, vi 0, vi 2, vr dst, vr tb, vi 0, .unset, .unset, .unset, .unset, .unset, .unset, .unset, .unset, .unset] rfl ?_
  refine go_iloadN d20_21 rfl rfl ?_
  refine go_iloadN d20_22 rfl rfl ?_
  refine go_isub d20_23 rfl (go_eq (y := 2) (by decide) ?_)
  refine go_iconst 3 d20_24 rfl ?_
  refine go_idiv d20_25 rfl (by decide) (go_eq (y := 0) (by decide) ?_)
  refine go_iconst 3 d20_26 rfl ?_
  refine go_imul d20_27 rfl (go_eq (y := 0) (by decide) ?_)
  refine go_istore d20_28 rfl #[vr ec, vr src, vi 0, vi 2, vr dst, vr tb, vi 0, vi 0, .unset, .unset, .unset, .unset, .unset, .unset, .unset, .unset] rfl ?_
  refine go_iloadN d20_30 rfl rfl ?_
  refine go_iload d20_31 rfl rfl ?_
  refine go_iadd d20_33 rfl (go_eq (y := 0) (by decide) ?_)
  refine go_istore d20_34 rfl #[vr ec, vr src, vi 0, vi 2, vr dst, vr tb, vi 0, vi 0, vi 0, .unset, .unset, .unset, .unset, .unset, .unset, .unset] rfl ?_
  refine go_aloadN d20_36 rfl rfl rfl ?_
  refine go_getfield d20_37 rfl (wd hB 124 rfl) Via.refl E3h ?_
  refine go_if_le_t (pt := 66) d20_40 (by decide) ?_
  refine go_iconst 0 d20_66 rfl ?_
  refine go_istore d20_67 rfl #[vr ec, vr src, vi 0, vi 2, vr dst, vr tb, vi 0, vi 0, vi 0, vi 0, .unset, .unset, .unset, .unset, .unset, .unset] rfl ?_
  refine go_iload d20_69 rfl rfl ?_
  refine go_iload d20_71 rfl rfl ?_
  refine go_icmp_ge_t (pt := 189) d20_73 (by decide) ?_
  refine go_iload d20_189 rfl rfl ?_
  refine go_iloadN d20_191 rfl rfl ?_
  refine go_icmp_ge_f d20_192 rfl (by decide) ?_
  refine go_aloadN d20_195 rfl rfl rfl ?_
  refine go_iload d20_196 rfl rfl ?_
  refine go_iincV 1 1 d20_198 rfl #[vr ec, vr src, vi 0, vi 2, vr dst, vr tb, vi 1, vi 0, vi 0, vi 0, .unset, .unset, .unset, .unset, .unset, .unset] (by decide) rfl (by decide) rfl ?_
  refine go_baload (v := (.int ((Int32.ofNat b0).toInt8.toInt32))) 0 d20_201 rfl A ⟨by decide, by decide⟩ (by decide) rfl ?_
  refine go_sipush 255 d20_202 rfl ?_
  refine go_iand d20_205 rfl (go_eq (y := Int32.ofNat b0) (B_isC hb0).back ?_)
  refine go_istore d20_206 rfl #[vr ec, vr src, vi 0, vi 2, vr dst, vr tb, vi 1, vi 0, vi 0, vi 0, vi (Int32.ofNat b0), .unset, .unset, .unset, .unset, .unset] rfl ?_
  refine go_aload d20_208 rfl rfl rfl ?_
  refine go_iload d20_210 rfl rfl ?_
  refine go_iincV 1 1 d20_212 rfl #[vr ec, vr src, vi 0, vi 2, vr dst, vr tb, vi 1, vi 0, vi 0, vi 1, vi (Int32.ofNat b0), .unset, .unset, .unset, .unset, .unset] (by decide) rfl (by decide) rfl ?_
  refine go_aload d20_215 rfl rfl rfl ?_
  refine go_iload d20_217 rfl rfl ?_
  refine go_iconst 2 d20_219 rfl ?_
  refine go_ishr d20_220 rfl (go_eq (y := Int32.ofNat (X0 b0)) (shrE (k := 2) (by decide) (by decide) (by omega) rfl) ?_)
  refine go_caload (v := (.int (T (X0 b0)))) (X0 b0) d20_221 rfl hAu (N_in lt101) (N_cl lt101) (tb_at lt101) ?_
  refine go_i2b d20_222 rfl ?_
  refine go_bastoreV 0 ((T (X0 b0)).toInt8.toInt32) d20_223 rfl (i8i8 _) B ⟨by decide, by decide⟩ (by decide) (by show 0 < 4; decide) (List.Mem.head _) ?_
  intro h104 W105 B106
  have B107 : Arv Z h104 dst kd .byte 4 [(lv (T (X0 b0))), (.int 0), (.int 0), (.int 0)] (.int 0) := B106
  refine go_iload d20_224 rfl rfl ?_
  refine go_iloadN d20_226 rfl rfl ?_
  refine go_icmp_ne_t (pt := 279) d20_227 (by decide) ?_
  refine go_aloadN d20_279 rfl rfl rfl ?_
  refine go_iload d20_280 rfl rfl ?_
  refine go_iincV 1 2 d20_282 rfl #[vr ec, vr src, vi 0, vi 2, vr dst, vr tb, vi 2, vi 0, vi 0, vi 1, vi (Int32.ofNat b0), .unset, .unset, .unset, .unset, .unset] (by decide) rfl (by decide) rfl ?_
  have F108 := (Arv.other A W105 hsd)
  refine go_baload (v := (.int ((Int32.ofNat b1).toInt8.toInt32))) 1 d20_285 rfl F108 ⟨by decide, by decide⟩ (by decide) rfl ?_
  refine go_sipush 255 d20_286 rfl ?_
  refine go_iand d20_289 rfl (go_eq (y := Int32.ofNat b1) (B_isC hb1).back ?_)
  refine go_istore d20_290 rfl #[vr ec, vr src, vi 0, vi 2, vr dst, vr tb, vi 2, vi 0, vi 0, vi 1, vi (Int32.ofNat b0), vi (Int32.ofNat b1), .unset, .unset, .unset, .unset] rfl ?_
  refine go_aload d20_292 rfl rfl rfl ?_
  refine go_iload d20_294 rfl rfl ?_
  refine go_iincV 1 2 d20_296 rfl #[vr ec, vr src, vi 0, vi 2, vr dst, vr tb, vi 2, vi 0, vi 0, vi 2, vi (Int32.ofNat b0), vi (Int32.ofNat b1), .unset, .unset, .unset, .unset] (by decide) rfl (by decide) rfl ?_
  refine go_aload d20_299 rfl rfl rfl ?_
  refine go_iload d20_301 rfl rfl ?_
  refine go_iconst 4 d20_303 rfl ?_
  refine go_ishl d20_304 rfl (go_eq (y := Int32.ofNat (b0 * 16)) (shlE (k := 4) (by decide) (by decide) (by omega) rfl (by omega)) ?_)
  refine go_bipush 63 d20_305 rfl ?_
  refine go_iand d20_307 rfl (go_eq (y := Int32.ofNat (b0 % 4 * 16)) (and63 (by omega) (by omega)) ?_)
  refine go_iload d20_308 rfl rfl ?_
  refine go_iconst 4 d20_310 rfl ?_
  refine go_ishr d20_311 rfl (go_eq (y := Int32.ofNat (b1 / 16)) (shrE (k := 4) (by decide) (by decide) (by omega) rfl) ?_)
  refine go_ior d20_312 rfl (go_eq (y := Int32.ofNat (X1 b0 b1)) (orE (k := 4) (by omega) (by omega) rfl (x_lt31 lt102)) ?_)
  have F109 := (Arv.other hAu W105 (old_ne hOld hAt.lt hge))
  refine go_caload (v := (.int (T (X1 b0 b1)))) (X1 b0 b1) d20_313 rfl F109 (N_in lt102) (N_cl lt102) (tb_at lt102) ?_
  refine go_i2b d20_314 rfl ?_
  refine go_bastoreV 1 ((T (X1 b0 b1)).toInt8.toInt32) d20_315 rfl (i8i8 _) B107 ⟨by decide, by decide⟩ (by decide) (by show 1 < 4; decide) (List.Mem.head _) ?_
  intro h110 W111 B112
  have B113 : Arv Z h110 dst kd .byte 4 [(lv (T (X0 b0))), (lv (T (X1 b0 b1))), (.int 0), (.int 0)] (.int 0) := B112
  refine go_aload d20_316 rfl rfl rfl ?_
  refine go_iload d20_318 rfl rfl ?_
  refine go_iincV 1 3 d20_320 rfl #[vr ec, vr src, vi 0, vi 2, vr dst, vr tb, vi 2, vi 0, vi 0, vi 3, vi (Int32.ofNat b0), vi (Int32.ofNat b1), .unset, .unset, .unset, .unset] (by decide) rfl (by decide) rfl ?_
  refine go_aload d20_323 rfl rfl rfl ?_
  refine go_iload d20_325 rfl rfl ?_
  refine go_iconst 2 d20_327 rfl ?_
  refine go_ishl d20_328 rfl (go_eq (y := Int32.ofNat (b1 * 4)) (shlE (k := 2) (by decide) (by decide) (by omega) rfl (by omega)) ?_)
  refine go_bipush 63 d20_329 rfl ?_
  refine go_iand d20_331 rfl (go_eq (y := Int32.ofNat (X2 b1 0)) (and63 (by omega) (by simp only [X0, X1, X2, X3] <;> omega)) ?_)
  have F114 := (Arv.other F109 W111 (old_ne hOld hAt.lt hge))
  refine go_caload (v := (.int (T (X2 b1 0)))) (X2 b1 0) d20_332 rfl F114 (N_in lt103) (N_cl lt103) (tb_at lt103) ?_
  refine go_i2b d20_333 rfl ?_
  refine go_bastoreV 2 ((T (X2 b1 0)).toInt8.toInt32) d20_334 rfl (i8i8 _) B113 ⟨by decide, by decide⟩ (by decide) (by show 2 < 4; decide) (List.Mem.head _) ?_
  intro h115 W116 B117
  have B118 : Arv Z h115 dst kd .byte 4 [(lv (T (X0 b0))), (lv (T (X1 b0 b1))), (lv (T (X2 b1 0))), (.int 0)] (.int 0) := B117
  refine go_aloadN d20_335 rfl rfl rfl ?_
  have F119 := (Fld.other W116 (Fld.other W111 (Fld.other W105 E4h (Or.inl (old_ne hOld EX.lt hge))) (Or.inl (old_ne hOld EX.lt hge))) (Or.inl (old_ne hOld EX.lt hge)))
  refine go_getfield d20_336 rfl (wd hB 115 rfl) Via.refl F119 ?_
  refine go_if_eq_f d20_339 rfl (by decide) ?_
  refine go_aload d20_342 rfl rfl rfl ?_
  refine go_iload d20_344 rfl rfl ?_
  refine go_iincV 1 4 d20_346 rfl #[vr ec, vr src, vi 0, vi 2, vr dst, vr tb, vi 2, vi 0, vi 0, vi 4, vi (Int32.ofNat b0), vi (Int32.ofNat b1), .unset, .unset, .unset, .unset] (by decide) rfl (by decide) rfl ?_
  refine go_bipush 61 d20_349 rfl ?_
  refine go_bastoreV 3 ((61 : Int32).toInt8.toInt32) d20_351 rfl rfl B118 ⟨by decide, by decide⟩ (by decide) (by show 3 < 4; decide) (List.Mem.head _) ?_
  intro h120 W121 B122
  have B123 : Arv Z h120 dst kd .byte 4 [(lv (T (X0 b0))), (lv (T (X1 b0 b1))), (lv (T (X2 b1 0))), (lv (61 : Int32))] (.int 0) := B122
  refine go_iload d20_352 rfl rfl ?_
  refine go_retI d20_354 [] rfl (by decide) (by decide) (fun _ q => nomatch q) ?_
  exact ⟨rfl, rfl, (((((Keep.refl h [dst]).wr W105 (Or.inl (List.Mem.head _))).wr W111 (Or.inl (List.Mem.head _))).wr W116 (Or.inl (List.Mem.head _))).wr W121 (Or.inl (List.Mem.head _))), B123⟩
set_option maxRecDepth 65536 in
set_option maxHeartbeats 4000000 in
theorem c_ea_2 (hB : Base Z a0) (b0 b1 b2 b3 b4 b5 : Nat) (hb0 : b0 < 256) (hb1 : b1 < 256) (hb2 : b2 < 256) (hb3 : b3 < 256) (hb4 : b4 < 256) (hb5 : b5 < 256) {ec : Addr} (E0 : IsEnc Z ec) {src : Addr} {ks : ClassId} {h : Heap} (A : Arv Z h src ks .byte 2 [(lv (Int32.ofNat b0)), (lv (Int32.ofNat b1))] (.int 0)) :
    Con l Z ELc n0 (⟨"java/util/Base64$Encoder", "encode", "([B)[B"⟩ : MethodName) kb17 5 (Option.some (FieldType.array FieldType.byte)) [] (⟨2, 1, 4, 31⟩ : Room) #[.ref ec, .ref src] h [] (fun v h' sf' => ∃ r kr, v = some (.ref r) ∧ sf' = [] ∧ Ext h h' ∧ h.size ≤ r ∧ Exa Z h' r "[B" ∧ Arv Z h' r kr .byte 4 [(lv (T (X0 b0))), (lv (T (X1 b0 b1))), (lv (T (X2 b1 0))), (lv (61 : Int32))] (.int 0)) := by
  refine con_ofA hB (ls := #[.val (.ref ec), .val (.ref src), .unset, .unset, .unset]) (fun m => by simp [entryFrame, mkF, argsToLocals, Value.category]) ?_
  show Go _ _ _ _ _ _ "java/util/Base64$Encoder" kb17 5 _ "encode" _ h [] 0 0 0 #[vr ec, vr src, .unset, .unset, .unset] []
  refine Go.old (fun hOld => ?_)
  obtain ⟨EX, E1, E3, E4⟩ := id E0
  have EXh := Exa.ext hOld.2 EX
  have E1h := Fld.ext hOld.2 E1
  have E3h := Fld.ext hOld.2 E3
  have E4h := Fld.ext hOld.2 E4
  refine go_aloadN d17_0 rfl rfl rfl ?_
  refine go_aloadN d17_1 rfl rfl rfl ?_
  refine go_alen d17_2 rfl A ?_
  refine go_iconst 1 d17_3 rfl ?_
  refine go_virtualH ec [(.int 2), (.int 1)] [] 0 d17_4 rfl EXh (wd hB 110 rfl) (declares_ofH (wd hB 111 rfl) (wd hB 114 rfl)) (nf_of (wd hB 113 rfl)) (wd hB 113 rfl) (wd hB 111 rfl) (wd hB 99 rfl) (wd hB 114 rfl) (c_eol_2 hB E0) (fun _ q => nomatch q) (lenOf pd_19 rfl) rfl rfl rfl (fun v101 h102 s103 q104 => ?_)
  obtain ⟨rfl, rfl, rfl⟩ := q104
  show Go _ _ _ _ _ _ _ _ _ _ _ _ h [] 0 0 7 _ [(.int 4)]
  refine go_istoreN d17_7 rfl #[vr ec, vr src, vi 4, .unset, .unset] rfl ?_
  refine go_iloadN d17_8 rfl rfl ?_
  refine go_newarr (ty := .byte) (ad := "[B") 4 d17_9 rfl rfl (wd hB 18 rfl) (by decide) (by decide) (by decide) (by decide) (by decide) (by decide) ?_
  intro h110 x105 hx106 E107 ⟨A108, k109, B111⟩
  have B112 : Arv Z h110 x105 k109 .byte 4 [(.int 0), (.int 0), (.int 0), (.int 0)] (.int 0) := B111.pad (pad_rep [] (.int 0) 4)
  refine go_astoreN d17_11 rfl #[vr ec, vr src, vi 4, vr x105, .unset] rfl rfl ?_
  refine go_aloadN d17_12 rfl rfl rfl ?_
  refine go_aloadN d17_13 rfl rfl rfl ?_
  refine go_iconst 0 d17_14 rfl ?_
  refine go_aloadN d17_15 rfl rfl rfl ?_
  have F113 := (A.ext E107)
  refine go_alen d17_16 rfl F113 ?_
  refine go_aloadN d17_17 rfl rfl rfl ?_
  have F118 := (Exa.ext E107 EXh)
  refine go_virtual ec [(.ref src), (.int 0), (.int 2), (.ref x105)] [] 0 d17_18 rfl F118 (wd hB 126 rfl) (declares_of (wd hB 127 rfl) (wd hB 130 rfl)) (nf_of (wd hB 129 rfl)) (wd hB 129 rfl) (wd hB 127 rfl) (wd hB 99 rfl) (wd hB 130 rfl) (c_e0_2 hB b0 b1 b2 b3 b4 b5 hb0 hb1 hb2 hb3 hb4 hb5 E0 (Nat.ne_of_lt (Nat.lt_of_lt_of_le A.lt (Nat.le_of_eq hx106.symm))) F113 B112) (allS (List.Mem.head _) (fun _ q => nomatch q)) (lenOf pd_10 rfl) rfl rfl rfl (fun v114 h115 s116 q117 => ?_)
  obtain ⟨rfl, rfl, K119, B120⟩ := q117
  show Go _ _ _ _ _ _ _ _ _ _ _ _ h115 [x105] 1 4 21 _ [(.int 4)]
  refine go_istore d17_21 rfl #[vr ec, vr src, vi 4, vr x105, vi 4] rfl ?_
  refine go_iload d17_23 rfl rfl ?_
  refine go_aloadN d17_25 rfl rfl rfl ?_
  refine go_alen d17_26 rfl B120 ?_
  refine go_icmp_eq_t (pt := 37) d17_27 (by decide) ?_
  refine go_aloadN d17_37 rfl rfl rfl ?_
  have F121 := (A108.keep K119)
  refine go_retA d17_38 [] rfl rfl rfl rfl (by decide) (by decide) (fun _ q => nomatch q) ?_
  exact ⟨_, _, rfl, rfl, (ext_of_keep (((Keep.refl h []).ext E107).trans K119 (allS (Or.inr (Nat.le_of_eq hx106.symm)) all0))), (Nat.le_of_eq hx106.symm), F121, B120⟩
set_option maxRecDepth 65536 in
set_option maxHeartbeats 4000000 in
theorem c_es_2 (hB : Base Z a0) (b0 b1 b2 b3 b4 b5 : Nat) (hb0 : b0 < 256) (hb1 : b1 < 256) (hb2 : b2 < 256) (hb3 : b3 < 256) (hb4 : b4 < 256) (hb5 : b5 < 256) {ec : Addr} (E0 : IsEnc Z ec) {src : Addr} {ks : ClassId} {h : Heap} (A : Arv Z h src ks .byte 2 [(lv (Int32.ofNat b0)), (lv (Int32.ofNat b1))] (.int 0)) :
    Con l Z ELc n0 (⟨"java/util/Base64$Encoder", "encodeToString", "([B)Ljava/lang/String;"⟩ : MethodName) kb16 3 (Option.some (FieldType.object "java/lang/String")) [] (⟨3, 3, 12, 48⟩ : Room) #[.ref ec, .ref src] h [] (fun v h' sf' => ∃ s d kd, v = some (.ref s) ∧ sf' = [] ∧ Ext h h' ∧ h.size ≤ s ∧ Exa Z h' s "java/lang/String" ∧ Fld Z h' s "java/lang/String" "coder" "B" (.int 0) ∧ Fld Z h' s "java/lang/String" "value" "[B" (.ref d) ∧ Arv Z h' d kd .byte 4 [(lv (T (X0 b0))), (lv (T (X1 b0 b1))), (lv (T (X2 b1 0))), (lv (61 : Int32))] (.int 0)) := by
  refine con_ofA hB (ls := #[.val (.ref ec), .val (.ref src), .unset]) (fun m => by simp [entryFrame, mkF, argsToLocals, Value.category]) ?_
  show Go _ _ _ _ _ _ "java/util/Base64$Encoder" kb16 3 _ "encodeToString" _ h [] 0 0 0 #[vr ec, vr src, .unset] []
  refine Go.old (fun hOld => ?_)
  obtain ⟨EX, E1, E3, E4⟩ := id E0
  have EXh := Exa.ext hOld.2 EX
  have E1h := Fld.ext hOld.2 E1
  have E3h := Fld.ext hOld.2 E3
  have E4h := Fld.ext hOld.2 E4
  refine go_aloadN d16_0 rfl rfl rfl ?_
  refine go_aloadN d16_1 rfl rfl rfl ?_
  refine go_virtual ec [(.ref src)] [] 0 d16_2 rfl EXh (wd hB 105 rfl) (wd hB 106 rfl) (nf_of (wd hB 108 rfl)) (wd hB 108 rfl) (wd hB 107 rfl) (wd hB 99 rfl) (wd hB 109 rfl) (c_ea_2 hB b0 b1 b2 b3 b4 b5 hb0 hb1 hb2 hb3 hb4 hb5 E0 A) (fun _ q => nomatch q) (lenOf pd_12 rfl) rfl rfl rfl (fun v101 h102 s103 q104 => ?_)
  obtain ⟨r105, k106, rfl, rfl, E107, g108, X109, A110⟩ := q104
  show Go _ _ _ _ _ _ _ _ _ _ _ _ h102 [] 1 4 5 _ [(.ref r105)]
  refine go_astoreN d16_5 rfl #[vr ec, vr src, vr r105] rfl rfl ?_
  refine go_new d16_6 rfl (wd hB 134 rfl) (wd hB 5 rfl) (wd hB 6 rfl) (by decide) (by decide) ?_
  intro h116 x111 hx112 E113 ⟨A114, D115⟩
  have F117 : Fld Z h116 x111 "java/lang/String" "value" "[B" .null := D115 (Or.inr (wd hB 19 rfl)) (ty := (.array .byte)) (by decide)
  have F118 : Fld Z h116 x111 "java/lang/String" "coder" "B" (.int 0) := D115 (Or.inr (wd hB 20 rfl)) (ty := .byte) (by decide)
  refine go_dup d16_9 rfl rfl ?_
  refine go_aloadN d16_10 rfl rfl rfl ?_
  refine go_iconst 0 d16_11 rfl ?_
  refine go_iconst 0 d16_12 rfl ?_
  refine go_aloadN d16_13 rfl rfl rfl ?_
  have F119 := (A110.ext E113)
  refine go_alen d16_14 rfl F119 ?_
  have F120 := (Exa.ext E113 X109)
  refine go_special x111 [(.ref r105), (.int 0), (.int 0), (.int 4)] [(.ref x111)] 1 d16_15 rfl rfl (wd hB 135 rfl) (wd hB 136 rfl) (wd hB 6 rfl) (wd hB 137 rfl) (c_s3_4 hB F119 F120 A114 F117 F118) (allS (List.Mem.head _) (fun _ q => nomatch q)) (lenOf pd_20 rfl) rfl rfl rfl (fun v121 h122 s123 q124 => ?_)
  obtain ⟨rfl, rfl, K125, E126, F127, d128, k129, G130, A131⟩ := q124
  show Go _ _ _ _ _ _ _ _ _ _ _ _ h122 [x111] 3 12 18 _ [(.ref x111)]
  refine go_retA d16_18 [] rfl rfl rfl rfl (by decide) (by decide) (fun _ q => nomatch q) ?_
  exact ⟨x111, d128, k129, rfl, rfl, (ext_of_keep ((((Keep.refl h []).ext E107).ext E113).trans K125 (allS (Or.inr (Nat.le_trans E107.1 (Nat.le_of_eq hx112.symm))) all0))), (Nat.le_trans E107.1 (Nat.le_of_eq hx112.symm)), E126, F127, G130, A131⟩
set_option maxRecDepth 65536 in
set_option maxHeartbeats 4000000 in
theorem c_be_2 (hB : Base Z a0) (b0 b1 b2 b3 b4 b5 : Nat) (hb0 : b0 < 256) (hb1 : b1 < 256) (hb2 : b2 < 256) (hb3 : b3 < 256) (hb4 : b4 < 256) (hb5 : b5 < 256) {ec : Addr} (E0 : IsEnc Z ec) (SE : Sta Z Z.heap "java/util/Base64$Encoder" "RFC4648" "Ljava/util/Base64$Encoder;" (.ref ec)) {src : Addr} {ks : ClassId} {h : Heap} (A : Arv Z h src ks .byte 2 [(lv (Int32.ofNat b0)), (lv (Int32.ofNat b1))] (.int 0)) :
    Con l Z ELc n0 (⟨"com/example/cardea/cardea/Base64Text", "encode", "([B)Ljava/lang/String;"⟩ : MethodName) kb14 1 (Option.some (FieldType.object "java/lang/String")) [] (⟨4, 3, 12, 62⟩ : Room) #[.ref src] h [] (fun v h' sf' => ∃ s d kd, v = some (.ref s) ∧ sf' = [] ∧ Ext h h' ∧ h.size ≤ s ∧ Exa Z h' s "java/lang/String" ∧ Fld Z h' s "java/lang/String" "coder" "B" (.int 0) ∧ Fld Z h' s "java/lang/String" "value" "[B" (.ref d) ∧ Arv Z h' d kd .byte 4 [(lv (T (X0 b0))), (lv (T (X1 b0 b1))), (lv (T (X2 b1 0))), (lv (61 : Int32))] (.int 0)) := by
  refine con_ofA hB (ls := #[.val (.ref src)]) (fun m => by simp [entryFrame, mkF, argsToLocals, Value.category]) ?_
  show Go _ _ _ _ _ _ "com/example/cardea/cardea/Base64Text" kb14 1 _ "encode" _ h [] 0 0 0 #[vr src] []
  refine Go.old (fun hOld => ?_)
  obtain ⟨EX, E1, E3, E4⟩ := id E0
  have EXh := Exa.ext hOld.2 EX
  have E1h := Fld.ext hOld.2 E1
  have E3h := Fld.ext hOld.2 E3
  have E4h := Fld.ext hOld.2 E4
  refine go_static [] [] 0 d14_0 rfl (wd hB 95 rfl) (wd hB 96 rfl) (wd hB 31 rfl) (wd hB 97 rfl) (c_ge hB SE) (fun _ q => nomatch q) (lenOf pd_21 rfl) rfl rfl rfl (fun v101 h102 s103 q104 => ?_)
  obtain ⟨rfl, rfl, rfl⟩ := q104
  show Go _ _ _ _ _ _ _ _ _ _ _ _ h [] 0 0 3 _ [(.ref ec)]
  refine go_aloadN d14_3 rfl rfl rfl ?_
  refine go_virtual ec [(.ref src)] [] 0 d14_4 rfl EXh (wd hB 100 rfl) (wd hB 101 rfl) (nf_of (wd hB 103 rfl)) (wd hB 103 rfl) (wd hB 102 rfl) (wd hB 99 rfl) (wd hB 104 rfl) (c_es_2 hB b0 b1 b2 b3 b4 b5 hb0 hb1 hb2 hb3 hb4 hb5 E0 A) (fun _ q => nomatch q) (lenOf pd_22 rfl) rfl rfl rfl (fun v105 h106 s107 q108 => ?_)
  obtain ⟨s109, d110, k111, rfl, rfl, E112, g113, F114, F115, F116, F117⟩ := q108
  show Go _ _ _ _ _ _ _ _ _ _ _ _ h106 [] 3 12 7 _ [(.ref s109)]
  refine go_retA d14_7 [] rfl rfl rfl rfl (by decide) (by decide) (fun _ q => nomatch q) ?_
  exact ⟨s109, d110, _, rfl, rfl, (ext_of_keep ((Keep.refl h []).ext E112)), g113, F114, F115, F116, F117⟩
set_option maxRecDepth 65536 in
set_option maxHeartbeats 4000000 in
theorem c_bd_2 (hB : Base Z a0) (b0 b1 b2 b3 b4 b5 : Nat) (hb0 : b0 < 256) (hb1 : b1 < 256) (hb2 : b2 < 256) (hb3 : b3 < 256) (hb4 : b4 < 256) (hb5 : b5 < 256) {s d : Addr} {k : ClassId} {h : Heap} (E : Exa Z h s "java/lang/String") (C : Fld Z h s "java/lang/String" "coder" "B" (.int 0)) (V : Fld Z h s "java/lang/String" "value" "[B" (.ref d)) (A : Arv Z h d k .byte 4 [(lv (T (X0 b0))), (lv (T (X1 b0 b1))), (lv (T (X2 b1 0))), (lv (61 : Int32))] (.int 0)) (X : Exa Z h d "[B") :
    ConH l Z ELc n0 (⟨"com/example/cardea/cardea/Base64Text", "decode", "(Ljava/lang/String;)[B"⟩ : MethodName) kbx1 3 (Option.some (FieldType.array FieldType.byte)) [(0, 8, 11, 29)] (⟨6, 5, 22, 89⟩ : Room) #[.ref s] h [] (fun v h' sf' => ∃ r kr, v = some (.ref r) ∧ sf' = [] ∧ Ext h h' ∧ Arv Z h' r kr .byte 2 [(lv (Int32.ofNat b0)), (lv (Int32.ofNat b1))] (.int 0)) := by
  refine con_ofAH hB (ls := #[.val (.ref s), .unset, .unset]) (fun m => by simp [entryFrame, mkF, argsToLocals, Value.category]) ?_
  show Go _ _ _ _ _ _ "com/example/cardea/cardea/Base64Text" kbx1 3 _ "decode" _ h [] 0 0 0 #[vr s, .unset, .unset] []
  obtain ⟨dc, SD, D0⟩ := hB.2.2.2.2.1
  obtain ⟨is, SI, IX⟩ := hB.2.2.2.2.2.1
  obtain ⟨ut, SU, UX⟩ := hB.2.2.2.2.2.2.1
  obtain ⟨ec, SE, E0⟩ := hB.2.2.2.2.2.2.2.2.1
  refine Go.old (fun hOld => ?_)
  obtain ⟨DX, D1, D2⟩ := id D0
  have DXh := Exa.ext hOld.2 DX
  have D1h := Fld.ext hOld.2 D1
  have D2h := Fld.ext hOld.2 D2
  obtain ⟨EX, E1, E3, E4⟩ := id E0
  have EXh := Exa.ext hOld.2 EX
  have E1h := Fld.ext hOld.2 E1
  have E3h := Fld.ext hOld.2 E3
  have E4h := Fld.ext hOld.2 E4
  refine go_static [] [] 0 dx1_0 rfl (wd hB 29 rfl) (wd hB 30 rfl) (wd hB 31 rfl) (wd hB 32 rfl) (c_gd hB SD) (fun _ q => nomatch q) (lenOf pd_23 rfl) rfl rfl rfl (fun v101 h102 s103 q104 => ?_)
  obtain ⟨rfl, rfl, rfl⟩ := q104
  show Go _ _ _ _ _ _ _ _ _ _ _ _ h [] 0 0 3 _ [(.ref dc)]
  refine go_aloadN dx1_3 rfl rfl rfl ?_
  refine go_virtual dc [(.ref s)] [] 0 dx1_4 rfl DXh (wd hB 35 rfl) (wd hB 36 rfl) (nf_of (wd hB 38 rfl)) (wd hB 38 rfl) (wd hB 37 rfl) (wd hB 34 rfl) (wd hB 39 rfl) (c_ds_2 hB b0 b1 b2 b3 b4 b5 hb0 hb1 hb2 hb3 hb4 hb5 D0 SI SU IX UX E C V A X) (fun _ q => nomatch q) (lenOf pd_24 rfl) rfl rfl rfl (fun v105 h106 s107 q108 => ?_)
  obtain ⟨r109, k110, rfl, rfl, E111, g112, A113⟩ := q108
  show Go _ _ _ _ _ _ _ _ _ _ _ _ h106 [] 2 10 7 _ [(.ref r109)]
  refine go_astoreN dx1_7 rfl #[vr s, vr r109, .unset] rfl rfl ?_
  refine go_goto (pt := 22) dx1_8 ?_
  refine go_aloadN dx1_22 rfl rfl rfl ?_
  refine go_static [(.ref r109)] [] 0 dx1_23 rfl (wd hB 92 rfl) (wd hB 93 rfl) (wd hB 27 rfl) (wd hB 94 rfl) (c_be_2 hB b0 b1 b2 b3 b4 b5 hb0 hb1 hb2 hb3 hb4 hb5 E0 SE A113) (fun _ q => nomatch q) (lenOf pd_22 rfl) rfl rfl rfl (fun v114 h115 s116 q117 => ?_)
  obtain ⟨s118, d119, k120, rfl, rfl, E121, g122, F123, F124, F125, F126⟩ := q117
  show Go _ _ _ _ _ _ _ _ _ _ _ _ h115 [] 5 22 26 _ [(.ref s118)]
  refine go_aloadN dx1_26 rfl rfl rfl ?_
  have F127 := (Exa.ext E121 (Exa.ext E111 E))
  have F128 := (Fld.ext E121 (Fld.ext E111 C))
  have F129 := (Fld.ext E121 (Fld.ext E111 V))
  have F130 := ((A.ext E111).ext E121)
  refine go_virtual s118 [(.ref s)] [] 0 dx1_27 rfl F123 (wd hB 146 rfl) (wd hB 147 rfl) (nf_of (wd hB 149 rfl)) (wd hB 149 rfl) (wd hB 148 rfl) (wd hB 6 rfl) (wd hB 150 rfl) (c_seq_4 hB (Ne.symm (Nat.ne_of_lt (Nat.lt_of_lt_of_le (Nat.lt_of_lt_of_le E.lt E111.1) g122))) F123 F124 F125 F126 F127 F128 F129 F130) (fun _ q => nomatch q) (lenOf pd_25 rfl) rfl rfl rfl (fun v131 h132 s133 q134 => ?_)
  obtain ⟨rfl, rfl, rfl⟩ := q134
  show Go _ _ _ _ _ _ _ _ _ _ _ _ h115 [] 5 22 30 _ [(.int 1)]
  refine go_if_ne_t (pt := 43) dx1_30 (by decide) ?_
  refine go_aloadN dx1_43 rfl rfl rfl ?_
  have F135 := (A113.ext E121)
  refine go_retA dx1_44 [] rfl rfl rfl rfl (by decide) (by decide) (fun _ q => nomatch q) ?_
  exact ⟨_, _, rfl, rfl, (ext_of_keep (((Keep.refl h []).ext E111).ext E121)), F135⟩
set_option maxRecDepth 65536 in
set_option maxHeartbeats 4000000 in
theorem c_ae_3_2 (hB : Base Z a0) {h : Heap} :
    Con l Z ELc n0 (⟨"java/lang/Math", "addExact", "(II)I"⟩ : MethodName) kb18 3 (Option.some FieldType.int) [] (⟨0, 0, 0, 0⟩ : Room) #[.int 3, .int 2] h [] (fun v h' sf' => v = some (.int 5) ∧ sf' = [] ∧ h = h') := by
  refine con_ofA hB (ls := #[.val (.int 3), .val (.int 2), .unset]) (fun m => by simp [entryFrame, mkF, argsToLocals, Value.category]) ?_
  show Go _ _ _ _ _ _ "java/lang/Math" kb18 3 _ "addExact" _ h [] 0 0 0 #[vi 3, vi 2, .unset] []
  refine go_iloadN d18_0 rfl rfl ?_
  refine go_iloadN d18_1 rfl rfl ?_
  refine go_iadd d18_2 rfl (go_eq (y := 5) (by decide) ?_)
  refine go_istoreN d18_3 rfl #[vi 3, vi 2, vi 5] rfl ?_
  refine go_iloadN d18_4 rfl rfl ?_
  refine go_iloadN d18_5 rfl rfl ?_
  refine go_ixor d18_6 rfl (go_eq (y := 6) (by decide) ?_)
  refine go_iloadN d18_7 rfl rfl ?_
  refine go_iloadN d18_8 rfl rfl ?_
  refine go_ixor d18_9 rfl (go_eq (y := 7) (by decide) ?_)
  refine go_iand d18_10 rfl (go_eq (y := 6) (by decide) ?_)
  refine go_if_ge_t (pt := 24) d18_11 (by decide) ?_
  refine go_iloadN d18_24 rfl rfl ?_
  refine go_retI d18_25 [] rfl (by decide) (by decide) (fun _ q => nomatch q) ?_
  exact ⟨rfl, rfl, rfl⟩
set_option maxRecDepth 65536 in
set_option maxHeartbeats 4000000 in
theorem c_eol_3 (hB : Base Z a0) {ec : Addr} (E0 : IsEnc Z ec) {h : Heap} :
    ConH l Z ELc n0 (⟨"java/util/Base64$Encoder", "encodedOutLength", "(IZ)I"⟩ : MethodName) kbx2 5 (Option.some FieldType.int) [(2, 79, 82, 33)] (⟨1, 0, 0, 15⟩ : Room) #[.ref ec, .int 3, .int 1] h [] (fun v h' sf' => v = some (.int 4) ∧ sf' = [] ∧ h = h') := by
  refine con_ofAH hB (ls := #[.val (.ref ec), .val (.int 3), .val (.int 1), .unset, .unset]) (fun m => by simp [entryFrame, mkF, argsToLocals, Value.category]) ?_
  show Go _ _ _ _ _ _ "java/util/Base64$Encoder" kbx2 5 _ "encodedOutLength" _ h [] 0 0 0 #[vr ec, vi 3, vi 1, .unset, .unset] []
  refine Go.old (fun hOld => ?_)
  obtain ⟨EX, E1, E3, E4⟩ := id E0
  have EXh := Exa.ext hOld.2 EX
  have E1h := Fld.ext hOld.2 E1
  have E3h := Fld.ext hOld.2 E3
  have E4h := Fld.ext hOld.2 E4
  refine go_iconst 0 dx2_0 rfl ?_
  refine go_istoreN dx2_1 rfl #[vr ec, vi 3, vi 1, vi 0, .unset] rfl ?_
  refine go_aloadN dx2_2 rfl rfl rfl ?_
  refine go_getfield dx2_3 rfl (wd hB 115 rfl) Via.refl E4h ?_
  refine go_if_eq_f dx2_6 rfl (by decide) ?_
  refine go_iconst 4 dx2_9 rfl ?_
  refine go_iloadN dx2_10 rfl rfl ?_
  refine go_iconst 2 dx2_11 rfl ?_
  refine go_static [(.int 3), (.int 2)] [(.int 4)] 1 dx2_12 rfl (wd hB 117 rfl) (wd hB 118 rfl) (wd hB 119 rfl) (wd hB 120 rfl) (c_ae_3_2 hB) (fun _ q => nomatch q) (lenOf pd_18 rfl) rfl rfl rfl (fun v101 h102 s103 q104 => ?_)
  obtain ⟨rfl, rfl, rfl⟩ := q104
  show Go _ _ _ _ _ _ _ _ _ _ _ _ h [] 0 0 15 _ [(.int 5), (.int 4)]
  refine go_iconst 3 dx2_15 rfl ?_
  refine go_idiv dx2_16 rfl (by decide) (go_eq (y := 1) (by decide) ?_)
  refine go_static [(.int 4), (.int 1)] [] 0 dx2_17 rfl (wd hB 121 rfl) (wd hB 122 rfl) (wd hB 119 rfl) (wd hB 123 rfl) (c_me_4_1 hB) (fun _ q => nomatch q) (lenOf pd_18 rfl) rfl rfl rfl (fun v105 h106 s107 q108 => ?_)
  obtain ⟨rfl, rfl, rfl⟩ := q108
  show Go _ _ _ _ _ _ _ _ _ _ _ _ h [] 0 0 20 _ [(.int 4)]
  refine go_istoreN dx2_20 rfl #[vr ec, vi 3, vi 1, vi 4, .unset] rfl ?_
  refine go_goto (pt := 53) dx2_21 ?_
  refine go_aloadN dx2_53 rfl rfl rfl ?_
  refine go_getfield dx2_54 rfl (wd hB 124 rfl) Via.refl E3h ?_
  refine go_if_le_t (pt := 79) dx2_57 (by decide) ?_
  refine go_goto (pt := 100) dx2_79 ?_
  refine go_iloadN dx2_100 rfl rfl ?_
  refine go_retI dx2_101 [] rfl (by decide) (by decide) (fun _ q => nomatch q) ?_
  exact ⟨rfl, rfl, rfl⟩
set_option maxRecDepth 65536 in
set_option maxHeartbeats 4000000 in
theorem c_eb_3 (hB : Base Z a0) (b0 b1 b2 b3 b4 b5 : Nat) (hb0 : b0 < 256) (hb1 : b1 < 256) (hb2 : b2 < 256) (hb3 : b3 < 256) (hb4 : b4 < 256) (hb5 : b5 < 256) {ec : Addr} {src dst : Addr} {ks kd : ClassId} (hsd : src ≠ dst) {h : Heap} (A : Arv Z h src ks .byte 3 [(lv (Int32.ofNat b0)), (lv (Int32.ofNat b1)), (lv (Int32.ofNat b2))] (.int 0)) (B : Arv Z h dst kd .byte 4 [(.int 0), (.int 0), (.int 0), (.int 0)] (.int 0)) :
    Con l Z ELc n0 (⟨"java/util/Base64$Encoder", "encodeBlock", "([BII[BIZ)V"⟩ : MethodName) kb35 11 (Option.none : Option FieldType) [] (⟨0, 0, 0, 0⟩ : Room) #[.ref ec, .ref src, .int 0, .int 3, .ref dst, .int 0, .int 0] h [dst] (fun v h' sf' => v = none ∧ sf' = [] ∧ Keep h h' [dst] ∧ Arv Z h' dst kd .byte 4 [(lv (T (X0 b0))), (lv (T (X1 b0 b1))), (lv (T (X2 b1 b2))), (lv (T (X3 b2)))] (.int 0)) := by
  refine con_ofA hB (ls := #[.val (.ref ec), .val (.ref src), .val (.int 0), .val (.int 3), .val (.ref dst), .val (.int 0), .val (.int 0), .unset, .unset, .unset, .unset]) (fun m => by simp [entryFrame, mkF, argsToLocals, Value.category]) ?_
  show Go _ _ _ _ _ _ "java/util/Base64$Encoder" kb35 11 _ "encodeBlock" _ h [dst] 0 0 0 #[vr ec, vr src, vi 0, vi 3, vr dst, vi 0, vi 0, .unset, .unset, .unset, .unset] []
  have lt101 : X0 b0 < 64 := (x0_lt hb0)
  have lt102 : X1 b0 b1 < 64 := (x1_lt hb0 hb1)
  have lt103 : X2 b1 b2 < 64 := (x2_lt hb1 hb2)
  have lt104 : X3 b2 < 64 := (x3_lt hb2)
  refine Go.owned (fun hOw => ?_)
  have hge := (hOw dst (List.Mem.head _)).2
  obtain ⟨tb, kt, hSt, hAt⟩ := hB.2.2.2.2.2.2.2.2.2.1
  refine Go.old (fun hOld => ?_)
  have hAu := hAt.ext hOld.2
  refine go_iload d35_0 rfl rfl ?_
  refine go_if_eq_t (pt := 11) d35_2 (by decide) ?_
  refine go_getstatic d35_11 rfl (wd hB 133 rfl) Via.refl hSt ?_
  refine go_astore d35_14 rfl #[vr ec, vr src, vi 0, vi 3, vr dst, vi 0, vi 0, vr tb, .unset, .unset, .unset] rfl rfl ?_
  refine go_iloadN d35_16 rfl rfl ?_
  refine go_istore d35_17 rfl #[vr ec, vr src, vi 0, vi 3, vr dst, vi 0, vi 0, vr tb, vi 0, .unset, .unset] rfl ?_
  refine go_iload d35_19 rfl rfl ?_
  refine go_istore d35_21 rfl #[vr ec, vr src, vi 0, vi 3, vr dst, vi 0, vi 0, vr tb, vi 0, vi 0, .unset] rfl ?_
  refine go_iload d35_23 rfl rfl ?_
  refine go_iloadN d35_25 rfl rfl ?_
  refine go_icmp_ge_f d35_26 rfl (by decide) ?_
  refine go_aloadN d35_29 rfl rfl rfl ?_
  refine go_iload d35_30 rfl rfl ?_
  refine go_iincV 1 1 d35_32 rfl #[vr ec, vr src, vi 0, vi 3, vr dst, vi 0, vi 0, vr tb, vi 1, vi 0, .unset] (by decide) rfl (by decide) rfl ?_
  refine go_baload (v := (.int ((Int32.ofNat b0).toInt8.toInt32))) 0 d35_35 rfl A ⟨by decide, by decide⟩ (by decide) rfl ?_
  refine go_sipush 255 d35_36 rfl ?_
  refine go_iand d35_39 rfl (go_eq (y := Int32.ofNat b0) (B_isC hb0).back ?_)
  refine go_bipush 16 d35_40 rfl ?_
  refine go_ishl d35_42 rfl (go_eq (y := Int32.ofNat (b0 * 65536)) (shlE (k := 16) (by decide) (by decide) (by omega) rfl (by omega)) ?_)
  refine go_aloadN d35_43 rfl rfl rfl ?_
  refine go_iload d35_44 rfl rfl ?_
  refine go_iincV 1 2 d35_46 rfl #[vr ec, vr src, vi 0, vi 3, vr dst, vi 0, vi 0, vr tb, vi 2, vi 0, .unset] (by decide) rfl (by decide) rfl ?_
  refine go_baload (v := (.int ((Int32.ofNat b1).toInt8.toInt32))) 1 d35_49 rfl A ⟨by decide, by decide⟩ (by decide) rfl ?_
  refine go_sipush 255 d35_50 rfl ?_
  refine go_iand d35_53 rfl (go_eq (y := Int32.ofNat b1) (B_isC hb1).back ?_)
  refine go_bipush 8 d35_54 rfl ?_
  refine go_ishl d35_56 rfl (go_eq (y := Int32.ofNat (b1 * 256)) (shlE (k := 8) (by decide) (by decide) (by omega) rfl (by omega)) ?_)
  refine go_ior d35_57 rfl (go_eq (y := Int32.ofNat (b0 * 65536 + b1 * 256)) (orE (k := 16) (by omega) (by omega) rfl (by omega)) ?_)
  refine go_aloadN d35_58 rfl rfl rfl ?_
  refine go_iload d35_59 rfl rfl ?_
  refine go_iincV 1 3 d35_61 rfl #[vr ec, vr src, vi 0, vi 3, vr dst, vi 0, vi 0, vr tb, vi 3, vi 0, .unset] (by decide) rfl (by decide) rfl ?_
  refine go_baload (v := (.int ((Int32.ofNat b2).toInt8.toInt32))) 2 d35_64 rfl A ⟨by decide, by decide⟩ (by decide) rfl ?_
  refine go_sipush 255 d35_65 rfl ?_
  refine go_iand d35_68 rfl (go_eq (y := Int32.ofNat b2) (B_isC hb2).back ?_)
  refine go_ior d35_69 rfl (go_eq (y := Int32.ofNat (b0 * 65536 + b1 * 256 + b2)) (orE (k := 8) (by omega) (by omega) rfl (by omega)) ?_)
  refine go_istore d35_70 rfl #[vr ec, vr src, vi 0, vi 3, vr dst, vi 0, vi 0, vr tb, vi 3, vi 0, vi (Int32.ofNat (b0 * 65536 + b1 * 256 + b2))] rfl ?_
  refine go_aload d35_72 rfl rfl rfl ?_
  refine go_iload d35_74 rfl rfl ?_
  refine go_iincV 1 1 d35_76 rfl #[vr ec, vr src, vi 0, vi 3, vr dst, vi 0, vi 0, vr tb, vi 3, vi 1, vi (Int32.ofNat (b0 * 65536 + b1 * 256 + b2))] (by decide) rfl (by decide) rfl ?_
  refine go_aload d35_79 rfl rfl rfl ?_
  refine go_iload d35_81 rfl rfl ?_
  refine go_bipush 18 d35_83 rfl ?_
  refine go_iushr d35_85 rfl (go_eq (y := Int32.ofNat ((b0 * 65536 + b1 * 256 + b2) / 262144)) (ushrE (k := 18) (by decide) (by decide) (by omega) rfl) ?_)
  refine go_bipush 63 d35_86 rfl ?_
  refine go_iand d35_88 rfl (go_eq (y := Int32.ofNat (X0 b0)) (and63 (by omega) (by simp only [X0, X1, X2, X3] <;> omega)) ?_)
  refine go_caload (v := (.int (T (X0 b0)))) (X0 b0) d35_89 rfl hAu (N_in lt101) (N_cl lt101) (tb_at lt101) ?_
  refine go_i2b d35_90 rfl ?_
  refine go_bastoreV 0 ((T (X0 b0)).toInt8.toInt32) d35_91 rfl (i8i8 _) B ⟨by decide, by decide⟩ (by decide) (by show 0 < 4; decide) (List.Mem.head _) ?_
  intro h105 W106 B107
  have B108 : Arv Z h105 dst kd .byte 4 [(lv (T (X0 b0))), (.int 0), (.int 0), (.int 0)] (.int 0) := B107
  refine go_aload d35_92 rfl rfl rfl ?_
  refine go_iload d35_94 rfl rfl ?_
  refine go_iincV 1 2 d35_96 rfl #[vr ec, vr src, vi 0, vi 3, vr dst, vi 0, vi 0, vr tb, vi 3, vi 2, vi (Int32.ofNat (b0 * 65536 + b1 * 256 + b2))] (by decide) rfl (by decide) rfl ?_
  refine go_aload d35_99 rfl rfl rfl ?_
  refine go_iload d35_101 rfl rfl ?_
  refine go_bipush 12 d35_103 rfl ?_
  refine go_iushr d35_105 rfl (go_eq (y := Int32.ofNat ((b0 * 65536 + b1 * 256 + b2) / 4096)) (ushrE (k := 12) (by decide) (by decide) (by omega) rfl) ?_)
  refine go_bipush 63 d35_106 rfl ?_
  refine go_iand d35_108 rfl (go_eq (y := Int32.ofNat (X1 b0 b1)) (and63 (by omega) (by simp only [X0, X1, X2, X3] <;> omega)) ?_)
  have F109 := (Arv.other hAu W106 (old_ne hOld hAt.lt hge))
  refine go_caload (v := (.int (T (X1 b0 b1)))) (X1 b0 b1) d35_109 rfl F109 (N_in lt102) (N_cl lt102) (tb_at lt102) ?_
  refine go_i2b d35_110 rfl ?_
  refine go_bastoreV 1 ((T (X1 b0 b1)).toInt8.toInt32) d35_111 rfl (i8i8 _) B108 ⟨by decide, by decide⟩ (by decide) (by show 1 < 4; decide) (List.Mem.head _) ?_
  intro h110 W111 B112
  have B113 : Arv Z h110 dst kd .byte 4 [(lv (T (X0 b0))), (lv (T (X1 b0 b1))), (.int 0), (.int 0)] (.int 0) := B112
  refine go_aload d35_112 rfl rfl rfl ?_
  refine go_iload d35_114 rfl rfl ?_
  refine go_iincV 1 3 d35_116 rfl #[vr ec, vr src, vi 0, vi 3, vr dst, vi 0, vi 0, vr tb, vi 3, vi 3, vi (Int32.ofNat (b0 * 65536 + b1 * 256 + b2))] (by decide) rfl (by decide) rfl ?_
  refine go_aload d35_119 rfl rfl rfl ?_
  refine go_iload d35_121 rfl rfl ?_
  refine go_bipush 6 d35_123 rfl ?_
  refine go_iushr d35_125 rfl (go_eq (y := Int32.ofNat ((b0 * 65536 + b1 * 256 + b2) / 64)) (ushrE (k := 6) (by decide) (by decide) (by omega) rfl) ?_)
  refine go_bipush 63 d35_126 rfl ?_
  refine go_iand d35_128 rfl (go_eq (y := Int32.ofNat (X2 b1 b2)) (and63 (by omega) (by simp only [X0, X1, X2, X3] <;> omega)) ?_)
  have F114 := (Arv.other F109 W111 (old_ne hOld hAt.lt hge))
  refine go_caload (v := (.int (T (X2 b1 b2)))) (X2 b1 b2) d35_129 rfl F114 (N_in lt103) (N_cl lt103) (tb_at lt103) ?_
  refine go_i2b d35_130 rfl ?_
  refine go_bastoreV 2 ((T (X2 b1 b2)).toInt8.toInt32) d35_131 rfl (i8i8 _) B113 ⟨by decide, by decide⟩ (by decide) (by show 2 < 4; decide) (List.Mem.head _) ?_
  intro h115 W116 B117
  have B118 : Arv Z h115 dst kd .byte 4 [(lv (T (X0 b0))), (lv (T (X1 b0 b1))), (lv (T (X2 b1 b2))), (.int 0)] (.int 0) := B117
  refine go_aload d35_132 rfl rfl rfl ?_
  refine go_iload d35_134 rfl rfl ?_
  refine go_iincV 1 4 d35_136 rfl #[vr ec, vr src, vi 0, vi 3, vr dst, vi 0, vi 0, vr tb, vi 3, vi 4, vi (Int32.ofNat (b0 * 65536 + b1 * 256 + b2))] (by decide) rfl (by decide) rfl ?_
  refine go_aload d35_139 rfl rfl rfl ?_
  refine go_iload d35_141 rfl rfl ?_
  refine go_bipush 63 d35_143 rfl ?_
  refine go_iand d35_145 rfl (go_eq (y := Int32.ofNat (X3 b2)) (and63 (by omega) (by simp only [X0, X1, X2, X3] <;> omega)) ?_)
  have F119 := (Arv.other F114 W116 (old_ne hOld hAt.lt hge))
  refine go_caload (v := (.int (T (X3 b2)))) (X3 b2) d35_146 rfl F119 (N_in lt104) (N_cl lt104) (tb_at lt104) ?_
  refine go_i2b d35_147 rfl ?_
  refine go_bastoreV 3 ((T (X3 b2)).toInt8.toInt32) d35_148 rfl (i8i8 _) B118 ⟨by decide, by decide⟩ (by decide) (by show 3 < 4; decide) (List.Mem.head _) ?_
  intro h120 W121 B122
  have B123 : Arv Z h120 dst kd .byte 4 [(lv (T (X0 b0))), (lv (T (X1 b0 b1))), (lv (T (X2 b1 b2))), (lv (T (X3 b2)))] (.int 0) := B122
  refine go_goto (pt := 23) d35_149 ?_
  refine go_iload d35_23 rfl rfl ?_
  refine go_iloadN d35_25 rfl rfl ?_
  refine go_icmp_ge_t (pt := 152) d35_26 (by decide) ?_
  refine go_ret d35_152 [] rfl (by decide) (by decide) (fun _ q => nomatch q) ?_
  exact ⟨rfl, rfl, (((((Keep.refl h [dst]).wr W106 (Or.inl (List.Mem.head _))).wr W111 (Or.inl (List.Mem.head _))).wr W116 (Or.inl (List.Mem.head _))).wr W121 (Or.inl (List.Mem.head _))), B123⟩
set_option maxRecDepth 65536 in
set_option maxHeartbeats 4000000 in
theorem c_min_3_3 (hB : Base Z a0) {h : Heap} :
    Con l Z ELc n0 (⟨"java/lang/Math", "min", "(II)I"⟩ : MethodName) kb34 2 (Option.some FieldType.int) [] (⟨0, 0, 0, 0⟩ : Room) #[.int 3, .int 3] h [] (fun v h' sf' => v = some (.int 3) ∧ sf' = [] ∧ h = h') := by
  refine con_ofA hB (ls := #[.val (.int 3), .val (.int 3)]) (fun m => by simp [entryFrame, mkF, argsToLocals, Value.category]) ?_
  show Go _ _ _ _ _ _ "java/lang/Math" kb34 2 _ "min" _ h [] 0 0 0 #[vi 3, vi 3] []
  refine go_iloadN d34_0 rfl rfl ?_
  refine go_iloadN d34_1 rfl rfl ?_
  refine go_icmp_gt_f d34_2 rfl (by decide) ?_
  refine go_iloadN d34_5 rfl rfl ?_
  refine go_goto (pt := 10) d34_6 ?_
  refine go_retI d34_10 [] rfl (by decide) (by decide) (fun _ q => nomatch q) ?_
  exact ⟨rfl, rfl, rfl⟩
set_option maxRecDepth 65536 in
set_option maxHeartbeats 4000000 in
theorem c_e0_3 (hB : Base Z a0) (b0 b1 b2 b3 b4 b5 : Nat) (hb0 : b0 < 256) (hb1 : b1 < 256) (hb2 : b2 < 256) (hb3 : b3 < 256) (hb4 : b4 < 256) (hb5 : b5 < 256) {ec : Addr} (E0 : IsEnc Z ec) {src dst : Addr} {ks kd : ClassId} (hsd : src ≠ dst) {h : Heap} (A : Arv Z h src ks .byte 3 [(lv (Int32.ofNat b0)), (lv (Int32.ofNat b1)), (lv (Int32.ofNat b2))] (.int 0)) (B : Arv Z h dst kd .byte 4 [(.int 0), (.int 0), (.int 0), (.int 0)] (.int 0)) :
    Con l Z ELc n0 (⟨"java/util/Base64$Encoder", "encode0", "([BII[B)I"⟩ : MethodName) kb20 16 (Option.some FieldType.int) [] (⟨1, 0, 0, 22⟩ : Room) #[.ref ec, .ref src, .int 0, .int 3, .ref dst] h [dst] (fun v h' sf' => v = some (.int 4) ∧ sf' = [] ∧ Keep h h' [dst] ∧ Arv Z h' dst kd .byte 4 [(lv (T (X0 b0))), (lv (T (X1 b0 b1))), (lv (T (X2 b1 b2))), (lv (T (X3 b2)))] (.int 0)) := by
  refine con_ofA hB (ls := #[.val (.ref ec), .val (.ref src), .val (.int 0), .val (.int 3), .val (.ref dst), .unset, .unset, .unset, .unset, .unset, .unset, .unset, .unset, .unset, .unset, .unset]) (fun m => by simp [entryFrame, mkF, argsToLocals, Value.category]) ?_
  show Go _ _ _ _ _ _ "java/util/Base64$Encoder" kb20 16 _ "encode0" _ h [dst] 0 0 0 #[vr ec, vr src, vi 0, vi 3, vr dst, .unset, .unset, .unset, .unset, .unset, .unset, .unset, .unset, .unset, .unset, .unset] []
  have lt101 : X0 b0 < 64 := (x0_lt hb0)
  have lt102 : X1 b0 b1 < 64 := (x1_lt hb0 hb1)
  have lt103 : X2 b1 b2 < 64 := (x2_lt hb1 hb2)
  have lt104 : X3 b2 < 64 := (x3_lt hb2)
  refine Go.owned (fun hOw => ?_)
  have hge := (hOw dst (List.Mem.head _)).2
  refine Go.old (fun hOld => ?_)
  obtain ⟨EX, E1, E3, E4⟩ := id E0
  have EXh := Exa.ext hOld.2 EX
  have E1h := Fld.ext hOld.2 E1
  have E3h := Fld.ext hOld.2 E3
  have E4h := Fld.ext hOld.2 E4
  obtain ⟨tb, kt, hSt, hAt⟩ := hB.2.2.2.2.2.2.2.2.2.1
  have hAu := hAt.ext hOld.2
  refine go_aloadN d20_0 rfl rfl rfl ?_
  refine go_getfield d20_1 rfl (wd hB 131 rfl) Via.refl E1h ?_
  refine go_if_eq_t (pt := 13) d20_4 (by decide) ?_
  refine go_getstatic d20_13 rfl (wd hB 133 rfl) Via.refl hSt ?_
  refine go_astore d20_16 rfl #[vr ec, vr src, vi 0, vi 3, vr dst, vr tb, .unset, .unset, .unset, .unset, .unset, .unset, .unset, .unset, .unset, .unset] rfl rfl ?_
  refine go_iloadN d20_18 rfl rfl ?_
  refine go_istore d20_19 rfl #[vr ec, vr src, vi 0, vi 3, vr dst, vr tb, vi 0, .unset, .unset, .unset, .unset, .unset, .unset, .unset, .unset, .unset] rfl ?_
  refine go_iloadN d20_21 rfl rfl ?_
  refine go_iloadN d20_22 rfl rfl ?_
  refine go_isub d20_23 rfl (go_eq (y := 3) (by decide) ?_)
  refine go_iconst 3 d20_24 rfl ?_
  refine go_idiv d20_25 rfl (by decide) (go_eq (y := 1) (by decide) ?_)
  refine go_iconst 3 d20_26 rfl ?_
  refine go_imul d20_27 rfl (go_eq (y := 3) (by decide) ?_)
  refine go_istore d20_28 rfl #[vr ec, vr src, vi 0, vi 3, vr dst, vr tb, vi 0, vi 3, .unset, .unset, .unset, .unset, .unset, .unset, .unset, .unset] rfl ?_
  refine go_iloadN d20_30 rfl rfl ?_
  refine go_iload d20_31 rfl rfl ?_
  refine go_iadd d20_33 rfl (go_eq (y := 3) (by decide) ?_)
  refine go_istore d20_34 rfl #[vr ec, vr src, vi 0, vi 3, vr dst, vr tb, vi 0, vi 3, vi 3, .unset, .unset, .unset, .unset, .unset, .unset, .unset] rfl ?_
  refine go_aloadN d20_36 rfl rfl rfl ?_
  refine go_getfield d20_37 rfl (wd hB 124 rfl) Via.refl E3h ?_
  refine go_if_le_t (pt := 66) d20_40 (by decide) ?_
  refine go_iconst 0 d20_66 rfl ?_
  refine go_istore d20_67 rfl #[vr ec, vr src, vi 0, vi 3, vr dst, vr tb, vi 0, vi 3, vi 3, vi 0, .unset, .unset, .unset, .unset, .unset, .unset] rfl ?_
  refine go_iload d20_69 rfl rfl ?_
  refine go_iload d20_71 rfl rfl ?_
  refine go_icmp_ge_f d20_73 rfl (by decide) ?_
  refine go_iload d20_76 rfl rfl ?_
  refine go_iload d20_78 rfl rfl ?_
  refine go_iadd d20_80 rfl (go_eq (y := 3) (by decide) ?_)
  refine go_iload d20_81 rfl rfl ?_
  refine go_static [(.int 3), (.int 3)] [] 0 d20_83 rfl (wd hB 191 rfl) (wd hB 192 rfl) (wd hB 119 rfl) (wd hB 193 rfl) (c_min_3_3 hB) (fun _ q => nomatch q) (lenOf pd_18 rfl) rfl rfl rfl (fun v105 h106 s107 q108 => ?_)
  obtain ⟨rfl, rfl, rfl⟩ := q108
  show Go _ _ _ _ _ _ _ _ _ _ _ _ h [dst] 0 0 86 _ [(.int 3)]
  refine go_istore d20_86 rfl #[vr ec, vr src, vi 0, vi 3, vr dst, vr tb, vi 0, vi 3, vi 3, vi 0, vi 3, .unset, .unset, .unset, .unset, .unset] rfl ?_
  refine go_aloadN d20_88 rfl rfl rfl ?_
  refine go_aloadN d20_89 rfl rfl rfl ?_
  refine go_iload d20_90 rfl rfl ?_
  refine go_iload d20_92 rfl rfl ?_
  refine go_aload d20_94 rfl rfl rfl ?_
  refine go_iload d20_96 rfl rfl ?_
  refine go_aloadN d20_98 rfl rfl rfl ?_
  refine go_getfield d20_99 rfl (wd hB 131 rfl) Via.refl E1h ?_
  refine go_virtual ec [(.ref src), (.int 0), (.int 3), (.ref dst), (.int 0), (.int 0)] [] 0 d20_102 rfl EXh (wd hB 194 rfl) (declares_of (wd hB 195 rfl) (wd hB 198 rfl)) (nf_of (wd hB 197 rfl)) (wd hB 197 rfl) (wd hB 195 rfl) (wd hB 99 rfl) (wd hB 198 rfl) (c_eb_3 hB b0 b1 b2 b3 b4 b5 hb0 hb1 hb2 hb3 hb4 hb5 hsd A B) (allS (List.Mem.head _) (fun _ q => nomatch q)) (lenOf pd_26 rfl) rfl rfl rfl (fun v109 h110 s111 q112 => ?_)
  obtain ⟨rfl, rfl, K113, B114⟩ := q112
  show Go _ _ _ _ _ _ _ _ _ _ _ _ h110 [dst] 0 0 105 _ []
  refine go_iload d20_105 rfl rfl ?_
  refine go_iload d20_107 rfl rfl ?_
  refine go_isub d20_109 rfl (go_eq (y := 3) (by decide) ?_)
  refine go_iconst 3 d20_110 rfl ?_
  refine go_idiv d20_111 rfl (by decide) (go_eq (y := 1) (by decide) ?_)
  refine go_iconst 4 d20_112 rfl ?_
  refine go_imul d20_113 rfl (go_eq (y := 4) (by decide) ?_)
  refine go_istore d20_114 rfl #[vr ec, vr src, vi 0, vi 3, vr dst, vr tb, vi 0, vi 3, vi 3, vi 0, vi 3, vi 4, .unset, .unset, .unset, .unset] rfl ?_
  refine go_iload d20_116 rfl rfl ?_
  refine go_iload d20_118 rfl rfl ?_
  refine go_iadd d20_120 rfl (go_eq (y := 4) (by decide) ?_)
  refine go_istore d20_121 rfl #[vr ec, vr src, vi 0, vi 3, vr dst, vr tb, vi 0, vi 3, vi 3, vi 4, vi 3, vi 4, .unset, .unset, .unset, .unset] rfl ?_
  refine go_iload d20_123 rfl rfl ?_
  refine go_istore d20_125 rfl #[vr ec, vr src, vi 0, vi 3, vr dst, vr tb, vi 3, vi 3, vi 3, vi 4, vi 3, vi 4, .unset, .unset, .unset, .unset] rfl ?_
  refine go_iload d20_127 rfl rfl ?_
  refine go_aloadN d20_129 rfl rfl rfl ?_
  have F115 := (E3h.keep K113 (ninS (old_ne hOld EX.lt hge) nin0))
  refine go_getfield d20_130 rfl (wd hB 124 rfl) Via.refl F115 ?_
  refine go_icmp_ne_t (pt := 186) d20_133 (by decide) ?_
  refine go_goto (pt := 69) d20_186 ?_
  refine go_iload d20_69 rfl rfl ?_
  refine go_iload d20_71 rfl rfl ?_
  refine go_icmp_ge_t (pt := 189) d20_73 (by decide) ?_
  refine go_iload d20_189 rfl rfl ?_
  refine go_iloadN d20_191 rfl rfl ?_
  refine go_icmp_ge_t (pt := 352) d20_192 (by decide) ?_
  refine go_iload d20_352 rfl rfl ?_
  refine go_retI d20_354 [] rfl (by decide) (by decide) (fun _ q => nomatch q) ?_
  exact ⟨rfl, rfl, ((Keep.refl h [dst]).trans K113 (allS (Or.inl (List.Mem.head _)) all0)), B114⟩
set_option maxRecDepth 65536 in
set_option maxHeartbeats 4000000 in
theorem c_ea_3 (hB : Base Z a0) (b0 b1 b2 b3 b4 b5 : Nat) (hb0 : b0 < 256) (hb1 : b1 < 256) (hb2 : b2 < 256) (hb3 : b3 < 256) (hb4 : b4 < 256) (hb5 : b5 < 256) {ec : Addr} (E0 : IsEnc Z ec) {src : Addr} {ks : ClassId} {h : Heap} (A : Arv Z h src ks .byte 3 [(lv (Int32.ofNat b0)), (lv (Int32.ofNat b1)), (lv (Int32.ofNat b2))] (.int 0)) :
    Con l Z ELc n0 (⟨"java/util/Base64$Encoder", "encode", "([B)[B"⟩ : MethodName) kb17 5 (Option.some (FieldType.array FieldType.byte)) [] (⟨2, 1, 4, 49⟩ : Room) #[.ref ec, .ref src] h [] (fun v h' sf' => ∃ r kr, v = some (.ref r) ∧ sf' = [] ∧ Ext h h' ∧ h.size ≤ r ∧ Exa Z h' r "[B" ∧ Arv Z h' r kr .byte 4 [(lv (T (X0 b0))), (lv (T (X1 b0 b1))), (lv (T (X2 b1 b2))), (lv (T (X3 b2)))] (.int 0)) := by
  refine con_ofA hB (ls := #[.val (.ref ec), .val (.ref src), .unset, .unset, .unset]) (fun m => by simp [entryFrame, mkF, argsToLocals, Value.category]) ?_
  show Go _ _ _ _ _ _ "java/util/Base64$Encoder" kb17 5 _ "encode" _ h [] 0 0 0 #[vr ec, vr src, .unset, .unset, .unset] []
  refine Go.old (fun hOld => ?_)
  obtain ⟨EX, E1, E3, E4⟩ := id E0
  have EXh := Exa.ext hOld.2 EX
  have E1h := Fld.ext hOld.2 E1
  have E3h := Fld.ext hOld.2 E3
  have E4h := Fld.ext hOld.2 E4
  refine go_aloadN d17_0 rfl rfl rfl ?_
  refine go_aloadN d17_1 rfl rfl rfl ?_
  refine go_alen d17_2 rfl A ?_
  refine go_iconst 1 d17_3 rfl ?_
  refine go_virtualH ec [(.int 3), (.int 1)] [] 0 d17_4 rfl EXh (wd hB 110 rfl) (declares_ofH (wd hB 111 rfl) (wd hB 114 rfl)) (nf_of (wd hB 113 rfl)) (wd hB 113 rfl) (wd hB 111 rfl) (wd hB 99 rfl) (wd hB 114 rfl) (c_eol_3 hB E0) (fun _ q => nomatch q) (lenOf pd_19 rfl) rfl rfl rfl (fun v101 h102 s103 q104 => ?_)
  obtain ⟨rfl, rfl, rfl⟩ := q104
  show Go _ _ _ _ _ _ _ _ _ _ _ _ h [] 0 0 7 _ [(.int 4)]
  refine go_istoreN d17_7 rfl #[vr ec, vr src, vi 4, .unset, .unset] rfl ?_
  refine go_iloadN d17_8 rfl rfl ?_
  refine go_newarr (ty := .byte) (ad := "[B") 4 d17_9 rfl rfl (wd hB 18 rfl) (by decide) (by decide) (by decide) (by decide) (by decide) (by decide) ?_
  intro h110 x105 hx106 E107 ⟨A108, k109, B111⟩
  have B112 : Arv Z h110 x105 k109 .byte 4 [(.int 0), (.int 0), (.int 0), (.int 0)] (.int 0) := B111.pad (pad_rep [] (.int 0) 4)
  refine go_astoreN d17_11 rfl #[vr ec, vr src, vi 4, vr x105, .unset] rfl rfl ?_
  refine go_aloadN d17_12 rfl rfl rfl ?_
  refine go_aloadN d17_13 rfl rfl rfl ?_
  refine go_iconst 0 d17_14 rfl ?_
  refine go_aloadN d17_15 rfl rfl rfl ?_
  have F113 := (A.ext E107)
  refine go_alen d17_16 rfl F113 ?_
  refine go_aloadN d17_17 rfl rfl rfl ?_
  have F118 := (Exa.ext E107 EXh)
  refine go_virtual ec [(.ref src), (.int 0), (.int 3), (.ref x105)] [] 0 d17_18 rfl F118 (wd hB 126 rfl) (declares_of (wd hB 127 rfl) (wd hB 130 rfl)) (nf_of (wd hB 129 rfl)) (wd hB 129 rfl) (wd hB 127 rfl) (wd hB 99 rfl) (wd hB 130 rfl) (c_e0_3 hB b0 b1 b2 b3 b4 b5 hb0 hb1 hb2 hb3 hb4 hb5 E0 (Nat.ne_of_lt (Nat.lt_of_lt_of_le A.lt (Nat.le_of_eq hx106.symm))) F113 B112) (allS (List.Mem.head _) (fun _ q => nomatch q)) (lenOf pd_10 rfl) rfl rfl rfl (fun v114 h115 s116 q117 => ?_)
  obtain ⟨rfl, rfl, K119, B120⟩ := q117
  show Go _ _ _ _ _ _ _ _ _ _ _ _ h115 [x105] 1 4 21 _ [(.int 4)]
  refine go_istore d17_21 rfl #[vr ec, vr src, vi 4, vr x105, vi 4] rfl ?_
  refine go_iload d17_23 rfl rfl ?_
  refine go_aloadN d17_25 rfl rfl rfl ?_
  refine go_alen d17_26 rfl B120 ?_
  refine go_icmp_eq_t (pt := 37) d17_27 (by decide) ?_
  refine go_aloadN d17_37 rfl rfl rfl ?_
  have F121 := (A108.keep K119)
  refine go_retA d17_38 [] rfl rfl rfl rfl (by decide) (by decide) (fun _ q => nomatch q) ?_
  exact ⟨_, _, rfl, rfl, (ext_of_keep (((Keep.refl h []).ext E107).trans K119 (allS (Or.inr (Nat.le_of_eq hx106.symm)) all0))), (Nat.le_of_eq hx106.symm), F121, B120⟩
set_option maxRecDepth 65536 in
set_option maxHeartbeats 4000000 in
theorem c_es_3 (hB : Base Z a0) (b0 b1 b2 b3 b4 b5 : Nat) (hb0 : b0 < 256) (hb1 : b1 < 256) (hb2 : b2 < 256) (hb3 : b3 < 256) (hb4 : b4 < 256) (hb5 : b5 < 256) {ec : Addr} (E0 : IsEnc Z ec) {src : Addr} {ks : ClassId} {h : Heap} (A : Arv Z h src ks .byte 3 [(lv (Int32.ofNat b0)), (lv (Int32.ofNat b1)), (lv (Int32.ofNat b2))] (.int 0)) :
    Con l Z ELc n0 (⟨"java/util/Base64$Encoder", "encodeToString", "([B)Ljava/lang/String;"⟩ : MethodName) kb16 3 (Option.some (FieldType.object "java/lang/String")) [] (⟨3, 3, 12, 65⟩ : Room) #[.ref ec, .ref src] h [] (fun v h' sf' => ∃ s d kd, v = some (.ref s) ∧ sf' = [] ∧ Ext h h' ∧ h.size ≤ s ∧ Exa Z h' s "java/lang/String" ∧ Fld Z h' s "java/lang/String" "coder" "B" (.int 0) ∧ Fld Z h' s "java/lang/String" "value" "[B" (.ref d) ∧ Arv Z h' d kd .byte 4 [(lv (T (X0 b0))), (lv (T (X1 b0 b1))), (lv (T (X2 b1 b2))), (lv (T (X3 b2)))] (.int 0)) := by
  refine con_ofA hB (ls := #[.val (.ref ec), .val (.ref src), .unset]) (fun m => by simp [entryFrame, mkF, argsToLocals, Value.category]) ?_
  show Go _ _ _ _ _ _ "java/util/Base64$Encoder" kb16 3 _ "encodeToString" _ h [] 0 0 0 #[vr ec, vr src, .unset] []
  refine Go.old (fun hOld => ?_)
  obtain ⟨EX, E1, E3, E4⟩ := id E0
  have EXh := Exa.ext hOld.2 EX
  have E1h := Fld.ext hOld.2 E1
  have E3h := Fld.ext hOld.2 E3
  have E4h := Fld.ext hOld.2 E4
  refine go_aloadN d16_0 rfl rfl rfl ?_
  refine go_aloadN d16_1 rfl rfl rfl ?_
  refine go_virtual ec [(.ref src)] [] 0 d16_2 rfl EXh (wd hB 105 rfl) (wd hB 106 rfl) (nf_of (wd hB 108 rfl)) (wd hB 108 rfl) (wd hB 107 rfl) (wd hB 99 rfl) (wd hB 109 rfl) (c_ea_3 hB b0 b1 b2 b3 b4 b5 hb0 hb1 hb2 hb3 hb4 hb5 E0 A) (fun _ q => nomatch q) (lenOf pd_12 rfl) rfl rfl rfl (fun v101 h102 s103 q104 => ?_)
  obtain ⟨r105, k106, rfl, rfl, E107, g108, X109, A110⟩ := q104
  show Go _ _ _ _ _ _ _ _ _ _ _ _ h102 [] 1 4 5 _ [(.ref r105)]
  refine go_astoreN d16_5 rfl #[vr ec, vr src, vr r105] rfl rfl ?_
  refine go_new d16_6 rfl (wd hB 134 rfl) (wd hB 5 rfl) (wd hB 6 rfl) (by decide) (by decide) ?_
  intro h116 x111 hx112 E113 ⟨A114, D115⟩
  have F117 : Fld Z h116 x111 "java/lang/String" "value" "[B" .null := D115 (Or.inr (wd hB 19 rfl)) (ty := (.array .byte)) (by decide)
  have F118 : Fld Z h116 x111 "java/lang/String" "coder" "B" (.int 0) := D115 (Or.inr (wd hB 20 rfl)) (ty := .byte) (by decide)
  refine go_dup d16_9 rfl rfl ?_
  refine go_aloadN d16_10 rfl rfl rfl ?_
  refine go_iconst 0 d16_11 rfl ?_
  refine go_iconst 0 d16_12 rfl ?_
  refine go_aloadN d16_13 rfl rfl rfl ?_
  have F119 := (A110.ext E113)
  refine go_alen d16_14 rfl F119 ?_
  have F120 := (Exa.ext E113 X109)
  refine go_special x111 [(.ref r105), (.int 0), (.int 0), (.int 4)] [(.ref x111)] 1 d16_15 rfl rfl (wd hB 135 rfl) (wd hB 136 rfl) (wd hB 6 rfl) (wd hB 137 rfl) (c_s3_4 hB F119 F120 A114 F117 F118) (allS (List.Mem.head _) (fun _ q => nomatch q)) (lenOf pd_20 rfl) rfl rfl rfl (fun v121 h122 s123 q124 => ?_)
  obtain ⟨rfl, rfl, K125, E126, F127, d128, k129, G130, A131⟩ := q124
  show Go _ _ _ _ _ _ _ _ _ _ _ _ h122 [x111] 3 12 18 _ [(.ref x111)]
  refine go_retA d16_18 [] rfl rfl rfl rfl (by decide) (by decide) (fun _ q => nomatch q) ?_
  exact ⟨x111, d128, k129, rfl, rfl, (ext_of_keep ((((Keep.refl h []).ext E107).ext E113).trans K125 (allS (Or.inr (Nat.le_trans E107.1 (Nat.le_of_eq hx112.symm))) all0))), (Nat.le_trans E107.1 (Nat.le_of_eq hx112.symm)), E126, F127, G130, A131⟩
set_option maxRecDepth 65536 in
set_option maxHeartbeats 4000000 in
theorem c_be_3 (hB : Base Z a0) (b0 b1 b2 b3 b4 b5 : Nat) (hb0 : b0 < 256) (hb1 : b1 < 256) (hb2 : b2 < 256) (hb3 : b3 < 256) (hb4 : b4 < 256) (hb5 : b5 < 256) {ec : Addr} (E0 : IsEnc Z ec) (SE : Sta Z Z.heap "java/util/Base64$Encoder" "RFC4648" "Ljava/util/Base64$Encoder;" (.ref ec)) {src : Addr} {ks : ClassId} {h : Heap} (A : Arv Z h src ks .byte 3 [(lv (Int32.ofNat b0)), (lv (Int32.ofNat b1)), (lv (Int32.ofNat b2))] (.int 0)) :
    Con l Z ELc n0 (⟨"com/example/cardea/cardea/Base64Text", "encode", "([B)Ljava/lang/String;"⟩ : MethodName) kb14 1 (Option.some (FieldType.object "java/lang/String")) [] (⟨4, 3, 12, 79⟩ : Room) #[.ref src] h [] (fun v h' sf' => ∃ s d kd, v = some (.ref s) ∧ sf' = [] ∧ Ext h h' ∧ h.size ≤ s ∧ Exa Z h' s "java/lang/String" ∧ Fld Z h' s "java/lang/String" "coder" "B" (.int 0) ∧ Fld Z h' s "java/lang/String" "value" "[B" (.ref d) ∧ Arv Z h' d kd .byte 4 [(lv (T (X0 b0))), (lv (T (X1 b0 b1))), (lv (T (X2 b1 b2))), (lv (T (X3 b2)))] (.int 0)) := by
  refine con_ofA hB (ls := #[.val (.ref src)]) (fun m => by simp [entryFrame, mkF, argsToLocals, Value.category]) ?_
  show Go _ _ _ _ _ _ "com/example/cardea/cardea/Base64Text" kb14 1 _ "encode" _ h [] 0 0 0 #[vr src] []
  refine Go.old (fun hOld => ?_)
  obtain ⟨EX, E1, E3, E4⟩ := id E0
  have EXh := Exa.ext hOld.2 EX
  have E1h := Fld.ext hOld.2 E1
  have E3h := Fld.ext hOld.2 E3
  have E4h := Fld.ext hOld.2 E4
  refine go_static [] [] 0 d14_0 rfl (wd hB 95 rfl) (wd hB 96 rfl) (wd hB 31 rfl) (wd hB 97 rfl) (c_ge hB SE) (fun _ q => nomatch q) (lenOf pd_21 rfl) rfl rfl rfl (fun v101 h102 s103 q104 => ?_)
  obtain ⟨rfl, rfl, rfl⟩ := q104
  show Go _ _ _ _ _ _ _ _ _ _ _ _ h [] 0 0 3 _ [(.ref ec)]
  refine go_aloadN d14_3 rfl rfl rfl ?_
  refine go_virtual ec [(.ref src)] [] 0 d14_4 rfl EXh (wd hB 100 rfl) (wd hB 101 rfl) (nf_of (wd hB 103 rfl)) (wd hB 103 rfl) (wd hB 102 rfl) (wd hB 99 rfl) (wd hB 104 rfl) (c_es_3 hB b0 b1 b2 b3 b4 b5 hb0 hb1 hb2 hb3 hb4 hb5 E0 A) (fun _ q => nomatch q) (lenOf pd_22 rfl) rfl rfl rfl (fun v105 h106 s107 q108 => ?_)
  obtain ⟨s109, d110, k111, rfl, rfl, E112, g113, F114, F115, F116, F117⟩ := q108
  show Go _ _ _ _ _ _ _ _ _ _ _ _ h106 [] 3 12 7 _ [(.ref s109)]
  refine go_retA d14_7 [] rfl rfl rfl rfl (by decide) (by decide) (fun _ q => nomatch q) ?_
  exact ⟨s109, d110, _, rfl, rfl, (ext_of_keep ((Keep.refl h []).ext E112)), g113, F114, F115, F116, F117⟩
set_option maxRecDepth 65536 in
set_option maxHeartbeats 4000000 in
theorem c_bd_3 (hB : Base Z a0) (b0 b1 b2 b3 b4 b5 : Nat) (hb0 : b0 < 256) (hb1 : b1 < 256) (hb2 : b2 < 256) (hb3 : b3 < 256) (hb4 : b4 < 256) (hb5 : b5 < 256) {s d : Addr} {k : ClassId} {h : Heap} (E : Exa Z h s "java/lang/String") (C : Fld Z h s "java/lang/String" "coder" "B" (.int 0)) (V : Fld Z h s "java/lang/String" "value" "[B" (.ref d)) (A : Arv Z h d k .byte 4 [(lv (T (X0 b0))), (lv (T (X1 b0 b1))), (lv (T (X2 b1 b2))), (lv (T (X3 b2)))] (.int 0)) (X : Exa Z h d "[B") :
    ConH l Z ELc n0 (⟨"com/example/cardea/cardea/Base64Text", "decode", "(Ljava/lang/String;)[B"⟩ : MethodName) kbx1 3 (Option.some (FieldType.array FieldType.byte)) [(0, 8, 11, 29)] (⟨6, 5, 23, 91⟩ : Room) #[.ref s] h [] (fun v h' sf' => ∃ r kr, v = some (.ref r) ∧ sf' = [] ∧ Ext h h' ∧ Arv Z h' r kr .byte 3 [(lv (Int32.ofNat b0)), (lv (Int32.ofNat b1)), (lv (Int32.ofNat b2))] (.int 0)) := by
  refine con_ofAH hB (ls := #[.val (.ref s), .unset, .unset]) (fun m => by simp [entryFrame, mkF, argsToLocals, Value.category]) ?_
  show Go _ _ _ _ _ _ "com/example/cardea/cardea/Base64Text" kbx1 3 _ "decode" _ h [] 0 0 0 #[vr s, .unset, .unset] []
  obtain ⟨dc, SD, D0⟩ := hB.2.2.2.2.1
  obtain ⟨is, SI, IX⟩ := hB.2.2.2.2.2.1
  obtain ⟨ut, SU, UX⟩ := hB.2.2.2.2.2.2.1
  obtain ⟨ec, SE, E0⟩ := hB.2.2.2.2.2.2.2.2.1
  refine Go.old (fun hOld => ?_)
  obtain ⟨DX, D1, D2⟩ := id D0
  have DXh := Exa.ext hOld.2 DX
  have D1h := Fld.ext hOld.2 D1
  have D2h := Fld.ext hOld.2 D2
  obtain ⟨EX, E1, E3, E4⟩ := id E0
  have EXh := Exa.ext hOld.2 EX
  have E1h := Fld.ext hOld.2 E1
  have E3h := Fld.ext hOld.2 E3
  have E4h := Fld.ext hOld.2 E4
  refine go_static [] [] 0 dx1_0 rfl (wd hB 29 rfl) (wd hB 30 rfl) (wd hB 31 rfl) (wd hB 32 rfl) (c_gd hB SD) (fun _ q => nomatch q) (lenOf pd_23 rfl) rfl rfl rfl (fun v101 h102 s103 q104 => ?_)
  obtain ⟨rfl, rfl, rfl⟩ := q104
  show Go _ _ _ _ _ _ _ _ _ _ _ _ h [] 0 0 3 _ [(.ref dc)]
  refine go_aloadN dx1_3 rfl rfl rfl ?_
  refine go_virtual dc [(.ref s)] [] 0 dx1_4 rfl DXh (wd hB 35 rfl) (wd hB 36 rfl) (nf_of (wd hB 38 rfl)) (wd hB 38 rfl) (wd hB 37 rfl) (wd hB 34 rfl) (wd hB 39 rfl) (c_ds_3 hB b0 b1 b2 b3 b4 b5 hb0 hb1 hb2 hb3 hb4 hb5 D0 SI SU IX UX E C V A X) (fun _ q => nomatch q) (lenOf pd_24 rfl) rfl rfl rfl (fun v105 h106 s107 q108 => ?_)
  obtain ⟨r109, k110, rfl, rfl, E111, g112, A113⟩ := q108
  show Go _ _ _ _ _ _ _ _ _ _ _ _ h106 [] 2 11 7 _ [(.ref r109)]
  refine go_astoreN dx1_7 rfl #[vr s, vr r109, .unset] rfl rfl ?_
  refine go_goto (pt := 22) dx1_8 ?_
  refine go_aloadN dx1_22 rfl rfl rfl ?_
  refine go_static [(.ref r109)] [] 0 dx1_23 rfl (wd hB 92 rfl) (wd hB 93 rfl) (wd hB 27 rfl) (wd hB 94 rfl) (c_be_3 hB b0 b1 b2 b3 b4 b5 hb0 hb1 hb2 hb3 hb4 hb5 E0 SE A113) (fun _ q => nomatch q) (lenOf pd_22 rfl) rfl rfl rfl (fun v114 h115 s116 q117 => ?_)
  obtain ⟨s118, d119, k120, rfl, rfl, E121, g122, F123, F124, F125, F126⟩ := q117
  show Go _ _ _ _ _ _ _ _ _ _ _ _ h115 [] 5 23 26 _ [(.ref s118)]
  refine go_aloadN dx1_26 rfl rfl rfl ?_
  have F127 := (Exa.ext E121 (Exa.ext E111 E))
  have F128 := (Fld.ext E121 (Fld.ext E111 C))
  have F129 := (Fld.ext E121 (Fld.ext E111 V))
  have F130 := ((A.ext E111).ext E121)
  refine go_virtual s118 [(.ref s)] [] 0 dx1_27 rfl F123 (wd hB 146 rfl) (wd hB 147 rfl) (nf_of (wd hB 149 rfl)) (wd hB 149 rfl) (wd hB 148 rfl) (wd hB 6 rfl) (wd hB 150 rfl) (c_seq_4 hB (Ne.symm (Nat.ne_of_lt (Nat.lt_of_lt_of_le (Nat.lt_of_lt_of_le E.lt E111.1) g122))) F123 F124 F125 F126 F127 F128 F129 F130) (fun _ q => nomatch q) (lenOf pd_25 rfl) rfl rfl rfl (fun v131 h132 s133 q134 => ?_)
  obtain ⟨rfl, rfl, rfl⟩ := q134
  show Go _ _ _ _ _ _ _ _ _ _ _ _ h115 [] 5 23 30 _ [(.int 1)]
  refine go_if_ne_t (pt := 43) dx1_30 (by decide) ?_
  refine go_aloadN dx1_43 rfl rfl rfl ?_
  have F135 := (A113.ext E121)
  refine go_retA dx1_44 [] rfl rfl rfl rfl (by decide) (by decide) (fun _ q => nomatch q) ?_
  exact ⟨_, _, rfl, rfl, (ext_of_keep (((Keep.refl h []).ext E111).ext E121)), F135⟩
set_option maxRecDepth 65536 in
set_option maxHeartbeats 4000000 in
theorem c_ae_4_2 (hB : Base Z a0) {h : Heap} :
    Con l Z ELc n0 (⟨"java/lang/Math", "addExact", "(II)I"⟩ : MethodName) kb18 3 (Option.some FieldType.int) [] (⟨0, 0, 0, 0⟩ : Room) #[.int 4, .int 2] h [] (fun v h' sf' => v = some (.int 6) ∧ sf' = [] ∧ h = h') := by
  refine con_ofA hB (ls := #[.val (.int 4), .val (.int 2), .unset]) (fun m => by simp [entryFrame, mkF, argsToLocals, Value.category]) ?_
  show Go _ _ _ _ _ _ "java/lang/Math" kb18 3 _ "addExact" _ h [] 0 0 0 #[vi 4, vi 2, .unset] []
  refine go_iloadN d18_0 rfl rfl ?_
  refine go_iloadN d18_1 rfl rfl ?_
  refine go_iadd d18_2 rfl (go_eq (y := 6) (by decide) ?_)
  refine go_istoreN d18_3 rfl #[vi 4, vi 2, vi 6] rfl ?_
  refine go_iloadN d18_4 rfl rfl ?_
  refine go_iloadN d18_5 rfl rfl ?_
  refine go_ixor d18_6 rfl (go_eq (y := 2) (by decide) ?_)
  refine go_iloadN d18_7 rfl rfl ?_
  refine go_iloadN d18_8 rfl rfl ?_
  refine go_ixor d18_9 rfl (go_eq (y := 4) (by decide) ?_)
  refine go_iand d18_10 rfl (go_eq (y := 0) (by decide) ?_)
  refine go_if_ge_t (pt := 24) d18_11 (by decide) ?_
  refine go_iloadN d18_24 rfl rfl ?_
  refine go_retI d18_25 [] rfl (by decide) (by decide) (fun _ q => nomatch q) ?_
  exact ⟨rfl, rfl, rfl⟩
set_option maxRecDepth 65536 in
set_option maxHeartbeats 4000000 in
theorem c_me_4_2 (hB : Base Z a0) {h : Heap} :
    Con l Z ELc n0 (⟨"java/lang/Math", "multiplyExact", "(II)I"⟩ : MethodName) kb19 4 (Option.some FieldType.int) [] (⟨0, 0, 0, 0⟩ : Room) #[.int 4, .int 2] h [] (fun v h' sf' => v = some (.int 8) ∧ sf' = [] ∧ h = h') := by
  refine con_ofA hB (ls := #[.val (.int 4), .val (.int 2), .unset, .unset]) (fun m => by simp [entryFrame, mkF, argsToLocals, Value.category]) ?_
  show Go _ _ _ _ _ _ "java/lang/Math" kb19 4 _ "multiplyExact" _ h [] 0 0 0 #[vi 4, vi 2, .unset, .unset] []
  refine go_iloadN d19_0 rfl rfl ?_
  refine go_i2l d19_1 rfl (go_eqL (y := 4) (by decide) ?_)
  refine go_iloadN d19_2 rfl rfl ?_
  refine go_i2l d19_3 rfl (go_eqL (y := 2) (by decide) ?_)
  refine go_lmul d19_4 rfl (go_eqL (y := 8) (by decide) ?_)
  refine go_lstoreN d19_5 rfl #[vi 4, vi 2, .val (.long 8), .second] rfl ?_
  refine go_lloadN d19_6 rfl rfl ?_
  refine go_l2i d19_7 rfl (go_eq (y := 8) (by decide) ?_)
  refine go_i2l d19_8 rfl (go_eqL (y := 8) (by decide) ?_)
  refine go_lloadN d19_9 rfl rfl ?_
  refine go_lcmp d19_10 rfl (go_eq (y := 0) (by decide) ?_)
  refine go_if_eq_t (pt := 24) d19_11 (by decide) ?_
  refine go_lloadN d19_24 rfl rfl ?_
  refine go_l2i d19_25 rfl (go_eq (y := 8) (by decide) ?_)
  refine go_retI d19_26 [] rfl (by decide) (by decide) (fun _ q => nomatch q) ?_
  exact ⟨rfl, rfl, rfl⟩
set_option maxRecDepth 65536 in
set_option maxHeartbeats 4000000 in
theorem c_eol_4 (hB : Base Z a0) {ec : Addr} (E0 : IsEnc Z ec) {h : Heap} :
    ConH l Z ELc n0 (⟨"java/util/Base64$Encoder", "encodedOutLength", "(IZ)I"⟩ : MethodName) kbx2 5 (Option.some FieldType.int) [(2, 79, 82, 33)] (⟨1, 0, 0, 15⟩ : Room) #[.ref ec, .int 4, .int 1] h [] (fun v h' sf' => v = some (.int 8) ∧ sf' = [] ∧ h = h') := by
  refine con_ofAH hB (ls := #[.val (.ref ec), .val (.int 4), .val (.int 1), .unset, .unset]) (fun m => by simp [entryFrame, mkF, argsToLocals, Value.category]) ?_
  show Go _ _ _ _ _ _ "java/util/Base64$Encoder" kbx2 5 _ "encodedOutLength" _ h [] 0 0 0 #[vr ec, vi 4, vi 1, .unset, .unset] []
  refine Go.old (fun hOld => ?_)
  obtain ⟨EX, E1, E3, E4⟩ := id E0
  have EXh := Exa.ext hOld.2 EX
  have E1h := Fld.ext hOld.2 E1
  have E3h := Fld.ext hOld.2 E3
  have E4h := Fld.ext hOld.2 E4
  refine go_iconst 0 dx2_0 rfl ?_
  refine go_istoreN dx2_1 rfl #[vr ec, vi 4, vi 1, vi 0, .unset] rfl ?_
  refine go_aloadN dx2_2 rfl rfl rfl ?_
  refine go_getfield dx2_3 rfl (wd hB 115 rfl) Via.refl E4h ?_
  refine go_if_eq_f dx2_6 rfl (by decide) ?_
  refine go_iconst 4 dx2_9 rfl ?_
  refine go_iloadN dx2_10 rfl rfl ?_
  refine go_iconst 2 dx2_11 rfl ?_
  refine go_static [(.int 4), (.int 2)] [(.int 4)] 1 dx2_12 rfl (wd hB 117 rfl) (wd hB 118 rfl) (wd hB 119 rfl) (wd hB 120 rfl) (c_ae_4_2 hB) (fun _ q => nomatch q) (lenOf pd_18 rfl) rfl rfl rfl (fun v101 h102 s103 q104 => ?_)
  obtain ⟨rfl, rfl, rfl⟩ := q104
  show Go _ _ _ _ _ _ _ _ _ _ _ _ h [] 0 0 15 _ [(.int 6), (.int 4)]
  refine go_iconst 3 dx2_15 rfl ?_
  refine go_idiv dx2_16 rfl (by decide) (go_eq (y := 2) (by decide) ?_)
  refine go_static [(.int 4), (.int 2)] [] 0 dx2_17 rfl (wd hB 121 rfl) (wd hB 122 rfl) (wd hB 119 rfl) (wd hB 123 rfl) (c_me_4_2 hB) (fun _ q => nomatch q) (lenOf pd_18 rfl) rfl rfl rfl (fun v105 h106 s107 q108 => ?_)
  obtain ⟨rfl, rfl, rfl⟩ := q108
  show Go _ _ _ _ _ _ _ _ _ _ _ _ h [] 0 0 20 _ [(.int 8)]
  refine go_istoreN dx2_20 rfl #[vr ec, vi 4, vi 1, vi 8, .unset] rfl ?_
  refine go_goto (pt := 53) dx2_21 ?_
  refine go_aloadN dx2_53 rfl rfl rfl ?_
  refine go_getfield dx2_54 rfl (wd hB 124 rfl) Via.refl E3h ?_
  refine go_if_le_t (pt := 79) dx2_57 (by decide) ?_
  refine go_goto (pt := 100) dx2_79 ?_
  refine go_iloadN dx2_100 rfl rfl ?_
  refine go_retI dx2_101 [] rfl (by decide) (by decide) (fun _ q => nomatch q) ?_
  exact ⟨rfl, rfl, rfl⟩
set_option maxRecDepth 65536 in
set_option maxHeartbeats 4000000 in
theorem c_eb_4 (hB : Base Z a0) (b0 b1 b2 b3 b4 b5 : Nat) (hb0 : b0 < 256) (hb1 : b1 < 256) (hb2 : b2 < 256) (hb3 : b3 < 256) (hb4 : b4 < 256) (hb5 : b5 < 256) {ec : Addr} {src dst : Addr} {ks kd : ClassId} (hsd : src ≠ dst) {h : Heap} (A : Arv Z h src ks .byte 4 [(lv (Int32.ofNat b0)), (lv (Int32.ofNat b1)), (lv (Int32.ofNat b2)), (lv (Int32.ofNat b3))] (.int 0)) (B : Arv Z h dst kd .byte 8 [(.int 0), (.int 0), (.int 0), (.int 0), (.int 0), (.int 0), (.int 0), (.int 0)] (.int 0)) :
    Con l Z ELc n0 (⟨"java/util/Base64$Encoder", "encodeBlock", "([BII[BIZ)V"⟩ : MethodName) kb35 11 (Option.none : Option FieldType) [] (⟨0, 0, 0, 0⟩ : Room) #[.ref ec, .ref src, .int 0, .int 3, .ref dst, .int 0, .int 0] h [dst] (fun v h' sf' => v = none ∧ sf' = [] ∧ Keep h h' [dst] ∧ Arv Z h' dst kd .byte 8 [(lv (T (X0 b0))), (lv (T (X1 b0 b1))), (lv (T (X2 b1 b2))), (lv (T (X3 b2))), (.int 0), (.int 0), (.int 0), (.int 0)] (.int 0)) := by
  refine con_ofA hB (ls := #[.val (.ref ec), .val (.ref src), .val (.int 0), .val (.int 3), .val (.ref dst), .val (.int 0), .val (.int 0), .unset, .unset, .unset, .unset]) (fun m => by simp [entryFrame, mkF, argsToLocals, Value.category]) ?_
  show Go _ _ _ _ _ _ "java/util/Base64$Encoder" kb35 11 _ "encodeBlock" _ h [dst] 0 0 0 #[vr ec, vr src, vi 0, vi 3, vr dst, vi 0, vi 0, .unset, .unset, .unset, .unset] []
  have lt101 : X0 b0 < 64 := (x0_lt hb0)
  have lt102 : X1 b0 b1 < 64 := (x1_lt hb0 hb1)
  have lt103 : X2 b1 b2 < 64 := (x2_lt hb1 hb2)
  have lt104 : X3 b2 < 64 := (x3_lt hb2)
  have lt105 : X0 b3 < 64 := (x0_lt hb3)
  have lt106 : X1 b3 0 < 64 := (x1_lt hb3 (by decide : 0 < 256))
  refine Go.owned (fun hOw => ?_)
  have hge := (hOw dst (List.Mem.head _)).2
  obtain ⟨tb, kt, hSt, hAt⟩ := hB.2.2.2.2.2.2.2.2.2.1
  refine Go.old (fun hOld => ?_)
  have hAu := hAt.ext hOld.2
  refine go_iload d35_0 rfl rfl ?_
  refine go_if_eq_t (pt := 11) d35_2 (by decide) ?_
  refine go_getstatic d35_11 rfl (wd hB 133 rfl) Via.refl hSt ?_
  refine go_astore d35_14 rfl #[vr ec, vr src, vi 0, vi 3, vr dst, vi 0, vi 0, vr tb, .unset, .unset, .unset] rfl rfl ?_
  refine go_iloadN d35_16 rfl rfl ?_
  refine go_istore d35_17 rfl #[vr ec, vr src, vi 0, vi 3, vr dst, vi 0, vi 0, vr tb, vi 0, .unset, .unset] rfl ?_
  refine go_iload d35_19 rfl rfl ?_
  refine go_istore d35_21 rfl #[vr ec, vr src, vi 0, vi 3, vr dst, vi 0, vi 0, vr tb, vi 0, vi 0, .unset] rfl ?_
  refine go_iload d35_23 rfl rfl ?_
  refine go_iloadN d35_25 rfl rfl ?_
  refine go_icmp_ge_f d35_26 rfl (by decide) ?_
  refine go_aloadN d35_29 rfl rfl rfl ?_
  refine go_iload d35_30 rfl rfl ?_
  refine go_iincV 1 1 d35_32 rfl #[vr ec, vr src, vi 0, vi 3, vr dst, vi 0, vi 0, vr tb, vi 1, vi 0, .unset] (by decide) rfl (by decide) rfl ?_
  refine go_baload (v := (.int ((Int32.ofNat b0).toInt8.toInt32))) 0 d35_35 rfl A ⟨by decide, by decide⟩ (by decide) rfl ?_
  refine go_sipush 255 d35_36 rfl ?_
  refine go_iand d35_39 rfl (go_eq (y := Int32.ofNat b0) (B_isC hb0).back ?_)
  refine go_bipush 16 d35_40 rfl ?_
  refine go_ishl d35_42 rfl (go_eq (y := Int32.ofNat (b0 * 65536)) (shlE (k := 16) (by decide) (by decide) (by omega) rfl (by omega)) ?_)
  refine go_aloadN d35_43 rfl rfl rfl ?_
  refine go_iload d35_44 rfl rfl ?_
  refine go_iincV 1 2 d35_46 rfl #[vr ec, vr src, vi 0, vi 3, vr dst, vi 0, vi 0, vr tb, vi 2, vi 0, .unset] (by decide) rfl (by decide) rfl ?_
  refine go_baload (v := (.int ((Int32.ofNat b1).toInt8.toInt32))) 1 d35_49 rfl A ⟨by decide, by decide⟩ (by decide) rfl ?_
  refine go_sipush 255 d35_50 rfl ?_
  refine go_iand d35_53 rfl (go_eq (y := Int32.ofNat b1) (B_isC hb1).back ?_)
  refine go_bipush 8 d35_54 rfl ?_
  refine go_ishl d35_56 rfl (go_eq (y := Int32.ofNat (b1 * 256)) (shlE (k := 8) (by decide) (by decide) (by omega) rfl (by omega)) ?_)
  refine go_ior d35_57 rfl (go_eq (y := Int32.ofNat (b0 * 65536 + b1 * 256)) (orE (k := 16) (by omega) (by omega) rfl (by omega)) ?_)
  refine go_aloadN d35_58 rfl rfl rfl ?_
  refine go_iload d35_59 rfl rfl ?_
  refine go_iincV 1 3 d35_61 rfl #[vr ec, vr src, vi 0, vi 3, vr dst, vi 0, vi 0, vr tb, vi 3, vi 0, .unset] (by decide) rfl (by decide) rfl ?_
  refine go_baload (v := (.int ((Int32.ofNat b2).toInt8.toInt32))) 2 d35_64 rfl A ⟨by decide, by decide⟩ (by decide) rfl ?_
  refine go_sipush 255 d35_65 rfl ?_
  refine go_iand d35_68 rfl (go_eq (y := Int32.ofNat b2) (B_isC hb2).back ?_)
  refine go_ior d35_69 rfl (go_eq (y := Int32.ofNat (b0 * 65536 + b1 * 256 + b2)) (orE (k := 8) (by omega) (by omega) rfl (by omega)) ?_)
  refine go_istore d35_70 rfl #[vr ec, vr src, vi 0, vi 3, vr dst, vi 0, vi 0, vr tb, vi 3, vi 0, vi (Int32.ofNat (b0 * 65536 + b1 * 256 + b2))] rfl ?_
  refine go_aload d35_72 rfl rfl rfl ?_
  refine go_iload d35_74 rfl rfl ?_
  refine go_iincV 1 1 d35_76 rfl #[vr ec, vr src, vi 0, vi 3, vr dst, vi 0, vi 0, vr tb, vi 3, vi 1, vi (Int32.ofNat (b0 * 65536 + b1 * 256 + b2))] (by decide) rfl (by decide) rfl ?_
  refine go_aload d35_79 rfl rfl rfl ?_
  refine go_iload d35_81 rfl rfl ?_
  refine go_bipush 18 d35_83 rfl ?_
  refine go_iushr d35_85 rfl (go_eq (y := Int32.ofNat ((b0 * 65536 + b1 * 256 + b2) / 262144)) (ushrE (k := 18) (by decide) (by decide) (by omega) rfl) ?_)
  refine go_bipush 63 d35_86 rfl ?_
  refine go_iand d35_88 rfl (go_eq (y := Int32.ofNat (X0 b0)) (and63 (by omega) (by simp only [X0, X1, X2, X3] <;> omega)) ?_)
  refine go_caload (v := (.int (T (X0 b0)))) (X0 b0) d35_89 rfl hAu (N_in lt101) (N_cl lt101) (tb_at lt101) ?_
  refine go_i2b d35_90 rfl ?_
  refine go_bastoreV 0 ((T (X0 b0)).toInt8.toInt32) d35_91 rfl (i8i8 _) B ⟨by decide, by decide⟩ (by decide) (by show 0 < 8; decide) (List.Mem.head _) ?_
  intro h107 W108 B109
  have B110 : Arv Z h107 dst kd .byte 8 [(lv (T (X0 b0))), (.int 0), (.int 0), (.int 0), (.int 0), (.int 0), (.int 0), (.int 0)] (.int 0) := B109
  refine go_aload d35_92 rfl rfl rfl ?_
  refine go_iload d35_94 rfl rfl ?_
  refine go_iincV 1 2 d35_96 rfl #[vr ec, vr src, vi 0, vi 3, vr dst, vi 0, vi 0, vr tb, vi 3, vi 2, vi (Int32.ofNat (b0 * 65536 + b1 * 256 + b2))] (by decide) rfl (by decide) rfl ?_
  refine go_aload d35_99 rfl rfl rfl ?_
  refine go_iload d35_101 rfl rfl ?_
  refine go_bipush 12 d35_103 rfl ?_
  refine go_iushr d35_105 rfl (go_eq (y := Int32.ofNat ((b0 * 65536 + b1 * 256 + b2) / 4096)) (ushrE (k := 12) (by decide) (by decide) (by omega) rfl) ?_)
  refine go_bipush 63 d35_106 rfl ?_
  refine go_iand d35_108 rfl (go_eq (y := Int32.ofNat (X1 b0 b1)) (and63 (by omega) (by simp only [X0, X1, X2, X3] <;> omega)) ?_)
  have F111 := (Arv.other hAu W108 (old_ne hOld hAt.lt hge))
  refine go_caload (v := (.int (T (X1 b0 b1)))) (X1 b0 b1) d35_109 rfl F111 (N_in lt102) (N_cl lt102) (tb_at lt102) ?_
  refine go_i2b d35_110 rfl ?_
  refine go_bastoreV 1 ((T (X1 b0 b1)).toInt8.toInt32) d35_111 rfl (i8i8 _) B110 ⟨by decide, by decide⟩ (by decide) (by show 1 < 8; decide) (List.Mem.head _) ?_
  intro h112 W113 B114
  have B115 : Arv Z h112 dst kd .byte 8 [(lv (T (X0 b0))), (lv (T (X1 b0 b1))), (.int 0), (.int 0), (.int 0), (.int 0), (.int 0), (.int 0)] (.int 0) := B114
  refine go_aload d35_112 rfl rfl rfl ?_
  refine go_iload d35_114 rfl rfl ?_
  refine go_iincV 1 3 d35_116 rfl #[vr ec, vr src, vi 0, vi 3, vr dst, vi 0, vi 0, vr tb, vi 3, vi 3, vi (Int32.ofNat (b0 * 65536 + b1 * 256 + b2))] (by decide) rfl (by decide) rfl ?_
  refine go_aload d35_119 rfl rfl rfl ?_
  refine go_iload d35_121 rfl rfl ?_
  refine go_bipush 6 d35_123 rfl ?_
  refine go_iushr d35_125 rfl (go_eq (y := Int32.ofNat ((b0 * 65536 + b1 * 256 + b2) / 64)) (ushrE (k := 6) (by decide) (by decide) (by omega) rfl) ?_)
  refine go_bipush 63 d35_126 rfl ?_
  refine go_iand d35_128 rfl (go_eq (y := Int32.ofNat (X2 b1 b2)) (and63 (by omega) (by simp only [X0, X1, X2, X3] <;> omega)) ?_)
  have F116 := (Arv.other F111 W113 (old_ne hOld hAt.lt hge))
  refine go_caload (v := (.int (T (X2 b1 b2)))) (X2 b1 b2) d35_129 rfl F116 (N_in lt103) (N_cl lt103) (tb_at lt103) ?_
  refine go_i2b d35_130 rfl ?_
  refine go_bastoreV 2 ((T (X2 b1 b2)).toInt8.toInt32) d35_131 rfl (i8i8 _) B115 ⟨by decide, by decide⟩ (by decide) (by show 2 < 8; decide) (List.Mem.head _) ?_
  intro h117 W118 B119
  have B120 : Arv Z h117 dst kd .byte 8 [(lv (T (X0 b0))), (lv (T (X1 b0 b1))), (lv (T (X2 b1 b2))), (.int 0), (.int 0), (.int 0), (.int 0), (.int 0)] (.int 0) := B119
  refine go_aload d35_132 rfl rfl rfl ?_
  refine go_iload d35_134 rfl rfl ?_
  refine go_iincV 1 4 d35_136 rfl #[vr ec, vr src, vi 0, vi 3, vr dst, vi 0, vi 0, vr tb, vi 3, vi 4, vi (Int32.ofNat (b0 * 65536 + b1 * 256 + b2))] (by decide) rfl (by decide) rfl ?_
  refine go_aload d35_139 rfl rfl rfl ?_
  refine go_iload d35_141 rfl rfl ?_
  refine go_bipush 63 d35_143 rfl ?_
  refine go_iand d35_145 rfl (go_eq (y := Int32.ofNat (X3 b2)) (and63 (by omega) (by simp only [X0, X1, X2, X3] <;> omega)) ?_)
  have F121 := (Arv.other F116 W118 (old_ne hOld hAt.lt hge))
  refine go_caload (v := (.int (T (X3 b2)))) (X3 b2) d35_146 rfl F121 (N_in lt104) (N_cl lt104) (tb_at lt104) ?_
  refine go_i2b d35_147 rfl ?_
  refine go_bastoreV 3 ((T (X3 b2)).toInt8.toInt32) d35_148 rfl (i8i8 _) B120 ⟨by decide, by decide⟩ (by decide) (by show 3 < 8; decide) (List.Mem.head _) ?_
  intro h122 W123 B124
  have B125 : Arv Z h122 dst kd .byte 8 [(lv (T (X0 b0))), (lv (T (X1 b0 b1))), (lv (T (X2 b1 b2))), (lv (T (X3 b2))), (.int 0), (.int 0), (.int 0), (.int 0)] (.int 0) := B124
  refine go_goto (pt := 23) d35_149 ?_
  refine go_iload d35_23 rfl rfl ?_
  refine go_iloadN d35_25 rfl rfl ?_
  refine go_icmp_ge_t (pt := 152) d35_26 (by decide) ?_
  refine go_ret d35_152 [] rfl (by decide) (by decide) (fun _ q => nomatch q) ?_
  exact ⟨rfl, rfl, (((((Keep.refl h [dst]).wr W108 (Or.inl (List.Mem.head _))).wr W113 (Or.inl (List.Mem.head _))).wr W118 (Or.inl (List.Mem.head _))).wr W123 (Or.inl (List.Mem.head _))), B125⟩
set_option maxRecDepth 65536 in
set_option maxHeartbeats 4000000 in
theorem c_e0_4 (hB : Base Z a0) (b0 b1 b2 b3 b4 b5 : Nat) (hb0 : b0 < 256) (hb1 : b1 < 256) (hb2 : b2 < 256) (hb3 : b3 < 256) (hb4 : b4 < 256) (hb5 : b5 < 256) {ec : Addr} (E0 : IsEnc Z ec) {src dst : Addr} {ks kd : ClassId} (hsd : src ≠ dst) {h : Heap} (A : Arv Z h src ks .byte 4 [(lv (Int32.ofNat b0)), (lv (Int32.ofNat b1)), (lv (Int32.ofNat b2)), (lv (Int32.ofNat b3))] (.int 0)) (B : Arv Z h dst kd .byte 8 [(.int 0), (.int 0), (.int 0), (.int 0), (.int 0), (.int 0), (.int 0), (.int 0)] (.int 0)) :
    Con l Z ELc n0 (⟨"java/util/Base64$Encoder", "encode0", "([BII[B)I"⟩ : MethodName) kb20 16 (Option.some FieldType.int) [] (⟨1, 0, 0, 22⟩ : Room) #[.ref ec, .ref src, .int 0, .int 4, .ref dst] h [dst] (fun v h' sf' => v = some (.int 8) ∧ sf' = [] ∧ Keep h h' [dst] ∧ Arv Z h' dst kd .byte 8 [(lv (T (X0 b0))), (lv (T (X1 b0 b1))), (lv (T (X2 b1 b2))), (lv (T (X3 b2))), (lv (T (X0 b3))), (lv (T (X1 b3 0))), (lv (61 : Int32)), (lv (61 : Int32))] (.int 0)) := by
  refine con_ofA hB (ls := #[.val (.ref ec), .val (.ref src), .val (.int 0), .val (.int 4), .val (.ref dst), .unset, .unset, .unset, .unset, .unset, .unset, .unset, .unset, .unset, .unset, .unset]) (fun m => by simp [entryFrame, mkF, argsToLocals, Value.category]) ?_
  show Go _ _ _ _ _ _ "java/util/Base64$Encoder" kb20 16 _ "encode0" _ h [dst] 0 0 0 #[vr ec, vr src, vi 0, vi 4, vr dst, .unset, .unset, .unset, .unset, .unset, .unset, .unset, .unset, .unset, .unset, .unset] []
  have lt101 : X0 b0 < 64 := (x0_lt hb0)
  have lt102 : X1 b0 b1 < 64 := (x1_lt hb0 hb1)
  have lt103 : X2 b1 b2 < 64 := (x2_lt hb1 hb2)
  have lt104 : X3 b2 < 64 := (x3_lt hb2)
  have lt105 : X0 b3 < 64 := (x0_lt hb3)
  have lt106 : X1 b3 0 < 64 := (x1_lt hb3 (by decide : 0 < 256))
  refine Go.owned (fun hOw => ?_)
  have hge := (hOw dst (List.Mem.head _)).2
  refine Go.old (fun hOld => ?_)
  obtain ⟨EX, E1, E3, E4⟩ := id E0
  have EXh := Exa.ext hOld.2 EX
  have E1h := Fld.ext hOld.2 E1
  have E3h := Fld.ext hOld.2 E3
  have E4h := Fld.ext hOld.2 E4
  obtain ⟨tb, kt, hSt, hAt⟩ := hB.2.2.2.2.2.2.2.2.2.1
  have hAu := hAt.ext hOld.2
  refine go_aloadN d20_0 rfl rfl rfl ?_
  refine go_getfield d20_1 rfl (wd hB 131 rfl) Via.refl E1h ?_
  refine go_if_eq_t (pt := 13) d20_4 (by decide) ?_
  refine go_getstatic d20_13 rfl (wd hB 133 rfl) Via.refl hSt ?_
  refine go_astore d20_16 rfl #[vr ec, vr src, vi 0, vi 4, vr dst, vr tb, .unset, .unset, .unset, .unset, .unset, .unset, .unset, .unset, .unset, .unset] rfl rfl ?_
  refine go_iloadN d20_18 rfl rfl ?_
  refine go_istore d20_19 rfl #[vr ec, vr src, vi 0, vi 4, vr dst, vr tb, vi 0, .unset, .unset, .unset, .unset, .unset, .unset, .unset, .unset, .unset] rfl ?_
  refine go_iloadN d20_21 rfl rfl ?_
  refine go_iloadN d20_22 rfl rfl ?_
  refine go_isub d20_23 rfl (go_eq (y := 4) (by decide) ?_)
  refine go_iconst 3 d20_24 rfl ?_
  refine go_idiv d20_25 rfl (by decide) (go_eq (y := 1) (by decide) ?_)
  refine go_iconst 3 d20_26 rfl ?_
  refine go_imul d20_27 rfl (go_eq (y := 3) (by decide) ?_)
  refine go_istore d20_28 rfl #[vr ec, vr src, vi 0, vi 4, vr dst, vr tb, vi 0, vi 3, .unset, .unset, .unset, .unset, .unset, .unset, .unset, .unset] rfl ?_
  refine go_iloadN d20_30 rfl rfl ?_
  refine go_iload d20_31 rfl rfl ?_
  refine go_iadd d20_33 rfl (go_eq (y := 3) (by decide) ?_)
  refine go_istore d20_34 rfl #[vr ec, vr src, vi 0, vi 4, vr dst, vr tb, vi 0, vi 3, vi 3, .unset, .unset, .unset, .unset, .unset, .unset, .unset] rfl ?_
  refine go_aloadN d20_36 rfl rfl rfl ?_
  refine go_getfield d20_37 rfl (wd hB 124 rfl) Via.refl E3h ?_
  refine go_if_le_t (pt := 66) d20_40 (by decide) ?_
  refine go_iconst 0 d20_66 rfl ?_
  refine go_istore d20_67 rfl #[vr ec, vr src, vi 0, vi 4, vr dst, vr tb, vi 0, vi 3, vi 3, vi 0, .unset, .unset, .unset, .unset, .unset, .unset] rfl ?_
  refine go_iload d20_69 rfl rfl ?_
  refine go_iload d20_71 rfl rfl ?_
  refine go_icmp_ge_f d20_73 rfl (by decide) ?_
  refine go_iload d20_76 rfl rfl ?_
  refine go_iload d20_78 rfl rfl ?_
  refine go_iadd d20_80 rfl (go_eq (y := 3) (by decide) ?_)
  refine go_iload d20_81 rfl rfl ?_
  refine go_static [(.int 3), (.int 3)] [] 0 d20_83 rfl (wd hB 191 rfl) (wd hB 192 rfl) (wd hB 119 rfl) (wd hB 193 rfl) (c_min_3_3 hB) (fun _ q => nomatch q) (lenOf pd_18 rfl) rfl rfl rfl (fun v107 h108 s109 q110 => ?_)
  obtain ⟨rfl, rfl, rfl⟩ := q110
  show Go _ _ _ _ _ _ _ _ _ _ _ _ h [dst] 0 0 86 _ [(.int 3)]
  refine go_istore d20_86 rfl #[vr ec, vr src, vi 0, vi 4, vr dst, vr tb, vi 0, vi 3, vi 3, vi 0, vi 3, .unset, .unset, .unset, .unset, .unset] rfl ?_
  refine go_aloadN d20_88 rfl rfl rfl ?_
  refine go_aloadN d20_89 rfl rfl rfl ?_
  refine go_iload d20_90 rfl rfl ?_
  refine go_iload d20_92 rfl rfl ?_
  refine go_aload d20_94 rfl rfl rfl ?_
  refine go_iload d20_96 rfl rfl ?_
  refine go_aloadN d20_98 rfl rfl rfl ?_
  refine go_getfield d20_99 rfl (wd hB 131 rfl) Via.refl E1h ?_
  refine go_virtual ec [(.ref src), (.int 0), (.int 3), (.ref dst), (.int 0), (.int 0)] [] 0 d20_102 rfl EXh (wd hB 194 rfl) (declares_of (wd hB 195 rfl) (wd hB 198 rfl)) (nf_of (wd hB 197 rfl)) (wd hB 197 rfl) (wd hB 195 rfl) (wd hB 99 rfl) (wd hB 198 rfl) (c_eb_4 hB b0 b1 b2 b3 b4 b5 hb0 hb1 hb2 hb3 hb4 hb5 hsd A B) (allS (List.Mem.head _) (fun _ q => nomatch q)) (lenOf pd_26 rfl) rfl rfl rfl (fun v111 h112 s113 q114 => ?_)
  obtain ⟨rfl, rfl, K115, B116⟩ := q114
  show Go _ _ _ _ _ _ _ _ _ _ _ _ h112 [dst] 0 0 105 _ []
  refine go_iload d20_105 rfl rfl ?_
  refine go_iload d20_107 rfl rfl ?_
  refine go_isub d20_109 rfl (go_eq (y := 3) (by decide) ?_)
  refine go_iconst 3 d20_110 rfl ?_
  refine go_idiv d20_111 rfl (by decide) (go_eq (y := 1) (by decide) ?_)
  refine go_iconst 4 d20_112 rfl ?_
  refine go_imul d20_113 rfl (go_eq (y := 4) (by decide) ?_)
  refine go_istore d20_114 rfl #[vr ec, vr src, vi 0, vi 4, vr dst, vr tb, vi 0, vi 3, vi 3, vi 0, vi 3, vi 4, .unset, .unset, .unset, .unset] rfl ?_
  refine go_iload d20_116 rfl rfl ?_
  refine go_iload d20_118 rfl rfl ?_
  refine go_iadd d20_120 rfl (go_eq (y := 4) (by decide) ?_)
  refine go_istore d20_121 rfl #[vr ec, vr src, vi 0, vi 4, vr dst, vr tb, vi 0, vi 3, vi 3, vi 4, vi 3, vi 4, .unset, .unset, .unset, .unset] rfl ?_
  refine go_iload d20_123 rfl rfl ?_
  refine go_istore d20_125 rfl #[vr ec, vr src, vi 0, vi 4, vr dst, vr tb, vi 3, vi 3, vi 3, vi 4, vi 3, vi 4, .unset, .unset, .unset, .unset] rfl ?_
  refine go_iload d20_127 rfl rfl ?_
  refine go_aloadN d20_129 rfl rfl rfl ?_
  have F117 := (E3h.keep K115 (ninS (old_ne hOld EX.lt hge) nin0))
  refine go_getfield d20_130 rfl (wd hB 124 rfl) Via.refl F117 ?_
  refine go_icmp_ne_t (pt := 186) d20_133 (by decide) ?_
  refine go_goto (pt := 69) d20_186 ?_
  refine go_iload d20_69 rfl rfl ?_
  refine go_iload d20_71 rfl rfl ?_
  refine go_icmp_ge_t (pt := 189) d20_73 (by decide) ?_
  refine go_iload d20_189 rfl rfl ?_
  refine go_iloadN d20_191 rfl rfl ?_
  refine go_icmp_ge_f d20_192 rfl (by decide) ?_
  refine go_aloadN d20_195 rfl rfl rfl ?_
  refine go_iload d20_196 rfl rfl ?_
  refine go_iincV 1 4 d20_198 rfl #[vr ec, vr src, vi 0, vi 4, vr dst, vr tb, vi 4, vi 3, vi 3, vi 4, vi 3, vi 4, .unset, .unset, .unset, .unset] (by decide) rfl (by decide) rfl ?_
  have F118 := (A.keep K115 (ninS hsd nin0))
  refine go_baload (v := (.int ((Int32.ofNat b3).toInt8.toInt32))) 3 d20_201 rfl F118 ⟨by decide, by decide⟩ (by decide) rfl ?_
  refine go_sipush 255 d20_202 rfl ?_
  refine go_iand d20_205 rfl (go_eq (y := Int32.ofNat b3) (B_isC hb3).back ?_)
  refine go_istore d20_206 rfl #[vr ec, vr src, vi 0, vi 4, vr dst, vr tb, vi 4, vi 3, vi 3, vi 4, vi (Int32.ofNat b3), vi 4, .unset, .unset, .unset, .unset] rfl ?_
  refine go_aload d20_208 rfl rfl rfl ?_
  refine go_iload d20_210 rfl rfl ?_
  refine go_iincV 1 5 d20_212 rfl #[vr ec, vr src, vi 0, vi 4, vr dst, vr tb, vi 4, vi 3, vi 3, vi 5, vi (Int32.ofNat b3), vi 4, .unset, .unset, .unset, .unset] (by decide) rfl (by decide) rfl ?_
  refine go_aload d20_215 rfl rfl rfl ?_
  refine go_iload d20_217 rfl rfl ?_
  refine go_iconst 2 d20_219 rfl ?_
  refine go_ishr d20_220 rfl (go_eq (y := Int32.ofNat (X0 b3)) (shrE (k := 2) (by decide) (by decide) (by omega) rfl) ?_)
  have F119 := (hAu.keep K115 (ninS (old_ne hOld hAt.lt hge) nin0))
  refine go_caload (v := (.int (T (X0 b3)))) (X0 b3) d20_221 rfl F119 (N_in lt105) (N_cl lt105) (tb_at lt105) ?_
  refine go_i2b d20_222 rfl ?_
  refine go_bastoreV 4 ((T (X0 b3)).toInt8.toInt32) d20_223 rfl (i8i8 _) B116 ⟨by decide, by decide⟩ (by decide) (by show 4 < 8; decide) (List.Mem.head _) ?_
  intro h120 W121 B122
  have B123 : Arv Z h120 dst kd .byte 8 [(lv (T (X0 b0))), (lv (T (X1 b0 b1))), (lv (T (X2 b1 b2))), (lv (T (X3 b2))), (lv (T (X0 b3))), (.int 0), (.int 0), (.int 0)] (.int 0) := B122
  refine go_iload d20_224 rfl rfl ?_
  refine go_iloadN d20_226 rfl rfl ?_
  refine go_icmp_ne_f d20_227 rfl (by decide) ?_
  refine go_aload d20_230 rfl rfl rfl ?_
  refine go_iload d20_232 rfl rfl ?_
  refine go_iincV 1 6 d20_234 rfl #[vr ec, vr src, vi 0, vi 4, vr dst, vr tb, vi 4, vi 3, vi 3, vi 6, vi (Int32.ofNat b3), vi 4, .unset, .unset, .unset, .unset] (by decide) rfl (by decide) rfl ?_
  refine go_aload d20_237 rfl rfl rfl ?_
  refine go_iload d20_239 rfl rfl ?_
  refine go_iconst 4 d20_241 rfl ?_
  refine go_ishl d20_242 rfl (go_eq (y := Int32.ofNat (b3 * 16)) (shlE (k := 4) (by decide) (by decide) (by omega) rfl (by omega)) ?_)
  refine go_bipush 63 d20_243 rfl ?_
  refine go_iand d20_245 rfl (go_eq (y := Int32.ofNat (X1 b3 0)) (and63 (by omega) (by simp only [X0, X1, X2, X3] <;> omega)) ?_)
  have F124 := (Arv.other F119 W121 (old_ne hOld hAt.lt hge))
  refine go_caload (v := (.int (T (X1 b3 0)))) (X1 b3 0) d20_246 rfl F124 (N_in lt106) (N_cl lt106) (tb_at lt106) ?_
  refine go_i2b d20_247 rfl ?_
  refine go_bastoreV 5 ((T (X1 b3 0)).toInt8.toInt32) d20_248 rfl (i8i8 _) B123 ⟨by decide, by decide⟩ (by decide) (by show 5 < 8; decide) (List.Mem.head _) ?_
  intro h125 W126 B127
  have B128 : Arv Z h125 dst kd .byte 8 [(lv (T (X0 b0))), (lv (T (X1 b0 b1))), (lv (T (X2 b1 b2))), (lv (T (X3 b2))), (lv (T (X0 b3))), (lv (T (X1 b3 0))), (.int 0), (.int 0)] (.int 0) := B127
  refine go_aloadN d20_249 rfl rfl rfl ?_
  have F129 := (Fld.other W126 (Fld.other W121 (E4h.keep K115 (ninS (old_ne hOld EX.lt hge) nin0)) (Or.inl (old_ne hOld EX.lt hge))) (Or.inl (old_ne hOld EX.lt hge)))
  refine go_getfield d20_250 rfl (wd hB 115 rfl) Via.refl F129 ?_
  refine go_if_eq_f d20_253 rfl (by decide) ?_
  refine go_aload d20_256 rfl rfl rfl ?_
  refine go_iload d20_258 rfl rfl ?_
  refine go_iincV 1 7 d20_260 rfl #[vr ec, vr src, vi 0, vi 4, vr dst, vr tb, vi 4, vi 3, vi 3, vi 7, vi (Int32.ofNat b3), vi 4, .unset, .unset, .unset, .unset] (by decide) rfl (by decide) rfl ?_
  refine go_bipush 61 d20_263 rfl ?_
  refine go_bastoreV 6 ((61 : Int32).toInt8.toInt32) d20_265 rfl rfl B128 ⟨by decide, by decide⟩ (by decide) (by show 6 < 8; decide) (List.Mem.head _) ?_
  intro h130 W131 B132
  have B133 : Arv Z h130 dst kd .byte 8 [(lv (T (X0 b0))), (lv (T (X1 b0 b1))), (lv (T (X2 b1 b2))), (lv (T (X3 b2))), (lv (T (X0 b3))), (lv (T (X1 b3 0))), (lv (61 : Int32)), (.int 0)] (.int 0) := B132
  refine go_aload d20_266 rfl rfl rfl ?_
  refine go_iload d20_268 rfl rfl ?_
  refine go_iincV 1 8 d20_270 rfl #[vr ec, vr src, vi 0, vi 4, vr dst, vr tb, vi 4, vi 3, vi 3, vi 8, vi (Int32.ofNat b3), vi 4, .unset, .unset, .unset, .unset] (by decide) rfl (by decide) rfl ?_
  refine go_bipush 61 d20_273 rfl ?_
  refine go_bastoreV 7 ((61 : Int32).toInt8.toInt32) d20_275 rfl rfl B133 ⟨by decide, by decide⟩ (by decide) (by show 7 < 8; decide) (List.Mem.head _) ?_
  intro h134 W135 B136
  have B137 : Arv Z h134 dst kd .byte 8 [(lv (T (X0 b0))), (lv (T (X1 b0 b1))), (lv (T (X2 b1 b2))), (lv (T (X3 b2))), (lv (T (X0 b3))), (lv (T (X1 b3 0))), (lv (61 : Int32)), (lv (61 : Int32))] (.int 0) := B136
  refine go_goto (pt := 352) d20_276 ?_
  refine go_iload d20_352 rfl rfl ?_
  refine go_retI d20_354 [] rfl (by decide) (by decide) (fun _ q => nomatch q) ?_
  exact ⟨rfl, rfl, ((((((Keep.refl h [dst]).trans K115 (allS (Or.inl (List.Mem.head _)) all0)).wr W121 (Or.inl (List.Mem.head _))).wr W126 (Or.inl (List.Mem.head _))).wr W131 (Or.inl (List.Mem.head _))).wr W135 (Or.inl (List.Mem.head _))), B137⟩
set_option maxRecDepth 65536 in
set_option maxHeartbeats 4000000 in
theorem c_ea_4 (hB : Base Z a0) (b0 b1 b2 b3 b4 b5 : Nat) (hb0 : b0 < 256) (hb1 : b1 < 256) (hb2 : b2 < 256) (hb3 : b3 < 256) (hb4 : b4 < 256) (hb5 : b5 < 256) {ec : Addr} (E0 : IsEnc Z ec) {src : Addr} {ks : ClassId} {h : Heap} (A : Arv Z h src ks .byte 4 [(lv (Int32.ofNat b0)), (lv (Int32.ofNat b1)), (lv (Int32.ofNat b2)), (lv (Int32.ofNat b3))] (.int 0)) :
    Con l Z ELc n0 (⟨"java/util/Base64$Encoder", "encode", "([B)[B"⟩ : MethodName) kb17 5 (Option.some (FieldType.array FieldType.byte)) [] (⟨2, 1, 8, 49⟩ : Room) #[.ref ec, .ref src] h [] (fun v h' sf' => ∃ r kr, v = some (.ref r) ∧ sf' = [] ∧ Ext h h' ∧ h.size ≤ r ∧ Exa Z h' r "[B" ∧ Arv Z h' r kr .byte 8 [(lv (T (X0 b0))), (lv (T (X1 b0 b1))), (lv (T (X2 b1 b2))), (lv (T (X3 b2))), (lv (T (X0 b3))), (lv (T (X1 b3 0))), (lv (61 : Int32)), (lv (61 : Int32))] (.int 0)) := by
  refine con_ofA hB (ls := #[.val (.ref ec), .val (.ref src), .unset, .unset, .unset]) (fun m => by simp [entryFrame, mkF, argsToLocals, Value.category]) ?_
  show Go _ _ _ _ _ _ "java/util/Base64$Encoder" kb17 5 _ "encode" _ h [] 0 0 0 #[vr ec, vr src, .unset, .unset, .unset] []
  refine Go.old (fun hOld => ?_)
  obtain ⟨EX, E1, E3, E4⟩ := id E0
  have EXh := Exa.ext hOld.2 EX
  have E1h := Fld.ext hOld.2 E1
  have E3h := Fld.ext hOld.2 E3
  have E4h := Fld.ext hOld.2 E4
  refine go_aloadN d17_0 rfl rfl rfl ?_
  refine go_aloadN d17_1 rfl rfl rfl ?_
  refine go_alen d17_2 rfl A ?_
  refine go_iconst 1 d17_3 rfl ?_
  refine go_virtualH ec [(.int 4), (.int 1)] [] 0 d17_4 rfl EXh (wd hB 110 rfl) (declares_ofH (wd hB 111 rfl) (wd hB 114 rfl)) (nf_of (wd hB 113 rfl)) (wd hB 113 rfl) (wd hB 111 rfl) (wd hB 99 rfl) (wd hB 114 rfl) (c_eol_4 hB E0) (fun _ q => nomatch q) (lenOf pd_19 rfl) rfl rfl rfl (fun v101 h102 s103 q104 => ?_)
  obtain ⟨rfl, rfl, rfl⟩ := q104
  show Go _ _ _ _ _ _ _ _ _ _ _ _ h [] 0 0 7 _ [(.int 8)]
  refine go_istoreN d17_7 rfl #[vr ec, vr src, vi 8, .unset, .unset] rfl ?_
  refine go_iloadN d17_8 rfl rfl ?_
  refine go_newarr (ty := .byte) (ad := "[B") 8 d17_9 rfl rfl (wd hB 18 rfl) (by decide) (by decide) (by decide) (by decide) (by decide) (by decide) ?_
  intro h110 x105 hx106 E107 ⟨A108, k109, B111⟩
  have B112 : Arv Z h110 x105 k109 .byte 8 [(.int 0), (.int 0), (.int 0), (.int 0), (.int 0), (.int 0), (.int 0), (.int 0)] (.int 0) := B111.pad (pad_rep [] (.int 0) 8)
  refine go_astoreN d17_11 rfl #[vr ec, vr src, vi 8, vr x105, .unset] rfl rfl ?_
  refine go_aloadN d17_12 rfl rfl rfl ?_
  refine go_aloadN d17_13 rfl rfl rfl ?_
  refine go_iconst 0 d17_14 rfl ?_
  refine go_aloadN d17_15 rfl rfl rfl ?_
  have F113 := (A.ext E107)
  refine go_alen d17_16 rfl F113 ?_
  refine go_aloadN d17_17 rfl rfl rfl ?_
  have F118 := (Exa.ext E107 EXh)
  refine go_virtual ec [(.ref src), (.int 0), (.int 4), (.ref x105)] [] 0 d17_18 rfl F118 (wd hB 126 rfl) (declares_of (wd hB 127 rfl) (wd hB 130 rfl)) (nf_of (wd hB 129 rfl)) (wd hB 129 rfl) (wd hB 127 rfl) (wd hB 99 rfl) (wd hB 130 rfl) (c_e0_4 hB b0 b1 b2 b3 b4 b5 hb0 hb1 hb2 hb3 hb4 hb5 E0 (Nat.ne_of_lt (Nat.lt_of_lt_of_le A.lt (Nat.le_of_eq hx106.symm))) F113 B112) (allS (List.Mem.head _) (fun _ q => nomatch q)) (lenOf pd_10 rfl) rfl rfl rfl (fun v114 h115 s116 q117 => ?_)
  obtain ⟨rfl, rfl, K119, B120⟩ := q117
  show Go _ _ _ _ _ _ _ _ _ _ _ _ h115 [x105] 1 8 21 _ [(.int 8)]
  refine go_istore d17_21 rfl #[vr ec, vr src, vi 8, vr x105, vi 8] rfl ?_
  refine go_iload d17_23 rfl rfl ?_
  refine go_aloadN d17_25 rfl rfl rfl ?_
  refine go_alen d17_26 rfl B120 ?_
  refine go_icmp_eq_t (pt := 37) d17_27 (by decide) ?_
  refine go_aloadN d17_37 rfl rfl rfl ?_
  have F121 := (A108.keep K119)
  refine go_retA d17_38 [] rfl rfl rfl rfl (by decide) (by decide) (fun _ q => nomatch q) ?_
  exact ⟨_, _, rfl, rfl, (ext_of_keep (((Keep.refl h []).ext E107).trans K119 (allS (Or.inr (Nat.le_of_eq hx106.symm)) all0))), (Nat.le_of_eq hx106.symm), F121, B120⟩
set_option maxRecDepth 65536 in
set_option maxHeartbeats 4000000 in
theorem c_es_4 (hB : Base Z a0) (b0 b1 b2 b3 b4 b5 : Nat) (hb0 : b0 < 256) (hb1 : b1 < 256) (hb2 : b2 < 256) (hb3 : b3 < 256) (hb4 : b4 < 256) (hb5 : b5 < 256) {ec : Addr} (E0 : IsEnc Z ec) {src : Addr} {ks : ClassId} {h : Heap} (A : Arv Z h src ks .byte 4 [(lv (Int32.ofNat b0)), (lv (Int32.ofNat b1)), (lv (Int32.ofNat b2)), (lv (Int32.ofNat b3))] (.int 0)) :
    Con l Z ELc n0 (⟨"java/util/Base64$Encoder", "encodeToString", "([B)Ljava/lang/String;"⟩ : MethodName) kb16 3 (Option.some (FieldType.object "java/lang/String")) [] (⟨3, 3, 20, 65⟩ : Room) #[.ref ec, .ref src] h [] (fun v h' sf' => ∃ s d kd, v = some (.ref s) ∧ sf' = [] ∧ Ext h h' ∧ h.size ≤ s ∧ Exa Z h' s "java/lang/String" ∧ Fld Z h' s "java/lang/String" "coder" "B" (.int 0) ∧ Fld Z h' s "java/lang/String" "value" "[B" (.ref d) ∧ Arv Z h' d kd .byte 8 [(lv (T (X0 b0))), (lv (T (X1 b0 b1))), (lv (T (X2 b1 b2))), (lv (T (X3 b2))), (lv (T (X0 b3))), (lv (T (X1 b3 0))), (lv (61 : Int32)), (lv (61 : Int32))] (.int 0)) := by
  refine con_ofA hB (ls := #[.val (.ref ec), .val (.ref src), .unset]) (fun m => by simp [entryFrame, mkF, argsToLocals, Value.category]) ?_
  show Go _ _ _ _ _ _ "java/util/Base64$Encoder" kb16 3 _ "encodeToString" _ h [] 0 0 0 #[vr ec, vr src, .unset] []
  refine Go.old (fun hOld => ?_)
  obtain ⟨EX, E1, E3, E4⟩ := id E0
  have EXh := Exa.ext hOld.2 EX
  have E1h := Fld.ext hOld.2 E1
  have E3h := Fld.ext hOld.2 E3
  have E4h := Fld.ext hOld.2 E4
  refine go_aloadN d16_0 rfl rfl rfl ?_
  refine go_aloadN d16_1 rfl rfl rfl ?_
  refine go_virtual ec [(.ref src)] [] 0 d16_2 rfl EXh (wd hB 105 rfl) (wd hB 106 rfl) (nf_of (wd hB 108 rfl)) (wd hB 108 rfl) (wd hB 107 rfl) (wd hB 99 rfl) (wd hB 109 rfl) (c_ea_4 hB b0 b1 b2 b3 b4 b5 hb0 hb1 hb2 hb3 hb4 hb5 E0 A) (fun _ q => nomatch q) (lenOf pd_12 rfl) rfl rfl rfl (fun v101 h102 s103 q104 => ?_)
  obtain ⟨r105, k106, rfl, rfl, E107, g108, X109, A110⟩ := q104
  show Go _ _ _ _ _ _ _ _ _ _ _ _ h102 [] 1 8 5 _ [(.ref r105)]
  refine go_astoreN d16_5 rfl #[vr ec, vr src, vr r105] rfl rfl ?_
  refine go_new d16_6 rfl (wd hB 134 rfl) (wd hB 5 rfl) (wd hB 6 rfl) (by decide) (by decide) ?_
  intro h116 x111 hx112 E113 ⟨A114, D115⟩
  have F117 : Fld Z h116 x111 "java/lang/String" "value" "[B" .null := D115 (Or.inr (wd hB 19 rfl)) (ty := (.array .byte)) (by decide)
  have F118 : Fld Z h116 x111 "java/lang/String" "coder" "B" (.int 0) := D115 (Or.inr (wd hB 20 rfl)) (ty := .byte) (by decide)
  refine go_dup d16_9 rfl rfl ?_
  refine go_aloadN d16_10 rfl rfl rfl ?_
  refine go_iconst 0 d16_11 rfl ?_
  refine go_iconst 0 d16_12 rfl ?_
  refine go_aloadN d16_13 rfl rfl rfl ?_
  have F119 := (A110.ext E113)
  refine go_alen d16_14 rfl F119 ?_
  have F120 := (Exa.ext E113 X109)
  refine go_special x111 [(.ref r105), (.int 0), (.int 0), (.int 8)] [(.ref x111)] 1 d16_15 rfl rfl (wd hB 135 rfl) (wd hB 136 rfl) (wd hB 6 rfl) (wd hB 137 rfl) (c_s3_8 hB F119 F120 A114 F117 F118) (allS (List.Mem.head _) (fun _ q => nomatch q)) (lenOf pd_20 rfl) rfl rfl rfl (fun v121 h122 s123 q124 => ?_)
  obtain ⟨rfl, rfl, K125, E126, F127, d128, k129, G130, A131⟩ := q124
  show Go _ _ _ _ _ _ _ _ _ _ _ _ h122 [x111] 3 20 18 _ [(.ref x111)]
  refine go_retA d16_18 [] rfl rfl rfl rfl (by decide) (by decide) (fun _ q => nomatch q) ?_
  exact ⟨x111, d128, k129, rfl, rfl, (ext_of_keep ((((Keep.refl h []).ext E107).ext E113).trans K125 (allS (Or.inr (Nat.le_trans E107.1 (Nat.le_of_eq hx112.symm))) all0))), (Nat.le_trans E107.1 (Nat.le_of_eq hx112.symm)), E126, F127, G130, A131⟩
set_option maxRecDepth 65536 in
set_option maxHeartbeats 4000000 in
theorem c_be_4 (hB : Base Z a0) (b0 b1 b2 b3 b4 b5 : Nat) (hb0 : b0 < 256) (hb1 : b1 < 256) (hb2 : b2 < 256) (hb3 : b3 < 256) (hb4 : b4 < 256) (hb5 : b5 < 256) {ec : Addr} (E0 : IsEnc Z ec) (SE : Sta Z Z.heap "java/util/Base64$Encoder" "RFC4648" "Ljava/util/Base64$Encoder;" (.ref ec)) {src : Addr} {ks : ClassId} {h : Heap} (A : Arv Z h src ks .byte 4 [(lv (Int32.ofNat b0)), (lv (Int32.ofNat b1)), (lv (Int32.ofNat b2)), (lv (Int32.ofNat b3))] (.int 0)) :
    Con l Z ELc n0 (⟨"com/example/cardea/cardea/Base64Text", "encode", "([B)Ljava/lang/String;"⟩ : MethodName) kb14 1 (Option.some (FieldType.object "java/lang/String")) [] (⟨4, 3, 20, 79⟩ : Room) #[.ref src] h [] (fun v h' sf' => ∃ s d kd, v = some (.ref s) ∧ sf' = [] ∧ Ext h h' ∧ h.size ≤ s ∧ Exa Z h' s "java/lang/String" ∧ Fld Z h' s "java/lang/String" "coder" "B" (.int 0) ∧ Fld Z h' s "java/lang/String" "value" "[B" (.ref d) ∧ Arv Z h' d kd .byte 8 [(lv (T (X0 b0))), (lv (T (X1 b0 b1))), (lv (T (X2 b1 b2))), (lv (T (X3 b2))), (lv (T (X0 b3))), (lv (T (X1 b3 0))), (lv (61 : Int32)), (lv (61 : Int32))] (.int 0)) := by
  refine con_ofA hB (ls := #[.val (.ref src)]) (fun m => by simp [entryFrame, mkF, argsToLocals, Value.category]) ?_
  show Go _ _ _ _ _ _ "com/example/cardea/cardea/Base64Text" kb14 1 _ "encode" _ h [] 0 0 0 #[vr src] []
  refine Go.old (fun hOld => ?_)
  obtain ⟨EX, E1, E3, E4⟩ := id E0
  have EXh := Exa.ext hOld.2 EX
  have E1h := Fld.ext hOld.2 E1
  have E3h := Fld.ext hOld.2 E3
  have E4h := Fld.ext hOld.2 E4
  refine go_static [] [] 0 d14_0 rfl (wd hB 95 rfl) (wd hB 96 rfl) (wd hB 31 rfl) (wd hB 97 rfl) (c_ge hB SE) (fun _ q => nomatch q) (lenOf pd_21 rfl) rfl rfl rfl (fun v101 h102 s103 q104 => ?_)
  obtain ⟨rfl, rfl, rfl⟩ := q104
  show Go _ _ _ _ _ _ _ _ _ _ _ _ h [] 0 0 3 _ [(.ref ec)]
  refine go_aloadN d14_3 rfl rfl rfl ?_
  refine go_virtual ec [(.ref src)] [] 0 d14_4 rfl EXh (wd hB 100 rfl) (wd hB 101 rfl) (nf_of (wd hB 103 rfl)) (wd hB 103 rfl) (wd hB 102 rfl) (wd hB 99 rfl) (wd hB 104 rfl) (c_es_4 hB b0 b1 b2 b3 b4 b5 hb0 hb1 hb2 hb3 hb4 hb5 E0 A) (fun _ q => nomatch q) (lenOf pd_22 rfl) rfl rfl rfl (fun v105 h106 s107 q108 => ?_)
  obtain ⟨s109, d110, k111, rfl, rfl, E112, g113, F114, F115, F116, F117⟩ := q108
  show Go _ _ _ _ _ _ _ _ _ _ _ _ h106 [] 3 20 7 _ [(.ref s109)]
  refine go_retA d14_7 [] rfl rfl rfl rfl (by decide) (by decide) (fun _ q => nomatch q) ?_
  exact ⟨s109, d110, _, rfl, rfl, (ext_of_keep ((Keep.refl h []).ext E112)), g113, F114, F115, F116, F117⟩
set_option maxRecDepth 65536 in
set_option maxHeartbeats 4000000 in
theorem c_bd_4 (hB : Base Z a0) (b0 b1 b2 b3 b4 b5 : Nat) (hb0 : b0 < 256) (hb1 : b1 < 256) (hb2 : b2 < 256) (hb3 : b3 < 256) (hb4 : b4 < 256) (hb5 : b5 < 256) {s d : Addr} {k : ClassId} {h : Heap} (E : Exa Z h s "java/lang/String") (C : Fld Z h s "java/lang/String" "coder" "B" (.int 0)) (V : Fld Z h s "java/lang/String" "value" "[B" (.ref d)) (A : Arv Z h d k .byte 8 [(lv (T (X0 b0))), (lv (T (X1 b0 b1))), (lv (T (X2 b1 b2))), (lv (T (X3 b2))), (lv (T (X0 b3))), (lv (T (X1 b3 0))), (lv (61 : Int32)), (lv (61 : Int32))] (.int 0)) (X : Exa Z h d "[B") :
    ConH l Z ELc n0 (⟨"com/example/cardea/cardea/Base64Text", "decode", "(Ljava/lang/String;)[B"⟩ : MethodName) kbx1 3 (Option.some (FieldType.array FieldType.byte)) [(0, 8, 11, 29)] (⟨6, 5, 32, 91⟩ : Room) #[.ref s] h [] (fun v h' sf' => ∃ r kr, v = some (.ref r) ∧ sf' = [] ∧ Ext h h' ∧ Arv Z h' r kr .byte 4 [(lv (Int32.ofNat b0)), (lv (Int32.ofNat b1)), (lv (Int32.ofNat b2)), (lv (Int32.ofNat b3))] (.int 0)) := by
  refine con_ofAH hB (ls := #[.val (.ref s), .unset, .unset]) (fun m => by simp [entryFrame, mkF, argsToLocals, Value.category]) ?_
  show Go _ _ _ _ _ _ "com/example/cardea/cardea/Base64Text" kbx1 3 _ "decode" _ h [] 0 0 0 #[vr s, .unset, .unset] []
  obtain ⟨dc, SD, D0⟩ := hB.2.2.2.2.1
  obtain ⟨is, SI, IX⟩ := hB.2.2.2.2.2.1
  obtain ⟨ut, SU, UX⟩ := hB.2.2.2.2.2.2.1
  obtain ⟨ec, SE, E0⟩ := hB.2.2.2.2.2.2.2.2.1
  refine Go.old (fun hOld => ?_)
  obtain ⟨DX, D1, D2⟩ := id D0
  have DXh := Exa.ext hOld.2 DX
  have D1h := Fld.ext hOld.2 D1
  have D2h := Fld.ext hOld.2 D2
  obtain ⟨EX, E1, E3, E4⟩ := id E0
  have EXh := Exa.ext hOld.2 EX
  have E1h := Fld.ext hOld.2 E1
  have E3h := Fld.ext hOld.2 E3
  have E4h := Fld.ext hOld.2 E4
  refine go_static [] [] 0 dx1_0 rfl (wd hB 29 rfl) (wd hB 30 rfl) (wd hB 31 rfl) (wd hB 32 rfl) (c_gd hB SD) (fun _ q => nomatch q) (lenOf pd_23 rfl) rfl rfl rfl (fun v101 h102 s103 q104 => ?_)
  obtain ⟨rfl, rfl, rfl⟩ := q104
  show Go _ _ _ _ _ _ _ _ _ _ _ _ h [] 0 0 3 _ [(.ref dc)]
  refine go_aloadN dx1_3 rfl rfl rfl ?_
  refine go_virtual dc [(.ref s)] [] 0 dx1_4 rfl DXh (wd hB 35 rfl) (wd hB 36 rfl) (nf_of (wd hB 38 rfl)) (wd hB 38 rfl) (wd hB 37 rfl) (wd hB 34 rfl) (wd hB 39 rfl) (c_ds_4 hB b0 b1 b2 b3 b4 b5 hb0 hb1 hb2 hb3 hb4 hb5 D0 SI SU IX UX E C V A X) (fun _ q => nomatch q) (lenOf pd_24 rfl) rfl rfl rfl (fun v105 h106 s107 q108 => ?_)
  obtain ⟨r109, k110, rfl, rfl, E111, g112, A113⟩ := q108
  show Go _ _ _ _ _ _ _ _ _ _ _ _ h106 [] 2 12 7 _ [(.ref r109)]
  refine go_astoreN dx1_7 rfl #[vr s, vr r109, .unset] rfl rfl ?_
  refine go_goto (pt := 22) dx1_8 ?_
  refine go_aloadN dx1_22 rfl rfl rfl ?_
  refine go_static [(.ref r109)] [] 0 dx1_23 rfl (wd hB 92 rfl) (wd hB 93 rfl) (wd hB 27 rfl) (wd hB 94 rfl) (c_be_4 hB b0 b1 b2 b3 b4 b5 hb0 hb1 hb2 hb3 hb4 hb5 E0 SE A113) (fun _ q => nomatch q) (lenOf pd_22 rfl) rfl rfl rfl (fun v114 h115 s116 q117 => ?_)
  obtain ⟨s118, d119, k120, rfl, rfl, E121, g122, F123, F124, F125, F126⟩ := q117
  show Go _ _ _ _ _ _ _ _ _ _ _ _ h115 [] 5 32 26 _ [(.ref s118)]
  refine go_aloadN dx1_26 rfl rfl rfl ?_
  have F127 := (Exa.ext E121 (Exa.ext E111 E))
  have F128 := (Fld.ext E121 (Fld.ext E111 C))
  have F129 := (Fld.ext E121 (Fld.ext E111 V))
  have F130 := ((A.ext E111).ext E121)
  refine go_virtual s118 [(.ref s)] [] 0 dx1_27 rfl F123 (wd hB 146 rfl) (wd hB 147 rfl) (nf_of (wd hB 149 rfl)) (wd hB 149 rfl) (wd hB 148 rfl) (wd hB 6 rfl) (wd hB 150 rfl) (c_seq_8 hB (Ne.symm (Nat.ne_of_lt (Nat.lt_of_lt_of_le (Nat.lt_of_lt_of_le E.lt E111.1) g122))) F123 F124 F125 F126 F127 F128 F129 F130) (fun _ q => nomatch q) (lenOf pd_25 rfl) rfl rfl rfl (fun v131 h132 s133 q134 => ?_)
  obtain ⟨rfl, rfl, rfl⟩ := q134
  show Go _ _ _ _ _ _ _ _ _ _ _ _ h115 [] 5 32 30 _ [(.int 1)]
  refine go_if_ne_t (pt := 43) dx1_30 (by decide) ?_
  refine go_aloadN dx1_43 rfl rfl rfl ?_
  have F135 := (A113.ext E121)
  refine go_retA dx1_44 [] rfl rfl rfl rfl (by decide) (by decide) (fun _ q => nomatch q) ?_
  exact ⟨_, _, rfl, rfl, (ext_of_keep (((Keep.refl h []).ext E111).ext E121)), F135⟩
set_option maxRecDepth 65536 in
set_option maxHeartbeats 4000000 in
theorem c_ae_5_2 (hB : Base Z a0) {h : Heap} :
    Con l Z ELc n0 (⟨"java/lang/Math", "addExact", "(II)I"⟩ : MethodName) kb18 3 (Option.some FieldType.int) [] (⟨0, 0, 0, 0⟩ : Room) #[.int 5, .int 2] h [] (fun v h' sf' => v = some (.int 7) ∧ sf' = [] ∧ h = h') := by
  refine con_ofA hB (ls := #[.val (.int 5), .val (.int 2), .unset]) (fun m => by simp [entryFrame, mkF, argsToLocals, Value.category]) ?_
  show Go _ _ _ _ _ _ "java/lang/Math" kb18 3 _ "addExact" _ h [] 0 0 0 #[vi 5, vi 2, .unset] []
  refine go_iloadN d18_0 rfl rfl ?_
  refine go_iloadN d18_1 rfl rfl ?_
  refine go_iadd d18_2 rfl (go_eq (y := 7) (by decide) ?_)
  refine go_istoreN d18_3 rfl #[vi 5, vi 2, vi 7] rfl ?_
  refine go_iloadN d18_4 rfl rfl ?_
  refine go_iloadN d18_5 rfl rfl ?_
  refine go_ixor d18_6 rfl (go_eq (y := 2) (by decide) ?_)
  refine go_iloadN d18_7 rfl rfl ?_
  refine go_iloadN d18_8 rfl rfl ?_
  refine go_ixor d18_9 rfl (go_eq (y := 5) (by decide) ?_)
  refine go_iand d18_10 rfl (go_eq (y := 0) (by decide) ?_)
  refine go_if_ge_t (pt := 24) d18_11 (by decide) ?_
  refine go_iloadN d18_24 rfl rfl ?_
  refine go_retI d18_25 [] rfl (by decide) (by decide) (fun _ q => nomatch q) ?_
  exact ⟨rfl, rfl, rfl⟩
set_option maxRecDepth 65536 in
set_option maxHeartbeats 4000000 in
theorem c_eol_5 (hB : Base Z a0) {ec : Addr} (E0 : IsEnc Z ec) {h : Heap} :
    ConH l Z ELc n0 (⟨"java/util/Base64$Encoder", "encodedOutLength", "(IZ)I"⟩ : MethodName) kbx2 5 (Option.some FieldType.int) [(2, 79, 82, 33)] (⟨1, 0, 0, 15⟩ : Room) #[.ref ec, .int 5, .int 1] h [] (fun v h' sf' => v = some (.int 8) ∧ sf' = [] ∧ h = h') := by
  refine con_ofAH hB (ls := #[.val (.ref ec), .val (.int 5), .val (.int 1), .unset, .unset]) (fun m => by simp [entryFrame, mkF, argsToLocals, Value.category]) ?_
  show Go _ _ _ _ _ _ "java/util/Base64$Encoder" kbx2 5 _ "encodedOutLength" _ h [] 0 0 0 #[vr ec, vi 5, vi 1, .unset, .unset] []
  refine Go.old (fun hOld => ?_)
  obtain ⟨EX, E1, E3, E4⟩ := id E0
  have EXh := Exa.ext hOld.2 EX
  have E1h := Fld.ext hOld.2 E1
  have E3h := Fld.ext hOld.2 E3
  have E4h := Fld.ext hOld.2 E4
  refine go_iconst 0 dx2_0 rfl ?_
  refine go_istoreN dx2_1 rfl #[vr ec, vi 5, vi 1, vi 0, .unset] rfl ?_
  refine go_aloadN dx2_2 rfl rfl rfl ?_
  refine go_getfield dx2_3 rfl (wd hB 115 rfl) Via.refl E4h ?_
  refine go_if_eq_f dx2_6 rfl (by decide) ?_
  refine go_iconst 4 dx2_9 rfl ?_
  refine go_iloadN dx2_10 rfl rfl ?_
  refine go_iconst 2 dx2_11 rfl ?_
  refine go_static [(.int 5), (.int 2)] [(.int 4)] 1 dx2_12 rfl (wd hB 117 rfl) (wd hB 118 rfl) (wd hB 119 rfl) (wd hB 120 rfl) (c_ae_5_2 hB) (fun _ q => nomatch q) (lenOf pd_18 rfl) rfl rfl rfl (fun v101 h102 s103 q104 => ?_)
  obtain ⟨rfl, rfl, rfl⟩ := q104
  show Go _ _ _ _ _ _ _ _ _ _ _ _ h [] 0 0 15 _ [(.int 7), (.int 4)]
  refine go_iconst 3 dx2_15 rfl ?_
  refine go_idiv dx2_16 rfl (by decide) (go_eq (y := 2) (by decide) ?_)
  refine go_static [(.int 4), (.int 2)] [] 0 dx2_17 rfl (wd hB 121 rfl) (wd hB 122 rfl) (wd hB 119 rfl) (wd hB 123 rfl) (c_me_4_2 hB) (fun _ q => nomatch q) (lenOf pd_18 rfl) rfl rfl rfl (fun v105 h106 s107 q108 => ?_)
  obtain ⟨rfl, rfl, rfl⟩ := q108
  show Go _ _ _ _ _ _ _ _ _ _ _ _ h [] 0 0 20 _ [(.int 8)]
  refine go_istoreN dx2_20 rfl #[vr ec, vi 5, vi 1, vi 8, .unset] rfl ?_
  refine go_goto (pt := 53) dx2_21 ?_
  refine go_aloadN dx2_53 rfl rfl rfl ?_
  refine go_getfield dx2_54 rfl (wd hB 124 rfl) Via.refl E3h ?_
  refine go_if_le_t (pt := 79) dx2_57 (by decide) ?_
  refine go_goto (pt := 100) dx2_79 ?_
  refine go_iloadN dx2_100 rfl rfl ?_
  refine go_retI dx2_101 [] rfl (by decide) (by decide) (fun _ q => nomatch q) ?_
  exact ⟨rfl, rfl, rfl⟩
set_option maxRecDepth 65536 in
set_option maxHeartbeats 4000000 in
theorem c_eb_5 (hB : Base Z a0) (b0 b1 b2 b3 b4 b5 : Nat) (hb0 : b0 < 256) (hb1 : b1 < 256) (hb2 : b2 < 256) (hb3 : b3 < 256) (hb4 : b4 < 256) (hb5 : b5 < 256) {ec : Addr} {src dst : Addr} {ks kd : ClassId} (hsd : src ≠ dst) {h : Heap} (A : Arv Z h src ks .byte 5 [(lv (Int32.ofNat b0)), (lv (Int32.ofNat b1)), (lv (Int32.ofNat b2)), (lv (Int32.ofNat b3)), (lv (Int32.ofNat b4))] (.int 0)) (B : Arv Z h dst kd .byte 8 [(.int 0), (.int 0), (.int 0), (.int 0), (.int 0), (.int 0), (.int 0), (.int 0)] (.int 0)) :
    Con l Z ELc n0 (⟨"java/util/Base64$Encoder", "encodeBlock", "([BII[BIZ)V"⟩ : MethodName) kb35 11 (Option.none : Option FieldType) [] (⟨0, 0, 0, 0⟩ : Room) #[.ref ec, .ref src, .int 0, .int 3, .ref dst, .int 0, .int 0] h [dst] (fun v h' sf' => v = none ∧ sf' = [] ∧ Keep h h' [dst] ∧ Arv Z h' dst kd .byte 8 [(lv (T (X0 b0))), (lv (T (X1 b0 b1))), (lv (T (X2 b1 b2))), (lv (T (X3 b2))), (.int 0), (.int 0), (.int 0), (.int 0)] (.int 0)) := by
  refine con_ofA hB (ls := #[.val (.ref ec), .val (.ref src), .val (.int 0), .val (.int 3), .val (.ref dst), .val (.int 0), .val (.int 0), .unset, .unset, .unset, .unset]) (fun m => by simp [entryFrame, mkF, argsToLocals, Value.category]) ?_
  show Go _ _ _ _ _ _ "java/util/Base64$Encoder" kb35 11 _ "encodeBlock" _ h [dst] 0 0 0 #[vr ec, vr src, vi 0, vi 3, vr dst, vi 0, vi 0, .unset, .unset, .unset, .unset] []
  have lt101 : X0 b0 < 64 := (x0_lt hb0)
  have lt102 : X1 b0 b1 < 64 := (x1_lt hb0 hb1)
  have lt103 : X2 b1 b2 < 64 := (x2_lt hb1 hb2)
  have lt104 : X3 b2 < 64 := (x3_lt hb2)
  have lt105 : X0 b3 < 64 := (x0_lt hb3)
  have lt106 : X1 b3 b4 < 64 := (x1_lt hb3 hb4)
  have lt107 : X2 b4 0 < 64 := (x2_lt hb4 (by decide : 0 < 256))
  refine Go.owned (fun hOw => ?_)
  have hge := (hOw dst (List.Mem.head _)).2
  obtain ⟨tb, kt, hSt, hAt⟩ := hB.2.2.2.2.2.2.2.2.2.1
  refine Go.old (fun hOld => ?_)
  have hAu := hAt.ext hOld.2
  refine go_iload d35_0 rfl rfl ?_
  refine go_if_eq_t (pt := 11) d35_2 (by decide) ?_
  refine go_getstatic d35_11 rfl (wd hB 133 rfl) Via.refl hSt ?_
  refine go_astore d35_14 rfl #[vr ec, vr src, vi 0, vi 3, vr dst, vi 0, vi 0, vr tb, .unset, .unset, .unset] rfl rfl ?_
  refine go_iloadN d35_16 rfl rfl ?_
  refine go_istore d35_17 rfl #[vr ec, vr src, vi 0, vi 3, vr dst, vi 0, vi 0, vr tb, vi 0, .unset, .unset] rfl ?_
  refine go_iload d35_19 rfl rfl ?_
  refine go_istore d35_21 rfl #[vr ec, vr src, vi 0, vi 3, vr dst, vi 0, vi 0, vr tb, vi 0, vi 0, .unset] rfl ?_
  refine go_iload d35_23 rfl rfl ?_
  refine go_iloadN d35_25 rfl rfl ?_
  refine go_icmp_ge_f d35_26 rfl (by decide) ?_
  refine go_aloadN d35_29 rfl rfl rfl ?_
  refine go_iload d35_30 rfl rfl ?_
  refine go_iincV 1 1 d35_32 rfl #[vr ec, vr src, vi 0, vi 3, vr dst, vi 0, vi 0, vr tb, vi 1, vi 0, .unset] (by decide) rfl (by decide) rfl ?_
  refine go_baload (v := (.int ((Int32.ofNat b0).toInt8.toInt32))) 0 d35_35 rfl A ⟨by decide, by decide⟩ (by decide) rfl ?_
  refine go_sipush 255 d35_36 rfl ?_
  refine go_iand d35_39 rfl (go_eq (y := Int32.ofNat b0) (B_isC hb0).back ?_)
  refine go_bipush 16 d35_40 rfl ?_
  refine go_ishl d35_42 rfl (go_eq (y := Int32.ofNat (b0 * 65536)) (shlE (k := 16) (by decide) (by decide) (by omega) rfl (by omega)) ?_)
  refine go_aloadN d35_43 rfl rfl rfl ?_
  refine go_iload d35_44 rfl rfl ?_
  refine go_iincV 1 2 d35_46 rfl #[vr ec, vr src, vi 0, vi 3, vr dst, vi 0, vi 0, vr tb, vi 2, vi 0, .unset] (by decide) rfl (by decide) rfl ?_
  refine go_baload (v := (.int ((Int32.ofNat b1).toInt8.toInt32))) 1 d35_49 rfl A ⟨by decide, by decide⟩ (by decide) rfl ?_
  refine go_sipush 255 d35_50 rfl ?_
  refine go_iand d35_53 rfl (go_eq (y := Int32.ofNat b1) (B_isC hb1).back ?_)
  refine go_bipush 8 d35_54 rfl ?_
  refine go_ishl d35_56 rfl (go_eq (y := Int32.ofNat (b1 * 256)) (shlE (k := 8) (by decide) (by decide) (by omega) rfl (by omega)) ?_)
  refine go_ior d35_57 rfl (go_eq (y := Int32.ofNat (b0 * 65536 + b1 * 256)) (orE (k := 16) (by omega) (by omega) rfl (by omega)) ?_)
  refine go_aloadN d35_58 rfl rfl rfl ?_
  refine go_iload d35_59 rfl rfl ?_
  refine go_iincV 1 3 d35_61 rfl #[vr ec, vr src, vi 0, vi 3, vr dst, vi 0, vi 0, vr tb, vi 3, vi 0, .unset] (by decide) rfl (by decide) rfl ?_
  refine go_baload (v := (.int ((Int32.ofNat b2).toInt8.toInt32))) 2 d35_64 rfl A ⟨by decide, by decide⟩ (by decide) rfl ?_
  refine go_sipush 255 d35_65 rfl ?_
  refine go_iand d35_68 rfl (go_eq (y := Int32.ofNat b2) (B_isC hb2).back ?_)
  refine go_ior d35_69 rfl (go_eq (y := Int32.ofNat (b0 * 65536 + b1 * 256 + b2)) (orE (k := 8) (by omega) (by omega) rfl (by omega)) ?_)
  refine go_istore d35_70 rfl #[vr ec, vr src, vi 0, vi 3, vr dst, vi 0, vi 0, vr tb, vi 3, vi 0, vi (Int32.ofNat (b0 * 65536 + b1 * 256 + b2))] rfl ?_
  refine go_aload d35_72 rfl rfl rfl ?_
  refine go_iload d35_74 rfl rfl ?_
  refine go_iincV 1 1 d35_76 rfl #[vr ec, vr src, vi 0, vi 3, vr dst, vi 0, vi 0, vr tb, vi 3, vi 1, vi (Int32.ofNat (b0 * 65536 + b1 * 256 + b2))] (by decide) rfl (by decide) rfl ?_
  refine go_aload d35_79 rfl rfl rfl ?_
  refine go_iload d35_81 rfl rfl ?_
  refine go_bipush 18 d35_83 rfl ?_
  refine go_iushr d35_85 rfl (go_eq (y := Int32.ofNat ((b0 * 65536 + b1 * 256 + b2) / 262144)) (ushrE (k := 18) (by decide) (by decide) (by omega) rfl) ?_)
  refine go_bipush 63 d35_86 rfl ?_
  refine go_iand d35_88 rfl (go_eq (y := Int32.ofNat (X0 b0)) (and63 (by omega) (by simp only [X0, X1, X2, X3] <;> omega)) ?_)
  refine go_caload (v := (.int (T (X0 b0)))) (X0 b0) d35_89 rfl hAu (N_in lt101) (N_cl lt101) (tb_at lt101) ?_
  refine go_i2b d35_90 rfl ?_
  refine go_bastoreV 0 ((T (X0 b0)).toInt8.toInt32) d35_91 rfl (i8i8 _) B ⟨by decide, by decide⟩ (by decide) (by show 0 < 8; decide) (List.Mem.head _) ?_
  intro h108 W109 B110
  have B111 : Arv Z h108 dst kd .byte 8 [(lv (T (X0 b0))), (.int 0), (.int 0), (.int 0), (.int 0), (.int 0), (.int 0), (.int 0)] (.int 0) := B110
  refine go_aload d35_92 rfl rfl rfl ?_
  refine go_iload d35_94 rfl rfl ?_
  refine go_iincV 1 2 d35_96 rfl #[vr ec, vr src, vi 0, vi 3, vr dst, vi 0, vi 0, vr tb, vi 3, vi 2, vi (Int32.ofNat (b0 * 65536 + b1 * 256 + b2))] (by decide) rfl (by decide) rfl ?_
  refine go_aload d35_99 rfl rfl rfl ?_
  refine go_iload d35_101 rfl rfl ?_
  refine go_bipush 12 d35_103 rfl ?_
  refine go_iushr d35_105 rfl (go_eq (y := Int32.ofNat ((b0 * 65536 + b1 * 256 + b2) / 4096)) (ushrE (k := 12) (by decide) (by decide) (by omega) rfl) ?_)
  refine go_bipush 63 d35_106 rfl ?_
  refine go_iand d35_108 rfl (go_eq (y := Int32.ofNat (X1 b0 b1)) (and63 (by omega) (by simp only [X0, X1, X2, X3] <;> omega)) ?_)
  have F112 := (Arv.other hAu W109 (old_ne hOld hAt.lt hge))
  refine go_caload (v := (.int (T (X1 b0 b1)))) (X1 b0 b1) d35_109 rfl F112 (N_in lt102) (N_cl lt102) (tb_at lt102) ?_
  refine go_i2b d35_110 rfl ?_
  refine go_bastoreV 1 ((T (X1 b0 b1)).toInt8.toInt32) d35_111 rfl (i8i8 _) B111 ⟨by decide, by decide⟩ (by decide) (by show 1 < 8; decide) (List.Mem.head _) ?_
  intro h113 W114 B115
  have B116 : Arv Z h113 dst kd .byte 8 [(lv (T (X0 b0))), (lv (T (X1 b0 b1))), (.int 0), (.int 0), (.int 0), (.int 0), (.int 0), (.int 0)] (.int 0) := B115
  refine go_aload d35_112 rfl rfl rfl ?_
  refine go_iload d35_114 rfl rfl ?_
  refine go_iincV 1 3 d35_116 rfl #[vr ec, vr src, vi 0, vi 3, vr dst, vi 0, vi 0, vr tb, vi 3, vi 3, vi (Int32.ofNat (b0 * 65536 + b1 * 256 + b2))] (by decide) rfl (by decide) rfl ?_
  refine go_aload d35_119 rfl rfl rfl ?_
  refine go_iload d35_121 rfl rfl ?_
  refine go_bipush 6 d35_123 rfl ?_
  refine go_iushr d35_125 rfl (go_eq (y := Int32.ofNat ((b0 * 65536 + b1 * 256 + b2) / 64)) (ushrE (k := 6) (by decide) (by decide) (by omega) rfl) ?_)
  refine go_bipush 63 d35_126 rfl ?_
  refine go_iand d35_128 rfl (go_eq (y := Int32.ofNat (X2 b1 b2)) (and63 (by omega) (by simp only [X0, X1, X2, X3] <;> omega)) ?_)
  have F117 := (Arv.other F112 W114 (old_ne hOld hAt.lt hge))
  refine go_caload (v := (.int (T (X2 b1 b2)))) (X2 b1 b2) d35_129 rfl F117 (N_in lt103) (N_cl lt103) (tb_at lt103) ?_
  refine go_i2b d35_130 rfl ?_
  refine go_bastoreV 2 ((T (X2 b1 b2)).toInt8.toInt32) d35_131 rfl (i8i8 _) B116 ⟨by decide, by decide⟩ (by decide) (by show 2 < 8; decide) (List.Mem.head _) ?_
  intro h118 W119 B120
  have B121 : Arv Z h118 dst kd .byte 8 [(lv (T (X0 b0))), (lv (T (X1 b0 b1))), (lv (T (X2 b1 b2))), (.int 0), (.int 0), (.int 0), (.int 0), (.int 0)] (.int 0) := B120
  refine go_aload d35_132 rfl rfl rfl ?_
  refine go_iload d35_134 rfl rfl ?_
  refine go_iincV 1 4 d35_136 rfl #[vr ec, vr src, vi 0, vi 3, vr dst, vi 0, vi 0, vr tb, vi 3, vi 4, vi (Int32.ofNat (b0 * 65536 + b1 * 256 + b2))] (by decide) rfl (by decide) rfl ?_
  refine go_aload d35_139 rfl rfl rfl ?_
  refine go_iload d35_141 rfl rfl ?_
  refine go_bipush 63 d35_143 rfl ?_
  refine go_iand d35_145 rfl (go_eq (y := Int32.ofNat (X3 b2)) (and63 (by omega) (by simp only [X0, X1, X2, X3] <;> omega)) ?_)
  have F122 := (Arv.other F117 W119 (old_ne hOld hAt.lt hge))
  refine go_caload (v := (.int (T (X3 b2)))) (X3 b2) d35_146 rfl F122 (N_in lt104) (N_cl lt104) (tb_at lt104) ?_
  refine go_i2b d35_147 rfl ?_
  refine go_bastoreV 3 ((T (X3 b2)).toInt8.toInt32) d35_148 rfl (i8i8 _) B121 ⟨by decide, by decide⟩ (by decide) (by show 3 < 8; decide) (List.Mem.head _) ?_
  intro h123 W124 B125
  have B126 : Arv Z h123 dst kd .byte 8 [(lv (T (X0 b0))), (lv (T (X1 b0 b1))), (lv (T (X2 b1 b2))), (lv (T (X3 b2))), (.int 0), (.int 0), (.int 0), (.int 0)] (.int 0) := B125
  refine go_goto (pt := 23) d35_149 ?_
  refine go_iload d35_23 rfl rfl ?_
  refine go_iloadN d35_25 rfl rfl ?_
  refine go_icmp_ge_t (pt := 152) d35_26 (by decide) ?_
  refine go_ret d35_152 [] rfl (by decide) (by decide) (fun _ q => nomatch q) ?_
  exact ⟨rfl, rfl, (((((Keep.refl h [dst]).wr W109 (Or.inl (List.Mem.head _))).wr W114 (Or.inl (List.Mem.head _))).wr W119 (Or.inl (List.Mem.head _))).wr W124 (Or.inl (List.Mem.head _))), B126⟩
set_option maxRecDepth 65536 in
set_option maxHeartbeats 4000000 in
theorem c_e0_5 (hB : Base Z a0) (b0 b1 b2 b3 b4 b5 : Nat) (hb0 : b0 < 256) (hb1 : b1 < 256) (hb2 : b2 < 256) (hb3 : b3 < 256) (hb4 : b4 < 256) (hb5 : b5 < 256) {ec : Addr} (E0 : IsEnc Z ec) {src dst : Addr} {ks kd : ClassId} (hsd : src ≠ dst) {h : Heap} (A : Arv Z h src ks .byte 5 [(lv (Int32.ofNat b0)), (lv (Int32.ofNat b1)), (lv (Int32.ofNat b2)), (lv (Int32.ofNat b3)), (lv (Int32.ofNat b4))] (.int 0)) (B : Arv Z h dst kd .byte 8 [(.int 0), (.int 0), (.int 0), (.int 0), (.int 0), (.int 0), (.int 0), (.int 0)] (.int 0)) :
    Con l Z ELc n0 (⟨"java/util/Base64$Encoder", "encode0", "([BII[B)I"⟩ : MethodName) kb20 16 (Option.some FieldType.int) [] (⟨1, 0, 0, 22⟩ : Room) #[.ref ec, .ref src, .int 0, .int 5, .ref dst] h [dst] (fun v h' sf' => v = some (.int 8) ∧ sf' = [] ∧ Keep h h' [dst] ∧ Arv Z h' dst kd .byte 8 [(lv (T (X0 b0))), (lv (T (X1 b0 b1))), (lv (T (X2 b1 b2))), (lv (T (X3 b2))), (lv (T (X0 b3))), (lv (T (X1 b3 b4))), (lv (T (X2 b4 0))), (lv (61 : Int32))] (.int 0)) := by
  refine con_ofA hB (ls := #[.val (.ref ec), .val (.ref src), .val (.int 0), .val (.int 5), .val (.ref dst), .unset, .unset, .unset, .unset, .unset, .unset, .unset, .unset, .unset, .unset, .unset]) (fun m => by simp [entryFrame, mkF, argsToLocals, Value.category]) ?_
  show Go _ _ _ _ _ _ "java/util/Base64$Encoder" kb20 16 _ "encode0" _ h [dst] 0 0 0 #[vr ec, vr src, vi 0, vi 5, vr dst, .unset, .unset, .unset, .unset, .unset, .unset, .unset, .unset, .unset, .unset, .unset] []
  have lt101 : X0 b0 < 64 := (x0_lt hb0)
  have lt102 : X1 b0 b1 < 64 := (x1_lt hb0 hb1)
  have lt103 : X2 b1 b2 < 64 := (x2_lt hb1 hb2)
  have lt104 : X3 b2 < 64 := (x3_lt hb2)
  have lt105 : X0 b3 < 64 := (x0_lt hb3)
  have lt106 : X1 b3 b4 < 64 := (x1_lt hb3 hb4)
  have lt107 : X2 b4 0 < 64 := (x2_lt hb4 (by decide : 0 < 256))
  refine Go.owned (fun hOw => ?_)
  have hge := (hOw dst (List.Mem.head _)).2
  refine Go.old (fun hOld => ?_)
  obtain ⟨EX, E1, E3, E4⟩ := id E0
  have EXh := Exa.ext hOld.2 EX
  have E1h := Fld.ext hOld.2 E1
  have E3h := Fld.ext hOld.2 E3
  have E4h := Fld.ext hOld.2 E4
  obtain ⟨tb, kt, hSt, hAt⟩ := hB.2.2.2.2.2.2.2.2.2.1
  have hAu := hAt.ext hOld.2
  refine go_aloadN d20_0 rfl rfl rfl ?_
  refine go_getfield d20_1 rfl (wd hB 131 rfl) Via.refl E1h ?_
  refine go_if_eq_t (pt := 13) d20_4 (by decide) ?_
  refine go_getstatic d20_13 rfl (wd hB 133 rfl) Via.refl hSt ?_
  refine go_astore d20_16 rfl #[vr ec, vr src, vi 0, vi 5, vr dst, vr tb, .unset, .unset, .unset, .unset, .unset, .unset, .unset, .unset, .unset, .unset] rfl rfl ?_
  refine go_iloadN d20_18 rfl rfl ?_
  refine go_istore d20_19 rfl #[vr ec, vr src, vi 0, vi 5, vr dst, vr tb, vi 0, .unset, .unset, .unset, .unset, .unset, .unset, .unset, .unset, .unset] rfl ?_
  refine go_iloadN d20_21 rfl rfl ?_
  refine go_iloadN d20_22 rfl rfl ?_
  refine go_isub d20_23 rfl (go_eq (y := 5) (by decide) ?_)
  refine go_iconst 3 d20_24 rfl ?_
  refine go_idiv d20_25 rfl (by decide) (go_eq (y := 1) (by decide) ?_)
  refine go_iconst 3 d20_26 rfl ?_
  refine go_imul d20_27 rfl (go_eq (y := 3) (by decide) ?_)
  refine go_istore d20_28 rfl #[vr ec, vr src, vi 0, vi 5, vr dst, vr tb, vi 0, vi 3, .unset, .unset, .unset, .unset, .unset, .unset, .unset, .unset] rfl ?_
  refine go_iloadN d20_30 rfl rfl ?_
  refine go_iload d20_31 rfl rfl ?_
  refine go_iadd d20_33 rfl (go_eq (y := 3) (by decide) ?_)
  refine go_istore d20_34 rfl #[vr ec, vr src, vi 0, vi 5, vr dst, vr tb, vi 0, vi 3, vi 3, .unset, .unset, .unset, .unset, .unset, .unset, .unset] rfl ?_
  refine go_aloadN d20_36 rfl rfl rfl ?_
  refine go_getfield d20_37 rfl (wd hB 124 rfl) Via.refl E3h ?_
  refine go_if_le_t (pt := 66) d20_40 (by decide) ?_
  refine go_iconst 0 d20_66 rfl ?_
  refine go_istore d20_67 rfl #[vr ec, vr src, vi 0, vi 5, vr dst, vr tb, vi 0, vi 3, vi 3, vi 0, .unset, .unset, .unset, .unset, .unset, .unset] rfl ?_
  refine go_iload d20_69 rfl rfl ?_
  refine go_iload d20_71 rfl rfl ?_
  refine go_icmp_ge_f d20_73 rfl (by decide) ?_
  refine go_iload d20_76 rfl rfl ?_
  refine go_iload d20_78 rfl rfl ?_
  refine go_iadd d20_80 rfl (go_eq (y := 3) (by decide) ?_)
  refine go_iload d20_81 rfl rfl ?_
  refine go_static [(.int 3), (.int 3)] [] 0 d20_83 rfl (wd hB 191 rfl) (wd hB 192 rfl) (wd hB 119 rfl) (wd hB 193 rfl) (c_min_3_3 hB) (fun _ q => nomatch q) (lenOf pd_18 rfl) rfl rfl rfl (fun v108 h109 s110 q111 => ?_)
  obtain ⟨rfl, rfl, rfl⟩ := q111
  show Go _ _ _ _ _ _ _ _ _ _ _ _ h [dst] 0 0 86 _ [(.int 3)]
  refine go_istore d20_86 rfl #[vr ec, vr src, vi 0, vi 5, vr dst, vr tb, vi 0, vi 3, vi 3, vi 0, vi 3, .unset, .unset, .unset, .unset, .unset] rfl ?_
  refine go_aloadN d20_88 rfl rfl rfl ?_
  refine go_aloadN d20_89 rfl rfl rfl ?_
  refine go_iload d20_90 rfl rfl ?_
  refine go_iload d20_92 rfl rfl ?_
  refine go_aload d20_94 rfl rfl rfl ?_
  refine go_iload d20_96 rfl rfl ?_
  refine go_aloadN d20_98 rfl rfl rfl ?_
  refine go_getfield d20_99 rfl (wd hB 131 rfl) Via.refl E1h ?_
  refine go_virtual ec [(.ref src), (.int 0), (.int 3), (.ref dst), (.int 0), (.int 0)] [] 0 d20_102 rfl EXh (wd hB 194 rfl) (declares_of (wd hB 195 rfl) (wd hB 198 rfl)) (nf_of (wd hB 197 rfl)) (wd hB 197 rfl) (wd hB 195 rfl) (wd hB 99 rfl) (wd hB 198 rfl) (c_eb_5 hB b0 b1 b2 b3 b4 b5 hb0 hb1 hb2 hb3 hb4 hb5 hsd A B) (allS (List.Mem.head _) (fun _ q => nomatch q)) (lenOf pd_26 rfl) rfl rfl rfl (fun v112 h113 s114 q115 => ?_)
  obtain ⟨rfl, rfl, K116, B117⟩ := q115
  show Go _ _ _ _ _ _ _ _ _ _ _ _ h113 [dst] 0 0 105 _ []
  refine go_iload d20_105 rfl rfl ?_
  refine go_iload d20_107 rfl rfl ?_
  refine go_isub d20_109 rfl (go_eq (y := 3) (by decide) ?_)
  refine go_iconst 3 d20_110 rfl ?_
  refine go_idiv d20_111 rfl (by decide) (go_eq (y := 1) (by decide) ?_)
  refine go_iconst 4 d20_112 rfl ?_
  refine go_imul d20_113 rfl (go_eq (y := 4) (by decide) ?_)
  refine go_istore d20_114 rfl #[vr ec, vr src, vi 0, vi 5, vr dst, vr tb, vi 0, vi 3, vi 3, vi 0, vi 3, vi 4, .unset, .unset, .unset, .unset] rfl ?_
  refine go_iload d20_116 rfl rfl ?_
  refine go_iload d20_118 rfl rfl ?_
  refine go_iadd d20_120 rfl (go_eq (y := 4) (by decide) ?_)
  refine go_istore d20_121 rfl #[vr ec, vr src, vi 0, vi 5, vr dst, vr tb, vi 0, vi 3, vi 3, vi 4, vi 3, vi 4, .unset, .unset, .unset, .unset] rfl ?_
  refine go_iload d20_123 rfl rfl ?_
  refine go_istore d20_125 rfl #[vr ec, vr src, vi 0, vi 5, vr dst, vr tb, vi 3, vi 3, vi 3, vi 4, vi 3, vi 4, .unset, .unset, .unset, .unset] rfl ?_
  refine go_iload d20_127 rfl rfl ?_
  refine go_aloadN d20_129 rfl rfl rfl ?_
  have F118 := (E3h.keep K116 (ninS (old_ne hOld EX.lt hge) nin0))
  refine go_getfield d20_130 rfl (wd hB 124 rfl) Via.refl F118 ?_
  refine go_icmp_ne_t (pt := 186) d20_133 (by decide) ?_
  refine go_goto (pt := 69) d20_186 ?_
  refine go_iload d20_69 rfl rfl ?_
  refine go_iload d20_71 rfl rfl ?_
  refine go_icmp_ge_t (pt := 189) d20_73 (by decide) ?_
  refine go_iload d20_189 rfl rfl ?_
  refine go_iloadN d20_191 rfl rfl ?_
  refine go_icmp_ge_f d20_192 rfl (by decide) ?_
  refine go_aloadN d20_195 rfl rfl rfl ?_
  refine go_iload d20_196 rfl rfl ?_
  refine go_iincV 1 4 d20_198 rfl #[vr ec, vr src, vi 0, vi 5, vr dst, vr tb, vi 4, vi 3, vi 3, vi 4, vi 3, vi 4, .unset, .unset, .unset, .unset] (by decide) rfl (by decide) rfl ?_
  have F119 := (A.keep K116 (ninS hsd nin0))
  refine go_baload (v := (.int ((Int32.ofNat b3).toInt8.toInt32))) 3 d20_201 rfl F119 ⟨by decide, by decide⟩ (by decide) rfl ?_
  refine go_sipush 255 d20_202 rfl ?_
  refine go_iand d20_205 rfl (go_eq (y := Int32.ofNat b3) (B_isC hb3).back ?_)
  refine go_istore d20_206 rfl #[vr ec, vr src, vi 0, vi 5, vr dst, vr tb, vi 4, vi 3, vi 3, vi 4, vi (Int32.ofNat b3), vi 4, .unset, .unset, .unset, .unset] rfl ?_
  refine go_aload d20_208 rfl rfl rfl ?_
  refine go_iload d20_210 rfl rfl ?_
  refine go_iincV 1 5 d20_212 rfl #[vr ec, vr src, vi 0, vi 5, vr dst, vr tb, vi 4, vi 3, vi 3, vi 5, vi (Int32.ofNat b3), vi 4, .unset, .unset, .unset, .unset] (by decide) rfl (by decide) rfl ?_
  refine go_aload d20_215 rfl rfl rfl ?_
  refine go_iload d20_217 rfl rfl ?_
  refine go_iconst 2 d20_219 rfl ?_
  refine go_ishr d20_220 rfl (go_eq (y := Int32.ofNat (X0 b3)) (shrE (k := 2) (by decide) (by decide) (by omega) rfl) ?_)
  have F120 := (hAu.keep K116 (ninS (old_ne hOld hAt.lt hge) nin0))
  refine go_caload (v := (.int (T (X0 b3)))) (X0 b3) d20_221 rfl F120 (N_in lt105) (N_cl lt105) (tb_at lt105) ?_
  refine go_i2b d20_222 rfl ?_
  refine go_bastoreV 4 ((T (X0 b3)).toInt8.toInt32) d20_223 rfl (i8i8 _) B117 ⟨by decide, by decide⟩ (by decide) (by show 4 < 8; decide) (List.Mem.head _) ?_
  intro h121 W122 B123
  have B124 : Arv Z h121 dst kd .byte 8 [(lv (T (X0 b0))), (lv (T (X1 b0 b1))), (lv (T (X2 b1 b2))), (lv (T (X3 b2))), (lv (T (X0 b3))), (.int 0), (.int 0), (.int 0)] (.int 0) := B123
  refine go_iload d20_224 rfl rfl ?_
  refine go_iloadN d20_226 rfl rfl ?_
  refine go_icmp_ne_t (pt := 279) d20_227 (by decide) ?_
  refine go_aloadN d20_279 rfl rfl rfl ?_
  refine go_iload d20_280 rfl rfl ?_
  refine go_iincV 1 5 d20_282 rfl #[vr ec, vr src, vi 0, vi 5, vr dst, vr tb, vi 5, vi 3, vi 3, vi 5, vi (Int32.ofNat b3), vi 4, .unset, .unset, .unset, .unset] (by decide) rfl (by decide) rfl ?_
  have F125 := (Arv.other F119 W122 hsd)
  refine go_baload (v := (.int ((Int32.ofNat b4).toInt8.toInt32))) 4 d20_285 rfl F125 ⟨by decide, by decide⟩ (by decide) rfl ?_
  refine go_sipush 255 d20_286 rfl ?_
  refine go_iand d20_289 rfl (go_eq (y := Int32.ofNat b4) (B_isC hb4).back ?_)
  refine go_istore d20_290 rfl #[vr ec, vr src, vi 0, vi 5, vr dst, vr tb, vi 5, vi 3, vi 3, vi 5, vi (Int32.ofNat b3), vi (Int32.ofNat b4), .unset, .unset, .unset, .unset] rfl ?_
  refine go_aload d20_292 rfl rfl rfl ?_
  refine go_iload d20_294 rfl rfl ?_
  refine go_iincV 1 6 d20_296 rfl #[vr ec, vr src, vi 0, vi 5, vr dst, vr tb, vi 5, vi 3, vi 3, vi 6, vi (Int32.ofNat b3), vi (Int32.ofNat b4), .unset, .unset, .unset, .unset] (by decide) rfl (by decide) rfl ?_
  refine go_aload d20_299 rfl rfl rfl ?_
  refine go_iload d20_301 rfl rfl ?_
  refine go_iconst 4 d20_303 rfl ?_
  refine go_ishl d20_304 rfl (go_eq (y := Int32.ofNat (b3 * 16)) (shlE (k := 4) (by decide) (by decide) (by omega) rfl (by omega)) ?_)
  refine go_bipush 63 d20_305 rfl ?_
  refine go_iand d20_307 rfl (go_eq (y := Int32.ofNat (b3 % 4 * 16)) (and63 (by omega) (by omega)) ?_)
  refine go_iload d20_308 rfl rfl ?_
  refine go_iconst 4 d20_310 rfl ?_
  refine go_ishr d20_311 rfl (go_eq (y := Int32.ofNat (b4 / 16)) (shrE (k := 4) (by decide) (by decide) (by omega) rfl) ?_)
  refine go_ior d20_312 rfl (go_eq (y := Int32.ofNat (X1 b3 b4)) (orE (k := 4) (by omega) (by omega) rfl (x_lt31 lt106)) ?_)
  have F126 := (Arv.other F120 W122 (old_ne hOld hAt.lt hge))
  refine go_caload (v := (.int (T (X1 b3 b4)))) (X1 b3 b4) d20_313 rfl F126 (N_in lt106) (N_cl lt106) (tb_at lt106) ?_
  refine go_i2b d20_314 rfl ?_
  refine go_bastoreV 5 ((T (X1 b3 b4)).toInt8.toInt32) d20_315 rfl (i8i8 _) B124 ⟨by decide, by decide⟩ (by decide) (by show 5 < 8; decide) (List.Mem.head _) ?_
  intro h127 W128 B129
  have B130 : Arv Z h127 dst kd .byte 8 [(lv (T (X0 b0))), (lv (T (X1 b0 b1))), (lv (T (X2 b1 b2))), (lv (T (X3 b2))), (lv (T (X0 b3))), (lv (T (X1 b3 b4))), (.int 0), (.int 0)] (.int 0) := B129
  refine go_aload d20_316 rfl rfl rfl ?_
  refine go_iload d20_318 rfl rfl ?_
  refine go_iincV 1 7 d20_320 rfl #[vr ec, vr src, vi 0, vi 5, vr dst, vr tb, vi 5, vi 3, vi 3, vi 7, vi (Int32.ofNat b3), vi (Int32.ofNat b4), .unset, .unset, .unset, .unset] (by decide) rfl (by decide) rfl ?_
  refine go_aload d20_323 rfl rfl rfl ?_
  refine go_iload d20_325 rfl rfl ?_
  refine go_iconst 2 d20_327 rfl ?_
  refine go_ishl d20_328 rfl (go_eq (y := Int32.ofNat (b4 * 4)) (shlE (k := 2) (by decide) (by decide) (by omega) rfl (by omega)) ?_)
  refine go_bipush 63 d20_329 rfl ?_
  refine go_iand d20_331 rfl (go_eq (y := Int32.ofNat (X2 b4 0)) (and63 (by omega) (by simp only [X0, X1, X2, X3] <;> omega)) ?_)
  have F131 := (Arv.other F126 W128 (old_ne hOld hAt.lt hge))
  refine go_caload (v := (.int (T (X2 b4 0)))) (X2 b4 0) d20_332 rfl F131 (N_in lt107) (N_cl lt107) (tb_at lt107) ?_
  refine go_i2b d20_333 rfl ?_
  refine go_bastoreV 6 ((T (X2 b4 0)).toInt8.toInt32) d20_334 rfl (i8i8 _) B130 ⟨by decide, by decide⟩ (by decide) (by show 6 < 8; decide) (List.Mem.head _) ?_
  intro h132 W133 B134
  have B135 : Arv Z h132 dst kd .byte 8 [(lv (T (X0 b0))), (lv (T (X1 b0 b1))), (lv (T (X2 b1 b2))), (lv (T (X3 b2))), (lv (T (X0 b3))), (lv (T (X1 b3 b4))), (lv (T (X2 b4 0))), (.int 0)] (.int 0) := B134
  refine go_aloadN d20_335 rfl rfl rfl ?_
  have F136 := (Fld.other W133 (Fld.other W128 (Fld.other W122 (E4h.keep K116 (ninS (old_ne hOld EX.lt hge) nin0)) (Or.inl (old_ne hOld EX.lt hge))) (Or.inl (old_ne hOld EX.lt hge))) (Or.inl (old_ne hOld EX.lt hge)))
  refine go_getfield d20_336 rfl (wd hB 115 rfl) Via.refl F136 ?_
  refine go_if_eq_f d20_339 rfl (by decide) ?_
  refine go_aload d20_342 rfl rfl rfl ?_
  refine go_iload d20_344 rfl rfl ?_
  refine go_iincV 1 8 d20_346 rfl #[vr ec, vr src, vi 0, vi 5, vr dst, vr tb, vi 5, vi 3, vi 3, vi 8, vi (Int32.ofNat b3), vi (Int32.ofNat b4), .unset, .unset, .unset, .unset] (by decide) rfl (by decide) rfl ?_
  refine go_bipush 61 d20_349 rfl ?_
  refine go_bastoreV 7 ((61 : Int32).toInt8.toInt32) d20_351 rfl rfl B135 ⟨by decide, by decide⟩ (by decide) (by show 7 < 8; decide) (List.Mem.head _) ?_
  intro h137 W138 B139
  have B140 : Arv Z h137 dst kd .byte 8 [(lv (T (X0 b0))), (lv (T (X1 b0 b1))), (lv (T (X2 b1 b2))), (lv (T (X3 b2))), (lv (T (X0 b3))), (lv (T (X1 b3 b4))), (lv (T (X2 b4 0))), (lv (61 : Int32))] (.int 0) := B139
  refine go_iload d20_352 rfl rfl ?_
  refine go_retI d20_354 [] rfl (by decide) (by decide) (fun _ q => nomatch q) ?_
  exact ⟨rfl, rfl, ((((((Keep.refl h [dst]).trans K116 (allS (Or.inl (List.Mem.head _)) all0)).wr W122 (Or.inl (List.Mem.head _))).wr W128 (Or.inl (List.Mem.head _))).wr W133 (Or.inl (List.Mem.head _))).wr W138 (Or.inl (List.Mem.head _))), B140⟩
set_option maxRecDepth 65536 in
set_option maxHeartbeats 4000000 in
theorem c_ea_5 (hB : Base Z a0) (b0 b1 b2 b3 b4 b5 : Nat) (hb0 : b0 < 256) (hb1 : b1 < 256) (hb2 : b2 < 256) (hb3 : b3 < 256) (hb4 : b4 < 256) (hb5 : b5 < 256) {ec : Addr} (E0 : IsEnc Z ec) {src : Addr} {ks : ClassId} {h : Heap} (A : Arv Z h src ks .byte 5 [(lv (Int32.ofNat b0)), (lv (Int32.ofNat b1)), (lv (Int32.ofNat b2)), (lv (Int32.ofNat b3)), (lv (Int32.ofNat b4))] (.int 0)) :
    Con l Z ELc n0 (⟨"java/util/Base64$Encoder", "encode", "([B)[B"⟩ : MethodName) kb17 5 (Option.some (FieldType.array FieldType.byte)) [] (⟨2, 1, 8, 49⟩ : Room) #[.ref ec, .ref src] h [] (fun v h' sf' => ∃ r kr, v = some (.ref r) ∧ sf' = [] ∧ Ext h h' ∧ h.size ≤ r ∧ Exa Z h' r "[B" ∧ Arv Z h' r kr .byte 8 [(lv (T (X0 b0))), (lv (T (X1 b0 b1))), (lv (T (X2 b1 b2))), (lv (T (X3 b2))), (lv (T (X0 b3))), (lv (T (X1 b3 b4))), (lv (T (X2 b4 0))), (lv (61 : Int32))] (.int 0)) := by
  refine con_ofA hB (ls := #[.val (.ref ec), .val (.ref src), .unset, .unset, .unset]) (fun m => by simp [entryFrame, mkF, argsToLocals, Value.category]) ?_
  show Go _ _ _ _ _ _ "java/util/Base64$Encoder" kb17 5 _ "encode" _ h [] 0 0 0 #[vr ec, vr src, .unset, .unset, .unset] []
  refine Go.old (fun hOld => ?_)
  obtain ⟨EX, E1, E3, E4⟩ := id E0
  have EXh := Exa.ext hOld.2 EX
  have E1h := Fld.ext hOld.2 E1
  have E3h := Fld.ext hOld.2 E3
  have E4h := Fld.ext hOld.2 E4
  refine go_aloadN d17_0 rfl rfl rfl ?_
  refine go_aloadN d17_1 rfl rfl rfl ?_
  refine go_alen d17_2 rfl A ?_
  refine go_iconst 1 d17_3 rfl ?_
  refine go_virtualH ec [(.int 5), (.int 1)] [] 0 d17_4 rfl EXh (wd hB 110 rfl) (declares_ofH (wd hB 111 rfl) (wd hB 114 rfl)) (nf_of (wd hB 113 rfl)) (wd hB 113 rfl) (wd hB 111 rfl) (wd hB 99 rfl) (wd hB 114 rfl) (c_eol_5 hB E0) (fun _ q => nomatch q) (lenOf pd_19 rfl) rfl rfl rfl (fun v101 h102 s103 q104 => ?_)
  obtain ⟨rfl, rfl, rfl⟩ := q104
  show Go _ _ _ _ _ _ _ _ _ _ _ _ h [] 0 0 7 _ [(.int 8)]
  refine go_istoreN d17_7 rfl #[vr ec, vr src, vi 8, .unset, .unset] rfl ?_
  refine go_iloadN d17_8 rfl rfl ?_
  refine go_newarr (ty := .byte) (ad := "[B") 8 d17_9 rfl rfl (wd hB 18 rfl) (by decide) (by decide) (by decide) (by decide) (by decide) (by decide) ?_
  intro h110 x105 hx106 E107 ⟨A108, k109, B111⟩
  have B112 : Arv Z h110 x105 k109 .byte 8 [(.int 0), (.int 0), (.int 0), (.int 0), (.int 0), (.int 0), (.int 0), (.int 0)] (.int 0) := B111.pad (pad_rep [] (.int 0) 8)
  refine go_astoreN d17_11 rfl #[vr ec, vr src, vi 8, vr x105, .unset] rfl rfl ?_
  refine go_aloadN d17_12 rfl rfl rfl ?_
  refine go_aloadN d17_13 rfl rfl rfl ?_
  refine go_iconst 0 d17_14 rfl ?_
  refine go_aloadN d17_15 rfl rfl rfl ?_
  have F113 := (A.ext E107)
  refine go_alen d17_16 rfl F113 ?_
  refine go_aloadN d17_17 rfl rfl rfl ?_
  have F118 := (Exa.ext E107 EXh)
  refine go_virtual ec [(.ref src), (.int 0), (.int 5), (.ref x105)] [] 0 d17_18 rfl F118 (wd hB 126 rfl) (declares_of (wd hB 127 rfl) (wd hB 130 rfl)) (nf_of (wd hB 129 rfl)) (wd hB 129 rfl) (wd hB 127 rfl) (wd hB 99 rfl) (wd hB 130 rfl) (c_e0_5 hB b0 b1 b2 b3 b4 b5 hb0 hb1 hb2 hb3 hb4 hb5 E0 (Nat.ne_of_lt (Nat.lt_of_lt_of_le A.lt (Nat.le_of_eq hx106.symm))) F113 B112) (allS (List.Mem.head _) (fun _ q => nomatch q)) (lenOf pd_10 rfl) rfl rfl rfl (fun v114 h115 s116 q117 => ?_)
  obtain ⟨rfl, rfl, K119, B120⟩ := q117
  show Go _ _ _ _ _ _ _ _ _ _ _ _ h115 [x105] 1 8 21 _ [(.int 8)]
  refine go_istore d17_21 rfl #[vr ec, vr src, vi 8, vr x105, vi 8] rfl ?_
  refine go_iload d17_23 rfl rfl ?_
  refine go_aloadN d17_25 rfl rfl rfl ?_
  refine go_alen d17_26 rfl B120 ?_
  refine go_icmp_eq_t (pt := 37) d17_27 (by decide) ?_
  refine go_aloadN d17_37 rfl rfl rfl ?_
  have F121 := (A108.keep K119)
  refine go_retA d17_38 [] rfl rfl rfl rfl (by decide) (by decide) (fun _ q => nomatch q) ?_
  exact ⟨_, _, rfl, rfl, (ext_of_keep (((Keep.refl h []).ext E107).trans K119 (allS (Or.inr (Nat.le_of_eq hx106.symm)) all0))), (Nat.le_of_eq hx106.symm), F121, B120⟩
set_option maxRecDepth 65536 in
set_option maxHeartbeats 4000000 in
theorem c_es_5 (hB : Base Z a0) (b0 b1 b2 b3 b4 b5 : Nat) (hb0 : b0 < 256) (hb1 : b1 < 256) (hb2 : b2 < 256) (hb3 : b3 < 256) (hb4 : b4 < 256) (hb5 : b5 < 256) {ec : Addr} (E0 : IsEnc Z ec) {src : Addr} {ks : ClassId} {h : Heap} (A : Arv Z h src ks .byte 5 [(lv (Int32.ofNat b0)), (lv (Int32.ofNat b1)), (lv (Int32.ofNat b2)), (lv (Int32.ofNat b3)), (lv (Int32.ofNat b4))] (.int 0)) :
    Con l Z ELc n0 (⟨"java/util/Base64$Encoder", "encodeToString", "([B)Ljava/lang/String;"⟩ : MethodName) kb16 3 (Option.some (FieldType.object "java/lang/String")) [] (⟨3, 3, 20, 65⟩ : Room) #[.ref ec, .ref src] h [] (fun v h' sf' => ∃ s d kd, v = some (.ref s) ∧ sf' = [] ∧ Ext h h' ∧ h.size ≤ s ∧ Exa Z h' s "java/lang/String" ∧ Fld Z h' s "java/lang/String" "coder" "B" (.int 0) ∧ Fld Z h' s "java/lang/String" "value" "[B" (.ref d) ∧ Arv Z h' d kd .byte 8 [(lv (T (X0 b0))), (lv (T (X1 b0 b1))), (lv (T (X2 b1 b2))), (lv (T (X3 b2))), (lv (T (X0 b3))), (lv (T (X1 b3 b4))), (lv (T (X2 b4 0))), (lv (61 : Int32))] (.int 0)) := by
  refine con_ofA hB (ls := #[.val (.ref ec), .val (.ref src), .unset]) (fun m => by simp [entryFrame, mkF, argsToLocals, Value.category]) ?_
  show Go _ _ _ _ _ _ "java/util/Base64$Encoder" kb16 3 _ "encodeToString" _ h [] 0 0 0 #[vr ec, vr src, .unset] []
  refine Go.old (fun hOld => ?_)
  obtain ⟨EX, E1, E3, E4⟩ := id E0
  have EXh := Exa.ext hOld.2 EX
  have E1h := Fld.ext hOld.2 E1
  have E3h := Fld.ext hOld.2 E3
  have E4h := Fld.ext hOld.2 E4
  refine go_aloadN d16_0 rfl rfl rfl ?_
  refine go_aloadN d16_1 rfl rfl rfl ?_
  refine go_virtual ec [(.ref src)] [] 0 d16_2 rfl EXh (wd hB 105 rfl) (wd hB 106 rfl) (nf_of (wd hB 108 rfl)) (wd hB 108 rfl) (wd hB 107 rfl) (wd hB 99 rfl) (wd hB 109 rfl) (c_ea_5 hB b0 b1 b2 b3 b4 b5 hb0 hb1 hb2 hb3 hb4 hb5 E0 A) (fun _ q => nomatch q) (lenOf pd_12 rfl) rfl rfl rfl (fun v101 h102 s103 q104 => ?_)
  obtain ⟨r105, k106, rfl, rfl, E107, g108, X109, A110⟩ := q104
  show Go _ _ _ _ _ _ _ _ _ _ _ _ h102 [] 1 8 5 _ [(.ref r105)]
  refine go_astoreN d16_5 rfl #[vr ec, vr src, vr r105] rfl rfl ?_
  refine go_new d16_6 rfl (wd hB 134 rfl) (wd hB 5 rfl) (wd hB 6 rfl) (by decide) (by decide) ?_
  intro h116 x111 hx112 E113 ⟨A114, D115⟩
  have F117 : Fld Z h116 x111 "java/lang/String" "value" "[B" .null := D115 (Or.inr (wd hB 19 rfl)) (ty := (.array .byte)) (by decide)
  have F118 : Fld Z h116 x111 "java/lang/String" "coder" "B" (.int 0) := D115 (Or.inr (wd hB 20 rfl)) (ty := .byte) (by decide)
  refine go_dup d16_9 rfl rfl ?_
  refine go_aloadN d16_10 rfl rfl rfl ?_
  refine go_iconst 0 d16_11 rfl ?_
  refine go_iconst 0 d16_12 rfl ?_
  refine go_aloadN d16_13 rfl rfl rfl ?_
  have F119 := (A110.ext E113)
  refine go_alen d16_14 rfl F119 ?_
  have F120 := (Exa.ext E113 X109)
  refine go_special x111 [(.ref r105), (.int 0), (.int 0), (.int 8)] [(.ref x111)] 1 d16_15 rfl rfl (wd hB 135 rfl) (wd hB 136 rfl) (wd hB 6 rfl) (wd hB 137 rfl) (c_s3_8 hB F119 F120 A114 F117 F118) (allS (List.Mem.head _) (fun _ q => nomatch q)) (lenOf pd_20 rfl) rfl rfl rfl (fun v121 h122 s123 q124 => ?_)
  obtain ⟨rfl, rfl, K125, E126, F127, d128, k129, G130, A131⟩ := q124
  show Go _ _ _ _ _ _ _ _ _ _ _ _ h122 [x111] 3 20 18 _ [(.ref x111)]
  refine go_retA d16_18 [] rfl rfl rfl rfl (by decide) (by decide) (fun _ q => nomatch q) ?_
  exact ⟨x111, d128, k129, rfl, rfl, (ext_of_keep ((((Keep.refl h []).ext E107).ext E113).trans K125 (allS (Or.inr (Nat.le_trans E107.1 (Nat.le_of_eq hx112.symm))) all0))), (Nat.le_trans E107.1 (Nat.le_of_eq hx112.symm)), E126, F127, G130, A131⟩
set_option maxRecDepth 65536 in
set_option maxHeartbeats 4000000 in
theorem c_be_5 (hB : Base Z a0) (b0 b1 b2 b3 b4 b5 : Nat) (hb0 : b0 < 256) (hb1 : b1 < 256) (hb2 : b2 < 256) (hb3 : b3 < 256) (hb4 : b4 < 256) (hb5 : b5 < 256) {ec : Addr} (E0 : IsEnc Z ec) (SE : Sta Z Z.heap "java/util/Base64$Encoder" "RFC4648" "Ljava/util/Base64$Encoder;" (.ref ec)) {src : Addr} {ks : ClassId} {h : Heap} (A : Arv Z h src ks .byte 5 [(lv (Int32.ofNat b0)), (lv (Int32.ofNat b1)), (lv (Int32.ofNat b2)), (lv (Int32.ofNat b3)), (lv (Int32.ofNat b4))] (.int 0)) :
    Con l Z ELc n0 (⟨"com/example/cardea/cardea/Base64Text", "encode", "([B)Ljava/lang/String;"⟩ : MethodName) kb14 1 (Option.some (FieldType.object "java/lang/String")) [] (⟨4, 3, 20, 79⟩ : Room) #[.ref src] h [] (fun v h' sf' => ∃ s d kd, v = some (.ref s) ∧ sf' = [] ∧ Ext h h' ∧ h.size ≤ s ∧ Exa Z h' s "java/lang/String" ∧ Fld Z h' s "java/lang/String" "coder" "B" (.int 0) ∧ Fld Z h' s "java/lang/String" "value" "[B" (.ref d) ∧ Arv Z h' d kd .byte 8 [(lv (T (X0 b0))), (lv (T (X1 b0 b1))), (lv (T (X2 b1 b2))), (lv (T (X3 b2))), (lv (T (X0 b3))), (lv (T (X1 b3 b4))), (lv (T (X2 b4 0))), (lv (61 : Int32))] (.int 0)) := by
  refine con_ofA hB (ls := #[.val (.ref src)]) (fun m => by simp [entryFrame, mkF, argsToLocals, Value.category]) ?_
  show Go _ _ _ _ _ _ "com/example/cardea/cardea/Base64Text" kb14 1 _ "encode" _ h [] 0 0 0 #[vr src] []
  refine Go.old (fun hOld => ?_)
  obtain ⟨EX, E1, E3, E4⟩ := id E0
  have EXh := Exa.ext hOld.2 EX
  have E1h := Fld.ext hOld.2 E1
  have E3h := Fld.ext hOld.2 E3
  have E4h := Fld.ext hOld.2 E4
  refine go_static [] [] 0 d14_0 rfl (wd hB 95 rfl) (wd hB 96 rfl) (wd hB 31 rfl) (wd hB 97 rfl) (c_ge hB SE) (fun _ q => nomatch q) (lenOf pd_21 rfl) rfl rfl rfl (fun v101 h102 s103 q104 => ?_)
  obtain ⟨rfl, rfl, rfl⟩ := q104
  show Go _ _ _ _ _ _ _ _ _ _ _ _ h [] 0 0 3 _ [(.ref ec)]
  refine go_aloadN d14_3 rfl rfl rfl ?_
  refine go_virtual ec [(.ref src)] [] 0 d14_4 rfl EXh (wd hB 100 rfl) (wd hB 101 rfl) (nf_of (wd hB 103 rfl)) (wd hB 103 rfl) (wd hB 102 rfl) (wd hB 99 rfl) (wd hB 104 rfl) (c_es_5 hB b0 b1 b2 b3 b4 b5 hb0 hb1 hb2 hb3 hb4 hb5 E0 A) (fun _ q => nomatch q) (lenOf pd_22 rfl) rfl rfl rfl (fun v105 h106 s107 q108 => ?_)
  obtain ⟨s109, d110, k111, rfl, rfl, E112, g113, F114, F115, F116, F117⟩ := q108
  show Go _ _ _ _ _ _ _ _ _ _ _ _ h106 [] 3 20 7 _ [(.ref s109)]
  refine go_retA d14_7 [] rfl rfl rfl rfl (by decide) (by decide) (fun _ q => nomatch q) ?_
  exact ⟨s109, d110, _, rfl, rfl, (ext_of_keep ((Keep.refl h []).ext E112)), g113, F114, F115, F116, F117⟩
set_option maxRecDepth 65536 in
set_option maxHeartbeats 4000000 in
theorem c_bd_5 (hB : Base Z a0) (b0 b1 b2 b3 b4 b5 : Nat) (hb0 : b0 < 256) (hb1 : b1 < 256) (hb2 : b2 < 256) (hb3 : b3 < 256) (hb4 : b4 < 256) (hb5 : b5 < 256) {s d : Addr} {k : ClassId} {h : Heap} (E : Exa Z h s "java/lang/String") (C : Fld Z h s "java/lang/String" "coder" "B" (.int 0)) (V : Fld Z h s "java/lang/String" "value" "[B" (.ref d)) (A : Arv Z h d k .byte 8 [(lv (T (X0 b0))), (lv (T (X1 b0 b1))), (lv (T (X2 b1 b2))), (lv (T (X3 b2))), (lv (T (X0 b3))), (lv (T (X1 b3 b4))), (lv (T (X2 b4 0))), (lv (61 : Int32))] (.int 0)) (X : Exa Z h d "[B") :
    ConH l Z ELc n0 (⟨"com/example/cardea/cardea/Base64Text", "decode", "(Ljava/lang/String;)[B"⟩ : MethodName) kbx1 3 (Option.some (FieldType.array FieldType.byte)) [(0, 8, 11, 29)] (⟨6, 5, 33, 91⟩ : Room) #[.ref s] h [] (fun v h' sf' => ∃ r kr, v = some (.ref r) ∧ sf' = [] ∧ Ext h h' ∧ Arv Z h' r kr .byte 5 [(lv (Int32.ofNat b0)), (lv (Int32.ofNat b1)), (lv (Int32.ofNat b2)), (lv (Int32.ofNat b3)), (lv (Int32.ofNat b4))] (.int 0)) := by
  refine con_ofAH hB (ls := #[.val (.ref s), .unset, .unset]) (fun m => by simp [entryFrame, mkF, argsToLocals, Value.category]) ?_
  show Go _ _ _ _ _ _ "com/example/cardea/cardea/Base64Text" kbx1 3 _ "decode" _ h [] 0 0 0 #[vr s, .unset, .unset] []
  obtain ⟨dc, SD, D0⟩ := hB.2.2.2.2.1
  obtain ⟨is, SI, IX⟩ := hB.2.2.2.2.2.1
  obtain ⟨ut, SU, UX⟩ := hB.2.2.2.2.2.2.1
  obtain ⟨ec, SE, E0⟩ := hB.2.2.2.2.2.2.2.2.1
  refine Go.old (fun hOld => ?_)
  obtain ⟨DX, D1, D2⟩ := id D0
  have DXh := Exa.ext hOld.2 DX
  have D1h := Fld.ext hOld.2 D1
  have D2h := Fld.ext hOld.2 D2
  obtain ⟨EX, E1, E3, E4⟩ := id E0
  have EXh := Exa.ext hOld.2 EX
  have E1h := Fld.ext hOld.2 E1
  have E3h := Fld.ext hOld.2 E3
  have E4h := Fld.ext hOld.2 E4
  refine go_static [] [] 0 dx1_0 rfl (wd hB 29 rfl) (wd hB 30 rfl) (wd hB 31 rfl) (wd hB 32 rfl) (c_gd hB SD) (fun _ q => nomatch q) (lenOf pd_23 rfl) rfl rfl rfl (fun v101 h102 s103 q104 => ?_)
  obtain ⟨rfl, rfl, rfl⟩ := q104
  show Go _ _ _ _ _ _ _ _ _ _ _ _ h [] 0 0 3 _ [(.ref dc)]
  refine go_aloadN dx1_3 rfl rfl rfl ?_
  refine go_virtual dc [(.ref s)] [] 0 dx1_4 rfl DXh (wd hB 35 rfl) (wd hB 36 rfl) (nf_of (wd hB 38 rfl)) (wd hB 38 rfl) (wd hB 37 rfl) (wd hB 34 rfl) (wd hB 39 rfl) (c_ds_5 hB b0 b1 b2 b3 b4 b5 hb0 hb1 hb2 hb3 hb4 hb5 D0 SI SU IX UX E C V A X) (fun _ q => nomatch q) (lenOf pd_24 rfl) rfl rfl rfl (fun v105 h106 s107 q108 => ?_)
  obtain ⟨r109, k110, rfl, rfl, E111, g112, A113⟩ := q108
  show Go _ _ _ _ _ _ _ _ _ _ _ _ h106 [] 2 13 7 _ [(.ref r109)]
  refine go_astoreN dx1_7 rfl #[vr s, vr r109, .unset] rfl rfl ?_
  refine go_goto (pt := 22) dx1_8 ?_
  refine go_aloadN dx1_22 rfl rfl rfl ?_
  refine go_static [(.ref r109)] [] 0 dx1_23 rfl (wd hB 92 rfl) (wd hB 93 rfl) (wd hB 27 rfl) (wd hB 94 rfl) (c_be_5 hB b0 b1 b2 b3 b4 b5 hb0 hb1 hb2 hb3 hb4 hb5 E0 SE A113) (fun _ q => nomatch q) (lenOf pd_22 rfl) rfl rfl rfl (fun v114 h115 s116 q117 => ?_)
  obtain ⟨s118, d119, k120, rfl, rfl, E121, g122, F123, F124, F125, F126⟩ := q117
  show Go _ _ _ _ _ _ _ _ _ _ _ _ h115 [] 5 33 26 _ [(.ref s118)]
  refine go_aloadN dx1_26 rfl rfl rfl ?_
  have F127 := (Exa.ext E121 (Exa.ext E111 E))
  have F128 := (Fld.ext E121 (Fld.ext E111 C))
  have F129 := (Fld.ext E121 (Fld.ext E111 V))
  have F130 := ((A.ext E111).ext E121)
  refine go_virtual s118 [(.ref s)] [] 0 dx1_27 rfl F123 (wd hB 146 rfl) (wd hB 147 rfl) (nf_of (wd hB 149 rfl)) (wd hB 149 rfl) (wd hB 148 rfl) (wd hB 6 rfl) (wd hB 150 rfl) (c_seq_8 hB (Ne.symm (Nat.ne_of_lt (Nat.lt_of_lt_of_le (Nat.lt_of_lt_of_le E.lt E111.1) g122))) F123 F124 F125 F126 F127 F128 F129 F130) (fun _ q => nomatch q) (lenOf pd_25 rfl) rfl rfl rfl (fun v131 h132 s133 q134 => ?_)
  obtain ⟨rfl, rfl, rfl⟩ := q134
  show Go _ _ _ _ _ _ _ _ _ _ _ _ h115 [] 5 33 30 _ [(.int 1)]
  refine go_if_ne_t (pt := 43) dx1_30 (by decide) ?_
  refine go_aloadN dx1_43 rfl rfl rfl ?_
  have F135 := (A113.ext E121)
  refine go_retA dx1_44 [] rfl rfl rfl rfl (by decide) (by decide) (fun _ q => nomatch q) ?_
  exact ⟨_, _, rfl, rfl, (ext_of_keep (((Keep.refl h []).ext E111).ext E121)), F135⟩
set_option maxRecDepth 65536 in
set_option maxHeartbeats 4000000 in
theorem c_ae_6_2 (hB : Base Z a0) {h : Heap} :
    Con l Z ELc n0 (⟨"java/lang/Math", "addExact", "(II)I"⟩ : MethodName) kb18 3 (Option.some FieldType.int) [] (⟨0, 0, 0, 0⟩ : Room) #[.int 6, .int 2] h [] (fun v h' sf' => v = some (.int 8) ∧ sf' = [] ∧ h = h') := by
  refine con_ofA hB (ls := #[.val (.int 6), .val (.int 2), .unset]) (fun m => by simp [entryFrame, mkF, argsToLocals, Value.category]) ?_
  show Go _ _ _ _ _ _ "java/lang/Math" kb18 3 _ "addExact" _ h [] 0 0 0 #[vi 6, vi 2, .unset] []
  refine go_iloadN d18_0 rfl rfl ?_
  refine go_iloadN d18_1 rfl rfl ?_
  refine go_iadd d18_2 rfl (go_eq (y := 8) (by decide) ?_)
  refine go_istoreN d18_3 rfl #[vi 6, vi 2, vi 8] rfl ?_
  refine go_iloadN d18_4 rfl rfl ?_
  refine go_iloadN d18_5 rfl rfl ?_
  refine go_ixor d18_6 rfl (go_eq (y := 14) (by decide) ?_)
  refine go_iloadN d18_7 rfl rfl ?_
  refine go_iloadN d18_8 rfl rfl ?_
  refine go_ixor d18_9 rfl (go_eq (y := 10) (by decide) ?_)
  refine go_iand d18_10 rfl (go_eq (y := 10) (by decide) ?_)
  refine go_if_ge_t (pt := 24) d18_11 (by decide) ?_
  refine go_iloadN d18_24 rfl rfl ?_
  refine go_retI d18_25 [] rfl (by decide) (by decide) (fun _ q => nomatch q) ?_
  exact ⟨rfl, rfl, rfl⟩
set_option maxRecDepth 65536 in
set_option maxHeartbeats 4000000 in
theorem c_eol_6 (hB : Base Z a0) {ec : Addr} (E0 : IsEnc Z ec) {h : Heap} :
    ConH l Z ELc n0 (⟨"java/util/Base64$Encoder", "encodedOutLength", "(IZ)I"⟩ : MethodName) kbx2 5 (Option.some FieldType.int) [(2, 79, 82, 33)] (⟨1, 0, 0, 15⟩ : Room) #[.ref ec, .int 6, .int 1] h [] (fun v h' sf' => v = some (.int 8) ∧ sf' = [] ∧ h = h') := by
  refine con_ofAH hB (ls := #[.val (.ref ec), .val (.int 6), .val (.int 1), .unset, .unset]) (fun m => by simp [entryFrame, mkF, argsToLocals, Value.category]) ?_
  show Go _ _ _ _ _ _ "java/util/Base64$Encoder" kbx2 5 _ "encodedOutLength" _ h [] 0 0 0 #[vr ec, vi 6, vi 1, .unset, .unset] []
  refine Go.old (fun hOld => ?_)
  obtain ⟨EX, E1, E3, E4⟩ := id E0
  have EXh := Exa.ext hOld.2 EX
  have E1h := Fld.ext hOld.2 E1
  have E3h := Fld.ext hOld.2 E3
  have E4h := Fld.ext hOld.2 E4
  refine go_iconst 0 dx2_0 rfl ?_
  refine go_istoreN dx2_1 rfl #[vr ec, vi 6, vi 1, vi 0, .unset] rfl ?_
  refine go_aloadN dx2_2 rfl rfl rfl ?_
  refine go_getfield dx2_3 rfl (wd hB 115 rfl) Via.refl E4h ?_
  refine go_if_eq_f dx2_6 rfl (by decide) ?_
  refine go_iconst 4 dx2_9 rfl ?_
  refine go_iloadN dx2_10 rfl rfl ?_
  refine go_iconst 2 dx2_11 rfl ?_
  refine go_static [(.int 6), (.int 2)] [(.int 4)] 1 dx2_12 rfl (wd hB 117 rfl) (wd hB 118 rfl) (wd hB 119 rfl) (wd hB 120 rfl) (c_ae_6_2 hB) (fun _ q => nomatch q) (lenOf pd_18 rfl) rfl rfl rfl (fun v101 h102 s103 q104 => ?_)
  obtain ⟨rfl, rfl, rfl⟩ := q104
  show Go _ _ _ _ _ _ _ _ _ _ _ _ h [] 0 0 15 _ [(.int 8), (.int 4)]
  refine go_iconst 3 dx2_15 rfl ?_
  refine go_idiv dx2_16 rfl (by decide) (go_eq (y := 2) (by decide) ?_)
  refine go_static [(.int 4), (.int 2)] [] 0 dx2_17 rfl (wd hB 121 rfl) (wd hB 122 rfl) (wd hB 119 rfl) (wd hB 123 rfl) (c_me_4_2 hB) (fun _ q => nomatch q) (lenOf pd_18 rfl) rfl rfl rfl (fun v105 h106 s107 q108 => ?_)
  obtain ⟨rfl, rfl, rfl⟩ := q108
  show Go _ _ _ _ _ _ _ _ _ _ _ _ h [] 0 0 20 _ [(.int 8)]
  refine go_istoreN dx2_20 rfl #[vr ec, vi 6, vi 1, vi 8, .unset] rfl ?_
  refine go_goto (pt := 53) dx2_21 ?_
  refine go_aloadN dx2_53 rfl rfl rfl ?_
  refine go_getfield dx2_54 rfl (wd hB 124 rfl) Via.refl E3h ?_
  refine go_if_le_t (pt := 79) dx2_57 (by decide) ?_
  refine go_goto (pt := 100) dx2_79 ?_
  refine go_iloadN dx2_100 rfl rfl ?_
  refine go_retI dx2_101 [] rfl (by decide) (by decide) (fun _ q => nomatch q) ?_
  exact ⟨rfl, rfl, rfl⟩
set_option maxRecDepth 65536 in
set_option maxHeartbeats 4000000 in
theorem c_eb_6 (hB : Base Z a0) (b0 b1 b2 b3 b4 b5 : Nat) (hb0 : b0 < 256) (hb1 : b1 < 256) (hb2 : b2 < 256) (hb3 : b3 < 256) (hb4 : b4 < 256) (hb5 : b5 < 256) {ec : Addr} {src dst : Addr} {ks kd : ClassId} (hsd : src ≠ dst) {h : Heap} (A : Arv Z h src ks .byte 6 [(lv (Int32.ofNat b0)), (lv (Int32.ofNat b1)), (lv (Int32.ofNat b2)), (lv (Int32.ofNat b3)), (lv (Int32.ofNat b4)), (lv (Int32.ofNat b5))] (.int 0)) (B : Arv Z h dst kd .byte 8 [(.int 0), (.int 0), (.int 0), (.int 0), (.int 0), (.int 0), (.int 0), (.int 0)] (.int 0)) :
    Con l Z ELc n0 (⟨"java/util/Base64$Encoder", "encodeBlock", "([BII[BIZ)V"⟩ : MethodName) kb35 11 (Option.none : Option FieldType) [] (⟨0, 0, 0, 0⟩ : Room) #[.ref ec, .ref src, .int 0, .int 6, .ref dst, .int 0, .int 0] h [dst] (fun v h' sf' => v = none ∧ sf' = [] ∧ Keep h h' [dst] ∧ Arv Z h' dst kd .byte 8 [(lv (T (X0 b0))), (lv (T (X1 b0 b1))), (lv (T (X2 b1 b2))), (lv (T (X3 b2))), (lv (T (X0 b3))), (lv (T (X1 b3 b4))), (lv (T (X2 b4 b5))), (lv (T (X3 b5)))] (.int 0)) := by
  refine con_ofA hB (ls := #[.val (.ref ec), .val (.ref src), .val (.int 0), .val (.int 6), .val (.ref dst), .val (.int 0), .val (.int 0), .unset, .unset, .unset, .unset]) (fun m => by simp [entryFrame, mkF, argsToLocals, Value.category]) ?_
  show Go _ _ _ _ _ _ "java/util/Base64$Encoder" kb35 11 _ "encodeBlock" _ h [dst] 0 0 0 #[vr ec, vr src, vi 0, vi 6, vr dst, vi 0, vi 0, .unset, .unset, .unset, .unset] []
  have lt101 : X0 b0 < 64 := (x0_lt hb0)
  have lt102 : X1 b0 b1 < 64 := (x1_lt hb0 hb1)
  have lt103 : X2 b1 b2 < 64 := (x2_lt hb1 hb2)
  have lt104 : X3 b2 < 64 := (x3_lt hb2)
  have lt105 : X0 b3 < 64 := (x0_lt hb3)
  have lt106 : X1 b3 b4 < 64 := (x1_lt hb3 hb4)
  have lt107 : X2 b4 b5 < 64 := (x2_lt hb4 hb5)
  have lt108 : X3 b5 < 64 := (x3_lt hb5)
  refine Go.owned (fun hOw => ?_)
  have hge := (hOw dst (List.Mem.head _)).2
  obtain ⟨tb, kt, hSt, hAt⟩ := hB.2.2.2.2.2.2.2.2.2.1
  refine Go.old (fun hOld => ?_)
  have hAu := hAt.ext hOld.2
  refine go_iload d35_0 rfl rfl ?_
  refine go_if_eq_t (pt := 11) d35_2 (by decide) ?_
  refine go_getstatic d35_11 rfl (wd hB 133 rfl) Via.refl hSt ?_
  refine go_astore d35_14 rfl #[vr ec, vr src, vi 0, vi 6, vr dst, vi 0, vi 0, vr tb, .unset, .unset, .unset] rfl rfl ?_
  refine go_iloadN d35_16 rfl rfl ?_
  refine go_istore d35_17 rfl #[vr ec, vr src, vi 0, vi 6, vr dst, vi 0, vi 0, vr tb, vi 0, .unset, .unset] rfl ?_
  refine go_iload d35_19 rfl rfl ?_
  refine go_istore d35_21 rfl #[vr ec, vr src, vi 0, vi 6, vr dst, vi 0, vi 0, vr tb, vi 0, vi 0, .unset] rfl ?_
  refine go_iload d35_23 rfl rfl ?_
  refine go_iloadN d35_25 rfl rfl ?_
  refine go_icmp_ge_f d35_26 rfl (by decide) ?_
  refine go_aloadN d35_29 rfl rfl rfl ?_
  refine go_iload d35_30 rfl rfl ?_
  refine go_iincV 1 1 d35_32 rfl #[vr ec, vr src, vi 0, vi 6, vr dst, vi 0, vi 0, vr tb, vi 1, vi 0, .unset] (by decide) rfl (by decide) rfl ?_
  refine go_baload (v := (.int ((Int32.ofNat b0).toInt8.toInt32))) 0 d35_35 rfl A ⟨by decide, by decide⟩ (by decide) rfl ?_
  refine go_sipush 255 d35_36 rfl ?_
  refine go_iand d35_39 rfl (go_eq (y := Int32.ofNat b0) (B_isC hb0).back ?_)
  refine go_bipush 16 d35_40 rfl ?_
  refine go_ishl d35_42 rfl (go_eq (y := Int32.ofNat (b0 * 65536)) (shlE (k := 16) (by decide) (by decide) (by omega) rfl (by omega)) ?_)
  refine go_aloadN d35_43 rfl rfl rfl ?_
  refine go_iload d35_44 rfl rfl ?_
  refine go_iincV 1 2 d35_46 rfl #[vr ec, vr src, vi 0, vi 6, vr dst, vi 0, vi 0, vr tb, vi 2, vi 0, .unset] (by decide) rfl (by decide) rfl ?_
  refine go_baload (v := (.int ((Int32.ofNat b1).toInt8.toInt32))) 1 d35_49 rfl A ⟨by decide, by decide⟩ (by decide) rfl ?_
  refine go_sipush 255 d35_50 rfl ?_
  refine go_iand d35_53 rfl (go_eq (y := Int32.ofNat b1) (B_isC hb1).back ?_)
  refine go_bipush 8 d35_54 rfl ?_
  refine go_ishl d35_56 rfl (go_eq (y := Int32.ofNat (b1 * 256)) (shlE (k := 8) (by decide) (by decide) (by omega) rfl (by omega)) ?_)
  refine go_ior d35_57 rfl (go_eq (y := Int32.ofNat (b0 * 65536 + b1 * 256)) (orE (k := 16) (by omega) (by omega) rfl (by omega)) ?_)
  refine go_aloadN d35_58 rfl rfl rfl ?_
  refine go_iload d35_59 rfl rfl ?_
  refine go_iincV 1 3 d35_61 rfl #[vr ec, vr src, vi 0, vi 6, vr dst, vi 0, vi 0, vr tb, vi 3, vi 0, .unset] (by decide) rfl (by decide) rfl ?_
  refine go_baload (v := (.int ((Int32.ofNat b2).toInt8.toInt32))) 2 d35_64 rfl A ⟨by decide, by decide⟩ (by decide) rfl ?_
  refine go_sipush 255 d35_65 rfl ?_
  refine go_iand d35_68 rfl (go_eq (y := Int32.ofNat b2) (B_isC hb2).back ?_)
  refine go_ior d35_69 rfl (go_eq (y := Int32.ofNat (b0 * 65536 + b1 * 256 + b2)) (orE (k := 8) (by omega) (by omega) rfl (by omega)) ?_)
  refine go_istore d35_70 rfl #[vr ec, vr src, vi 0, vi 6, vr dst, vi 0, vi 0, vr tb, vi 3, vi 0, vi (Int32.ofNat (b0 * 65536 + b1 * 256 + b2))] rfl ?_
  refine go_aload d35_72 rfl rfl rfl ?_
  refine go_iload d35_74 rfl rfl ?_
  refine go_iincV 1 1 d35_76 rfl #[vr ec, vr src, vi 0, vi 6, vr dst, vi 0, vi 0, vr tb, vi 3, vi 1, vi (Int32.ofNat (b0 * 65536 + b1 * 256 + b2))] (by decide) rfl (by decide) rfl ?_
  refine go_aload d35_79 rfl rfl rfl ?_
  refine go_iload d35_81 rfl rfl ?_
  refine go_bipush 18 d35_83 rfl ?_
  refine go_iushr d35_85 rfl (go_eq (y := Int32.ofNat ((b0 * 65536 + b1 * 256 + b2) / 262144)) (ushrE (k := 18) (by decide) (by decide) (by omega) rfl) ?_)
  refine go_bipush 63 d35_86 rfl ?_
  refine go_iand d35_88 rfl (go_eq (y := Int32.ofNat (X0 b0)) (and63 (by omega) (by simp only [X0, X1, X2, X3] <;> omega)) ?_)
  refine go_caload (v := (.int (T (X0 b0)))) (X0 b0) d35_89 rfl hAu (N_in lt101) (N_cl lt101) (tb_at lt101) ?_
  refine go_i2b d35_90 rfl ?_
  refine go_bastoreV 0 ((T (X0 b0)).toInt8.toInt32) d35_91 rfl (i8i8 _) B ⟨by decide, by decide⟩ (by decide) (by show 0 < 8; decide) (List.Mem.head _) ?_
  intro h109 W110 B111
  have B112 : Arv Z h109 dst kd .byte 8 [(lv (T (X0 b0))), (.int 0), (.int 0), (.int 0), (.int 0), (.int 0), (.int 0), (.int 0)] (.int 0) := B111
  refine go_aload d35_92 rfl rfl rfl ?_
  refine go_iload d35_94 rfl rfl ?_
  refine go_iincV 1 2 d35_96 rfl #[vr ec, vr src, vi 0, vi 6, vr dst, vi 0, vi 0, vr tb, vi 3, vi 2, vi (Int32.ofNat (b0 * 65536 + b1 * 256 + b2))] (by decide) rfl (by decide) rfl ?_
  refine go_aload d35_99 rfl rfl rfl ?_
  refine go_iload d35_101 rfl rfl ?_
  refine go_bipush 12 d35_103 rfl ?_
  refine go_iushr d35_105 rfl (go_eq (y := Int32.ofNat ((b0 * 65536 + b1 * 256 + b2) / 4096)) (ushrE (k := 12) (by decide) (by decide) (by omega) rfl) ?_)
  refine go_bipush 63 d35_106 rfl ?_
  refine go_iand d35_108 rfl (go_eq (y := Int32.ofNat (X1 b0 b1)) (and63 (by omega) (by simp only [X0, X1, X2, X3] <;> omega)) ?_)
  have F113 := (Arv.other hAu W110 (old_ne hOld hAt.lt hge))
  refine go_caload (v := (.int (T (X1 b0 b1)))) (X1 b0 b1) d35_109 rfl F113 (N_in lt102) (N_cl lt102) (tb_at lt102) ?_
  refine go_i2b d35_110 rfl ?_
  refine go_bastoreV 1 ((T (X1 b0 b1)).toInt8.toInt32) d35_111 rfl (i8i8 _) B112 ⟨by decide, by decide⟩ (by decide) (by show 1 < 8; decide) (List.Mem.head _) ?_
  intro h114 W115 B116
  have B117 : Arv Z h114 dst kd .byte 8 [(lv (T (X0 b0))), (lv (T (X1 b0 b1))), (.int 0), (.int 0), (.int 0), (.int 0), (.int 0), (.int 0)] (.int 0) := B116
  refine go_aload d35_112 rfl rfl rfl ?_
  refine go_iload d35_114 rfl rfl ?_
  refine go_iincV 1 3 d35_116 rfl #[vr ec, vr src, vi 0, vi 6, vr dst, vi 0, vi 0, vr tb, vi 3, vi 3, vi (Int32.ofNat (b0 * 65536 + b1 * 256 + b2))] (by decide) rfl (by decide) rfl ?_
  refine go_aload d35_119 rfl rfl rfl ?_
  refine go_iload d35_121 rfl rfl ?_
  refine go_bipush 6 d35_123 rfl ?_
  refine go_iushr d35_125 rfl (go_eq (y := Int32.ofNat ((b0 * 65536 + b1 * 256 + b2) / 64)) (ushrE (k := 6) (by decide) (by decide) (by omega) rfl) ?_)
  refine go_bipush 63 d35_126 rfl ?_
  refine go_iand d35_128 rfl (go_eq (y := Int32.ofNat (X2 b1 b2)) (and63 (by omega) (by simp only [X0, X1, X2, X3] <;> omega)) ?_)
  have F118 := (Arv.other F113 W115 (old_ne hOld hAt.lt hge))
  refine go_caload (v := (.int (T (X2 b1 b2)))) (X2 b1 b2) d35_129 rfl F118 (N_in lt103) (N_cl lt103) (tb_at lt103) ?_
  refine go_i2b d35_130 rfl ?_
  refine go_bastoreV 2 ((T (X2 b1 b2)).toInt8.toInt32) d35_131 rfl (i8i8 _) B117 ⟨by decide, by decide⟩ (by decide) (by show 2 < 8; decide) (List.Mem.head _) ?_
  intro h119 W120 B121
  have B122 : Arv Z h119 dst kd .byte 8 [(lv (T (X0 b0))), (lv (T (X1 b0 b1))), (lv (T (X2 b1 b2))), (.int 0), (.int 0), (.int 0), (.int 0), (.int 0)] (.int 0) := B121
  refine go_aload d35_132 rfl rfl rfl ?_
  refine go_iload d35_134 rfl rfl ?_
  refine go_iincV 1 4 d35_136 rfl #[vr ec, vr src, vi 0, vi 6, vr dst, vi 0, vi 0, vr tb, vi 3, vi 4, vi (Int32.ofNat (b0 * 65536 + b1 * 256 + b2))] (by decide) rfl (by decide) rfl ?_
  refine go_aload d35_139 rfl rfl rfl ?_
  refine go_iload d35_141 rfl rfl ?_
  refine go_bipush 63 d35_143 rfl ?_
  refine go_iand d35_145 rfl (go_eq (y := Int32.ofNat (X3 b2)) (and63 (by omega) (by simp only [X0, X1, X2, X3] <;> omega)) ?_)
  have F123 := (Arv.other F118 W120 (old_ne hOld hAt.lt hge))
  refine go_caload (v := (.int (T (X3 b2)))) (X3 b2) d35_146 rfl F123 (N_in lt104) (N_cl lt104) (tb_at lt104) ?_
  refine go_i2b d35_147 rfl ?_
  refine go_bastoreV 3 ((T (X3 b2)).toInt8.toInt32) d35_148 rfl (i8i8 _) B122 ⟨by decide, by decide⟩ (by decide) (by show 3 < 8; decide) (List.Mem.head _) ?_
  intro h124 W125 B126
  have B127 : Arv Z h124 dst kd .byte 8 [(lv (T (X0 b0))), (lv (T (X1 b0 b1))), (lv (T (X2 b1 b2))), (lv (T (X3 b2))), (.int 0), (.int 0), (.int 0), (.int 0)] (.int 0) := B126
  refine go_goto (pt := 23) d35_149 ?_
  refine go_iload d35_23 rfl rfl ?_
  refine go_iloadN d35_25 rfl rfl ?_
  refine go_icmp_ge_f d35_26 rfl (by decide) ?_
  refine go_aloadN d35_29 rfl rfl rfl ?_
  refine go_iload d35_30 rfl rfl ?_
  refine go_iincV 1 4 d35_32 rfl #[vr ec, vr src, vi 0, vi 6, vr dst, vi 0, vi 0, vr tb, vi 4, vi 4, vi (Int32.ofNat (b0 * 65536 + b1 * 256 + b2))] (by decide) rfl (by decide) rfl ?_
  have F128 := (Arv.other (Arv.other (Arv.other (Arv.other A W110 hsd) W115 hsd) W120 hsd) W125 hsd)
  refine go_baload (v := (.int ((Int32.ofNat b3).toInt8.toInt32))) 3 d35_35 rfl F128 ⟨by decide, by decide⟩ (by decide) rfl ?_
  refine go_sipush 255 d35_36 rfl ?_
  refine go_iand d35_39 rfl (go_eq (y := Int32.ofNat b3) (B_isC hb3).back ?_)
  refine go_bipush 16 d35_40 rfl ?_
  refine go_ishl d35_42 rfl (go_eq (y := Int32.ofNat (b3 * 65536)) (shlE (k := 16) (by decide) (by decide) (by omega) rfl (by omega)) ?_)
  refine go_aloadN d35_43 rfl rfl rfl ?_
  refine go_iload d35_44 rfl rfl ?_
  refine go_iincV 1 5 d35_46 rfl #[vr ec, vr src, vi 0, vi 6, vr dst, vi 0, vi 0, vr tb, vi 5, vi 4, vi (Int32.ofNat (b0 * 65536 + b1 * 256 + b2))] (by decide) rfl (by decide) rfl ?_
  refine go_baload (v := (.int ((Int32.ofNat b4).toInt8.toInt32))) 4 d35_49 rfl F128 ⟨by decide, by decide⟩ (by decide) rfl ?_
  refine go_sipush 255 d35_50 rfl ?_
  refine go_iand d35_53 rfl (go_eq (y := Int32.ofNat b4) (B_isC hb4).back ?_)
  refine go_bipush 8 d35_54 rfl ?_
  refine go_ishl d35_56 rfl (go_eq (y := Int32.ofNat (b4 * 256)) (shlE (k := 8) (by decide) (by decide) (by omega) rfl (by omega)) ?_)
  refine go_ior d35_57 rfl (go_eq (y := Int32.ofNat (b3 * 65536 + b4 * 256)) (orE (k := 16) (by omega) (by omega) rfl (by omega)) ?_)
  refine go_aloadN d35_58 rfl rfl rfl ?_
  refine go_iload d35_59 rfl rfl ?_
  refine go_iincV 1 6 d35_61 rfl #[vr ec, vr src, vi 0, vi 6, vr dst, vi 0, vi 0, vr tb, vi 6, vi 4, vi (Int32.ofNat (b0 * 65536 + b1 * 256 + b2))] (by decide) rfl (by decide) rfl ?_
  refine go_baload (v := (.int ((Int32.ofNat b5).toInt8.toInt32))) 5 d35_64 rfl F128 ⟨by decide, by decide⟩ (by decide) rfl ?_
  refine go_sipush 255 d35_65 rfl ?_
  refine go_iand d35_68 rfl (go_eq (y := Int32.ofNat b5) (B_isC hb5).back ?_)
  refine go_ior d35_69 rfl (go_eq (y := Int32.ofNat (b3 * 65536 + b4 * 256 + b5)) (orE (k := 8) (by omega) (by omega) rfl (by omega)) ?_)
  refine go_istore d35_70 rfl #[vr ec, vr src, vi 0, vi 6, vr dst, vi 0, vi 0, vr tb, vi 6, vi 4, vi (Int32.ofNat (b3 * 65536 + b4 * 256 + b5))] rfl ?_
  refine go_aload d35_72 rfl rfl rfl ?_
  refine go_iload d35_74 rfl rfl ?_
  refine go_iincV 1 5 d35_76 rfl #[vr ec, vr src, vi 0, vi 6, vr dst, vi 0, vi 0, vr tb, vi 6, vi 5, vi (Int32.ofNat (b3 * 65536 + b4 * 256 + b5))] (by decide) rfl (by decide) rfl ?_
  refine go_aload d35_79 rfl rfl rfl ?_
  refine go_iload d35_81 rfl rfl ?_
  refine go_bipush 18 d35_83 rfl ?_
  refine go_iushr d35_85 rfl (go_eq (y := Int32.ofNat ((b3 * 65536 + b4 * 256 + b5) / 262144)) (ushrE (k := 18) (by decide) (by decide) (by omega) rfl) ?_)
  refine go_bipush 63 d35_86 rfl ?_
  refine go_iand d35_88 rfl (go_eq (y := Int32.ofNat (X0 b3)) (and63 (by omega) (by simp only [X0, X1, X2, X3] <;> omega)) ?_)
  have F129 := (Arv.other F123 W125 (old_ne hOld hAt.lt hge))
  refine go_caload (v := (.int (T (X0 b3)))) (X0 b3) d35_89 rfl F129 (N_in lt105) (N_cl lt105) (tb_at lt105) ?_
  refine go_i2b d35_90 rfl ?_
  refine go_bastoreV 4 ((T (X0 b3)).toInt8.toInt32) d35_91 rfl (i8i8 _) B127 ⟨by decide, by decide⟩ (by decide) (by show 4 < 8; decide) (List.Mem.head _) ?_
  intro h130 W131 B132
  have B133 : Arv Z h130 dst kd .byte 8 [(lv (T (X0 b0))), (lv (T (X1 b0 b1))), (lv (T (X2 b1 b2))), (lv (T (X3 b2))), (lv (T (X0 b3))), (.int 0), (.int 0), (.int 0)] (.int 0) := B132
  refine go_aload d35_92 rfl rfl rfl ?_
  refine go_iload d35_94 rfl rfl ?_
  refine go_iincV 1 6 d35_96 rfl #[vr ec, vr src, vi 0, vi 6, vr dst, vi 0, vi 0, vr tb, vi 6, vi 6, vi (Int32.ofNat (b3 * 65536 + b4 * 256 + b5))] (by decide) rfl (by decide) rfl ?_
  refine go_aload d35_99 rfl rfl rfl ?_
  refine go_iload d35_101 rfl rfl ?_
  refine go_bipush 12 d35_103 rfl ?_
  refine go_iushr d35_105 rfl (go_eq (y := Int32.ofNat ((b3 * 65536 + b4 * 256 + b5) / 4096)) (ushrE (k := 12) (by decide) (by decide) (by omega) rfl) ?_)
  refine go_bipush 63 d35_106 rfl ?_
  refine go_iand d35_108 rfl (go_eq (y := Int32.ofNat (X1 b3 b4)) (and63 (by omega) (by simp only [X0, X1, X2, X3] <;> omega)) ?_)
  have F134 := (Arv.other F129 W131 (old_ne hOld hAt.lt hge))
  refine go_caload (v := (.int (T (X1 b3 b4)))) (X1 b3 b4) d35_109 rfl F134 (N_in lt106) (N_cl lt106) (tb_at lt106) ?_
  refine go_i2b d35_110 rfl ?_
  refine go_bastoreV 5 ((T (X1 b3 b4)).toInt8.toInt32) d35_111 rfl (i8i8 _) B133 ⟨by decide, by decide⟩ (by decide) (by show 5 < 8; decide) (List.Mem.head _) ?_
  intro h135 W136 B137
  have B138 : Arv Z h135 dst kd .byte 8 [(lv (T (X0 b0))), (lv (T (X1 b0 b1))), (lv (T (X2 b1 b2))), (lv (T (X3 b2))), (lv (T (X0 b3))), (lv (T (X1 b3 b4))), (.int 0), (.int 0)] (.int 0) := B137
  refine go_aload d35_112 rfl rfl rfl ?_
  refine go_iload d35_114 rfl rfl ?_
  refine go_iincV 1 7 d35_116 rfl #[vr ec, vr src, vi 0, vi 6, vr dst, vi 0, vi 0, vr tb, vi 6, vi 7, vi (Int32.ofNat (b3 * 65536 + b4 * 256 + b5))] (by decide) rfl (by decide) rfl ?_
  refine go_aload d35_119 rfl rfl rfl ?_
  refine go_iload d35_121 rfl rfl ?_
  refine go_bipush 6 d35_123 rfl ?_
  refine go_iushr d35_125 rfl (go_eq (y := Int32.ofNat ((b3 * 65536 + b4 * 256 + b5) / 64)) (ushrE (k := 6) (by decide) (by decide) (by omega) rfl) ?_)
  refine go_bipush 63 d35_126 rfl ?_
  refine go_iand d35_128 rfl (go_eq (y := Int32.ofNat (X2 b4 b5)) (and63 (by omega) (by simp only [X0, X1, X2, X3] <;> omega)) ?_)
  have F139 := (Arv.other F134 W136 (old_ne hOld hAt.lt hge))
  refine go_caload (v := (.int (T (X2 b4 b5)))) (X2 b4 b5) d35_129 rfl F139 (N_in lt107) (N_cl lt107) (tb_at lt107) ?_
  refine go_i2b d35_130 rfl ?_
  refine go_bastoreV 6 ((T (X2 b4 b5)).toInt8.toInt32) d35_131 rfl (i8i8 _) B138 ⟨by decide, by decide⟩ (by decide) (by show 6 < 8; decide) (List.Mem.head _) ?_
  intro h140 W141 B142
  have B143 : Arv Z h140 dst kd .byte 8 [(lv (T (X0 b0))), (lv (T (X1 b0 b1))), (lv (T (X2 b1 b2))), (lv (T (X3 b2))), (lv (T (X0 b3))), (lv (T (X1 b3 b4))), (lv (T (X2 b4 b5))), (.int 0)] (.int 0) := B142
  refine go_aload d35_132 rfl rfl rfl ?_
  refine go_iload d35_134 rfl rfl ?_
  refine go_iincV 1 8 d35_136 rfl #[vr ec, vr src, vi 0, vi 6, vr dst, vi 0, vi 0, vr tb, vi 6, vi 8, vi (Int32.ofNat (b3 * 65536 + b4 * 256 + b5))] (by decide) rfl (by decide) rfl ?_
  refine go_aload d35_139 rfl rfl rfl ?_
  refine go_iload d35_141 rfl rfl ?_
  refine go_bipush 63 d35_143 rfl ?_
  refine go_iand d35_145 rfl (go_eq (y := Int32.ofNat (X3 b5)) (and63 (by omega) (by simp only [X0, X1, X2, X3] <;> omega)) ?_)
  have F144 := (Arv.other F139 W141 (old_ne hOld hAt.lt hge))
  refine go_caload (v := (.int (T (X3 b5)))) (X3 b5) d35_146 rfl F144 (N_in lt108) (N_cl lt108) (tb_at lt108) ?_
  refine go_i2b d35_147 rfl ?_
  refine go_bastoreV 7 ((T (X3 b5)).toInt8.toInt32) d35_148 rfl (i8i8 _) B143 ⟨by decide, by decide⟩ (by decide) (by show 7 < 8; decide) (List.Mem.head _) ?_
  intro h145 W146 B147
  have B148 : Arv Z h145 dst kd .byte 8 [(lv (T (X0 b0))), (lv (T (X1 b0 b1))), (lv (T (X2 b1 b2))), (lv (T (X3 b2))), (lv (T (X0 b3))), (lv (T (X1 b3 b4))), (lv (T (X2 b4 b5))), (lv (T (X3 b5)))] (.int 0) := B147
  refine go_goto (pt := 23) d35_149 ?_
  refine go_iload d35_23 rfl rfl ?_
  refine go_iloadN d35_25 rfl rfl ?_
  refine go_icmp_ge_t (pt := 152) d35_26 (by decide) ?_
  refine go_ret d35_152 [] rfl (by decide) (by decide) (fun _ q => nomatch q) ?_
  exact ⟨rfl, rfl, (((((((((Keep.refl h [dst]).wr W110 (Or.inl (List.Mem.head _))).wr W115 (Or.inl (List.Mem.head _))).wr W120 (Or.inl (List.Mem.head _))).wr W125 (Or.inl (List.Mem.head _))).wr W131 (Or.inl (List.Mem.head _))).wr W136 (Or.inl (List.Mem.head _))).wr W141 (Or.inl (List.Mem.head _))).wr W146 (Or.inl (List.Mem.head _))), B148⟩
set_option maxRecDepth 65536 in
set_option maxHeartbeats 4000000 in
theorem c_min_6_6 (hB : Base Z a0) {h : Heap} :
    Con l Z ELc n0 (⟨"java/lang/Math", "min", "(II)I"⟩ : MethodName) kb34 2 (Option.some FieldType.int) [] (⟨0, 0, 0, 0⟩ : Room) #[.int 6, .int 6] h [] (fun v h' sf' => v = some (.int 6) ∧ sf' = [] ∧ h = h') := by
  refine con_ofA hB (ls := #[.val (.int 6), .val (.int 6)]) (fun m => by simp [entryFrame, mkF, argsToLocals, Value.category]) ?_
  show Go _ _ _ _ _ _ "java/lang/Math" kb34 2 _ "min" _ h [] 0 0 0 #[vi 6, vi 6] []
  refine go_iloadN d34_0 rfl rfl ?_
  refine go_iloadN d34_1 rfl rfl ?_
  refine go_icmp_gt_f d34_2 rfl (by decide) ?_
  refine go_iloadN d34_5 rfl rfl ?_
  refine go_goto (pt := 10) d34_6 ?_
  refine go_retI d34_10 [] rfl (by decide) (by decide) (fun _ q => nomatch q) ?_
  exact ⟨rfl, rfl, rfl⟩
set_option maxRecDepth 65536 in
set_option maxHeartbeats 4000000 in
theorem c_e0_6 (hB : Base Z a0) (b0 b1 b2 b3 b4 b5 : Nat) (hb0 : b0 < 256) (hb1 : b1 < 256) (hb2 : b2 < 256) (hb3 : b3 < 256) (hb4 : b4 < 256) (hb5 : b5 < 256) {ec : Addr} (E0 : IsEnc Z ec) {src dst : Addr} {ks kd : ClassId} (hsd : src ≠ dst) {h : Heap} (A : Arv Z h src ks .byte 6 [(lv (Int32.ofNat b0)), (lv (Int32.ofNat b1)), (lv (Int32.ofNat b2)), (lv (Int32.ofNat b3)), (lv (Int32.ofNat b4)), (lv (Int32.ofNat b5))] (.int 0)) (B : Arv Z h dst kd .byte 8 [(.int 0), (.int 0), (.int 0), (.int 0), (.int 0), (.int 0), (.int 0), (.int 0)] (.int 0)) :
    Con l Z ELc n0 (⟨"java/util/Base64$Encoder", "encode0", "([BII[B)I"⟩ : MethodName) kb20 16 (Option.some FieldType.int) [] (⟨1, 0, 0, 22⟩ : Room) #[.ref ec, .ref src, .int 0, .int 6, .ref dst] h [dst] (fun v h' sf' => v = some (.int 8) ∧ sf' = [] ∧ Keep h h' [dst] ∧ Arv Z h' dst kd .byte 8 [(lv (T (X0 b0))), (lv (T (X1 b0 b1))), (lv (T (X2 b1 b2))), (lv (T (X3 b2))), (lv (T (X0 b3))), (lv (T (X1 b3 b4))), (lv (T (X2 b4 b5))), (lv (T (X3 b5)))] (.int 0)) := by
  refine con_ofA hB (ls := #[.val (.ref ec), .val (.ref src), .val (.int 0), .val (.int 6), .val (.ref dst), .unset, .unset, .unset, .unset, .unset, .unset, .unset, .unset, .unset, .unset, .unset]) (fun m => by simp [entryFrame, mkF, argsToLocals, Value.category]) ?_
  show Go _ _ _ _ _ _ "java/util/Base64$Encoder" kb20 16 _ "encode0" _ h [dst] 0 0 0 #[vr ec, vr src, vi 0, vi 6, vr dst, .unset, .unset, .unset, .unset, .unset, .unset, .unset, .unset, .unset, .unset, .unset] []
  have lt101 : X0 b0 < 64 := (x0_lt hb0)
  have lt102 : X1 b0 b1 < 64 := (x1_lt hb0 hb1)
  have lt103 : X2 b1 b2 < 64 := (x2_lt hb1 hb2)
  have lt104 : X3 b2 < 64 := (x3_lt hb2)
  have lt105 : X0 b3 < 64 := (x0_lt hb3)
  have lt106 : X1 b3 b4 < 64 := (x1_lt hb3 hb4)
  have lt107 : X2 b4 b5 < 64 := (x2_lt hb4 hb5)
  have lt108 : X3 b5 < 64 := (x3_lt hb5)
  refine Go.owned (fun hOw => ?_)
  have hge := (hOw dst (List.Mem.head _)).2
  refine Go.old (fun hOld => ?_)
  obtain ⟨EX, E1, E3, E4⟩ := id E0
  have EXh := Exa.ext hOld.2 EX
  have E1h := Fld.ext hOld.2 E1
  have E3h := Fld.ext hOld.2 E3
  have E4h := Fld.ext hOld.2 E4
  obtain ⟨tb, kt, hSt, hAt⟩ := hB.2.2.2.2.2.2.2.2.2.1
  have hAu := hAt.ext hOld.2
  refine go_aloadN d20_0 rfl rfl rfl ?_
  refine go_getfield d20_1 rfl (wd hB 131 rfl) Via.refl E1h ?_
  refine go_if_eq_t (pt := 13) d20_4 (by decide) ?_
  refine go_getstatic d20_13 rfl (wd hB 133 rfl) Via.refl hSt ?_
  refine go_astore d20_16 rfl #[vr ec, vr src, vi 0, vi 6, vr dst, vr tb, .unset, .unset, .unset, .unset, .unset, .unset, .unset, .unset, .unset, .unset] rfl rfl ?_
  refine go_iloadN d20_18 rfl rfl ?_
  refine go_istore d20_19 rfl #[vr ec, vr src, vi 0, vi 6, vr dst, vr tb, vi 0, .unset, .unset, .unset, .unset, .unset, .unset, .unset, .unset, .unset] rfl ?_
  refine go_iloadN d20_21 rfl rfl ?_
  refine go_iloadN d20_22 rfl rfl ?_
  refine go_isub d20_23 rfl (go_eq (y := 6) (by decide) ?_)
  refine go_iconst 3 d20_24 rfl ?_
  refine go_idiv d20_25 rfl (by decide) (go_eq (y := 2) (by decide) ?_)
  refine go_iconst 3 d20_26 rfl ?_
  refine go_imul d20_27 rfl (go_eq (y := 6) (by decide) ?_)
  refine go_istore d20_28 rfl #[vr ec, vr src, vi 0, vi 6, vr dst, vr tb, vi 0, vi 6, .unset, .unset, .unset, .unset, .unset, .unset, .unset, .unset] rfl ?_
  refine go_iloadN d20_30 rfl rfl ?_
  refine go_iload d20_31 rfl rfl ?_
  refine go_iadd d20_33 rfl (go_eq (y := 6) (by decide) ?_)
  refine go_istore d20_34 rfl #[vr ec, vr src, vi 0, vi 6, vr dst, vr tb, vi 0, vi 6, vi 6, .unset, .unset, .unset, .unset, .unset, .unset, .unset] rfl ?_
  refine go_aloadN d20_36 rfl rfl rfl ?_
  refine go_getfield d20_37 rfl (wd hB 124 rfl) Via.refl E3h ?_
  refine go_if_le_t (pt := 66) d20_40 (by decide) ?_
  refine go_iconst 0 d20_66 rfl ?_
  refine go_istore d20_67 rfl #[vr ec, vr src, vi 0, vi 6, vr dst, vr tb, vi 0, vi 6, vi 6, vi 0, .unset, .unset, .unset, .unset, .unset, .unset] rfl ?_
  refine go_iload d20_69 rfl rfl ?_
  refine go_iload d20_71 rfl rfl ?_
  refine go_icmp_ge_f d20_73 rfl (by decide) ?_
  refine go_iload d20_76 rfl rfl ?_
  refine go_iload d20_78 rfl rfl ?_
  refine go_iadd d20_80 rfl (go_eq (y := 6) (by decide) ?_)
  refine go_iload d20_81 rfl rfl ?_
  refine go_static [(.int 6), (.int 6)] [] 0 d20_83 rfl (wd hB 191 rfl) (wd hB 192 rfl) (wd hB 119 rfl) (wd hB 193 rfl) (c_min_6_6 hB) (fun _ q => nomatch q) (lenOf pd_18 rfl) rfl rfl rfl (fun v109 h110 s111 q112 => ?_)
  obtain ⟨rfl, rfl, rfl⟩ := q112
  show Go _ _ _ _ _ _ _ _ _ _ _ _ h [dst] 0 0 86 _ [(.int 6)]
  refine go_istore d20_86 rfl #[vr ec, vr src, vi 0, vi 6, vr dst, vr tb, vi 0, vi 6, vi 6, vi 0, vi 6, .unset, .unset, .unset, .unset, .unset] rfl ?_
  refine go_aloadN d20_88 rfl rfl rfl ?_
  refine go_aloadN d20_89 rfl rfl rfl ?_
  refine go_iload d20_90 rfl rfl ?_
  refine go_iload d20_92 rfl rfl ?_
  refine go_aload d20_94 rfl rfl rfl ?_
  refine go_iload d20_96 rfl rfl ?_
  refine go_aloadN d20_98 rfl rfl rfl ?_
  refine go_getfield d20_99 rfl (wd hB 131 rfl) Via.refl E1h ?_
  refine go_virtual ec [(.ref src), (.int 0), (.int 6), (.ref dst), (.int 0), (.int 0)] [] 0 d20_102 rfl EXh (wd hB 194 rfl) (declares_of (wd hB 195 rfl) (wd hB 198 rfl)) (nf_of (wd hB 197 rfl)) (wd hB 197 rfl) (wd hB 195 rfl) (wd hB 99 rfl) (wd hB 198 rfl) (c_eb_6 hB b0 b1 b2 b3 b4 b5 hb0 hb1 hb2 hb3 hb4 hb5 hsd A B) (allS (List.Mem.head _) (fun _ q => nomatch q)) (lenOf pd_26 rfl) rfl rfl rfl (fun v113 h114 s115 q116 => ?_)
  obtain ⟨rfl, rfl, K117, B118⟩ := q116
  show Go _ _ _ _ _ _ _ _ _ _ _ _ h114 [dst] 0 0 105 _ []
  refine go_iload d20_105 rfl rfl ?_
  refine go_iload d20_107 rfl rfl ?_
  refine go_isub d20_109 rfl (go_eq (y := 6) (by decide) ?_)
  refine go_iconst 3 d20_110 rfl ?_
  refine go_idiv d20_111 rfl (by decide) (go_eq (y := 2) (by decide) ?_)
  refine go_iconst 4 d20_112 rfl ?_
  refine go_imul d20_113 rfl (go_eq (y := 8) (by decide) ?_)
  refine go_istore d20_114 rfl #[vr ec, vr src, vi 0, vi 6, vr dst, vr tb, vi 0, vi 6, vi 6, vi 0, vi 6, vi 8, .unset, .unset, .unset, .unset] rfl ?_
  refine go_iload d20_116 rfl rfl ?_
  refine go_iload d20_118 rfl rfl ?_
  refine go_iadd d20_120 rfl (go_eq (y := 8) (by decide) ?_)
  refine go_istore d20_121 rfl #[vr ec, vr src, vi 0, vi 6, vr dst, vr tb, vi 0, vi 6, vi 6, vi 8, vi 6, vi 8, .unset, .unset, .unset, .unset] rfl ?_
  refine go_iload d20_123 rfl rfl ?_
  refine go_istore d20_125 rfl #[vr ec, vr src, vi 0, vi 6, vr dst, vr tb, vi 6, vi 6, vi 6, vi 8, vi 6, vi 8, .unset, .unset, .unset, .unset] rfl ?_
  refine go_iload d20_127 rfl rfl ?_
  refine go_aloadN d20_129 rfl rfl rfl ?_
  have F119 := (E3h.keep K117 (ninS (old_ne hOld EX.lt hge) nin0))
  refine go_getfield d20_130 rfl (wd hB 124 rfl) Via.refl F119 ?_
  refine go_icmp_ne_t (pt := 186) d20_133 (by decide) ?_
  refine go_goto (pt := 69) d20_186 ?_
  refine go_iload d20_69 rfl rfl ?_
  refine go_iload d20_71 rfl rfl ?_
  refine go_icmp_ge_t (pt := 189) d20_73 (by decide) ?_
  refine go_iload d20_189 rfl rfl ?_
  refine go_iloadN d20_191 rfl rfl ?_
  refine go_icmp_ge_t (pt := 352) d20_192 (by decide) ?_
  refine go_iload d20_352 rfl rfl ?_
  refine go_retI d20_354 [] rfl (by decide) (by decide) (fun _ q => nomatch q) ?_
  exact ⟨rfl, rfl, ((Keep.refl h [dst]).trans K117 (allS (Or.inl (List.Mem.head _)) all0)), B118⟩
set_option maxRecDepth 65536 in
set_option maxHeartbeats 4000000 in
theorem c_ea_6 (hB : Base Z a0) (b0 b1 b2 b3 b4 b5 : Nat) (hb0 : b0 < 256) (hb1 : b1 < 256) (hb2 : b2 < 256) (hb3 : b3 < 256) (hb4 : b4 < 256) (hb5 : b5 < 256) {ec : Addr} (E0 : IsEnc Z ec) {src : Addr} {ks : ClassId} {h : Heap} (A : Arv Z h src ks .byte 6 [(lv (Int32.ofNat b0)), (lv (Int32.ofNat b1)), (lv (Int32.ofNat b2)), (lv (Int32.ofNat b3)), (lv (Int32.ofNat b4)), (lv (Int32.ofNat b5))] (.int 0)) :
    Con l Z ELc n0 (⟨"java/util/Base64$Encoder", "encode", "([B)[B"⟩ : MethodName) kb17 5 (Option.some (FieldType.array FieldType.byte)) [] (⟨2, 1, 8, 49⟩ : Room) #[.ref ec, .ref src] h [] (fun v h' sf' => ∃ r kr, v = some (.ref r) ∧ sf' = [] ∧ Ext h h' ∧ h.size ≤ r ∧ Exa Z h' r "[B" ∧ Arv Z h' r kr .byte 8 [(lv (T (X0 b0))), (lv (T (X1 b0 b1))), (lv (T (X2 b1 b2))), (lv (T (X3 b2))), (lv (T (X0 b3))), (lv (T (X1 b3 b4))), (lv (T (X2 b4 b5))), (lv (T (X3 b5)))] (.int 0)) := by
  refine con_ofA hB (ls := #[.val (.ref ec), .val (.ref src), .unset, .unset, .unset]) (fun m => by simp [entryFrame, mkF, argsToLocals, Value.category]) ?_
  show Go _ _ _ _ _ _ "java/util/Base64$Encoder" kb17 5 _ "encode" _ h [] 0 0 0 #[vr ec, vr src, .unset, .unset, .unset] []
  refine Go.old (fun hOld => ?_)
  obtain ⟨EX, E1, E3, E4⟩ := id E0
  have EXh := Exa.ext hOld.2 EX
  have E1h := Fld.ext hOld.2 E1
  have E3h := Fld.ext hOld.2 E3
  have E4h := Fld.ext hOld.2 E4
  refine go_aloadN d17_0 rfl rfl rfl ?_
  refine go_aloadN d17_1 rfl rfl rfl ?_
  refine go_alen d17_2 rfl A ?_
  refine go_iconst 1 d17_3 rfl ?_
  refine go_virtualH ec [(.int 6), (.int 1)] [] 0 d17_4 rfl EXh (wd hB 110 rfl) (declares_ofH (wd hB 111 rfl) (wd hB 114 rfl)) (nf_of (wd hB 113 rfl)) (wd hB 113 rfl) (wd hB 111 rfl) (wd hB 99 rfl) (wd hB 114 rfl) (c_eol_6 hB E0) (fun _ q => nomatch q) (lenOf pd_19 rfl) rfl rfl rfl (fun v101 h102 s103 q104 => ?_)
  obtain ⟨rfl, rfl, rfl⟩ := q104
  show Go _ _ _ _ _ _ _ _ _ _ _ _ h [] 0 0 7 _ [(.int 8)]
  refine go_istoreN d17_7 rfl #[vr ec, vr src, vi 8, .unset, .unset] rfl ?_
  refine go_iloadN d17_8 rfl rfl ?_
  refine go_newarr (ty := .byte) (ad := "[B") 8 d17_9 rfl rfl (wd hB 18 rfl) (by decide) (by decide) (by decide) (by decide) (by decide) (by decide) ?_
  intro h110 x105 hx106 E107 ⟨A108, k109, B111⟩
  have B112 : Arv Z h110 x105 k109 .byte 8 [(.int 0), (.int 0), (.int 0), (.int 0), (.int 0), (.int 0), (.int 0), (.int 0)] (.int 0) := B111.pad (pad_rep [] (.int 0) 8)
  refine go_astoreN d17_11 rfl #[vr ec, vr src, vi 8, vr x105, .unset] rfl rfl ?_
  refine go_aloadN d17_12 rfl rfl rfl ?_
  refine go_aloadN d17_13 rfl rfl rfl ?_
  refine go_iconst 0 d17_14 rfl ?_
  refine go_aloadN d17_15 rfl rfl rfl ?_
  have F113 := (A.ext E107)
  refine go_alen d17_16 rfl F113 ?_
  refine go_aloadN d17_17 rfl rfl rfl ?_
  have F118 := (Exa.ext E107 EXh)
  refine go_virtual ec [(.ref src), (.int 0), (.int 6), (.ref x105)] [] 0 d17_18 rfl F118 (wd hB 126 rfl) (declares_of (wd hB 127 rfl) (wd hB 130 rfl)) (nf_of (wd hB 129 rfl)) (wd hB 129 rfl) (wd hB 127 rfl) (wd hB 99 rfl) (wd hB 130 rfl) (c_e0_6 hB b0 b1 b2 b3 b4 b5 hb0 hb1 hb2 hb3 hb4 hb5 E0 (Nat.ne_of_lt (Nat.lt_of_lt_of_le A.lt (Nat.le_of_eq hx106.symm))) F113 B112) (allS (List.Mem.head _) (fun _ q => nomatch q)) (lenOf pd_10 rfl) rfl rfl rfl (fun v114 h115 s116 q117 => ?_)
  obtain ⟨rfl, rfl, K119, B120⟩ := q117
  show Go _ _ _ _ _ _ _ _ _ _ _ _ h115 [x105] 1 8 21 _ [(.int 8)]
  refine go_istore d17_21 rfl #[vr ec, vr src, vi 8, vr x105, vi 8] rfl ?_
  refine go_iload d17_23 rfl rfl ?_
  refine go_aloadN d17_25 rfl rfl rfl ?_
  refine go_alen d17_26 rfl B120 ?_
  refine go_icmp_eq_t (pt := 37) d17_27 (by decide) ?_
  refine go_aloadN d17_37 rfl rfl rfl ?_
  have F121 := (A108.keep K119)
  refine go_retA d17_38 [] rfl rfl rfl rfl (by decide) (by decide) (fun _ q => nomatch q) ?_
  exact ⟨_, _, rfl, rfl, (ext_of_keep (((Keep.refl h []).ext E107).trans K119 (allS (Or.inr (Nat.le_of_eq hx106.symm)) all0))), (Nat.le_of_eq hx106.symm), F121, B120⟩
set_option maxRecDepth 65536 in
set_option maxHeartbeats 4000000 in
theorem c_es_6 (hB : Base Z a0) (b0 b1 b2 b3 b4 b5 : Nat) (hb0 : b0 < 256) (hb1 : b1 < 256) (hb2 : b2 < 256) (hb3 : b3 < 256) (hb4 : b4 < 256) (hb5 : b5 < 256) {ec : Addr} (E0 : IsEnc Z ec) {src : Addr} {ks : ClassId} {h : Heap} (A : Arv Z h src ks .byte 6 [(lv (Int32.ofNat b0)), (lv (Int32.ofNat b1)), (lv (Int32.ofNat b2)), (lv (Int32.ofNat b3)), (lv (Int32.ofNat b4)), (lv (Int32.ofNat b5))] (.int 0)) :
    Con l Z ELc n0 (⟨"java/util/Base64$Encoder", "encodeToString", "([B)Ljava/lang/String;"⟩ : MethodName) kb16 3 (Option.some (FieldType.object "java/lang/String")) [] (⟨3, 3, 20, 65⟩ : Room) #[.ref ec, .ref src] h [] (fun v h' sf' => ∃ s d kd, v = some (.ref s) ∧ sf' = [] ∧ Ext h h' ∧ h.size ≤ s ∧ Exa Z h' s "java/lang/String" ∧ Fld Z h' s "java/lang/String" "coder" "B" (.int 0) ∧ Fld Z h' s "java/lang/String" "value" "[B" (.ref d) ∧ Arv Z h' d kd .byte 8 [(lv (T (X0 b0))), (lv (T (X1 b0 b1))), (lv (T (X2 b1 b2))), (lv (T (X3 b2))), (lv (T (X0 b3))), (lv (T (X1 b3 b4))), (lv (T (X2 b4 b5))), (lv (T (X3 b5)))] (.int 0)) := by
  refine con_ofA hB (ls := #[.val (.ref ec), .val (.ref src), .unset]) (fun m => by simp [entryFrame, mkF, argsToLocals, Value.category]) ?_
  show Go _ _ _ _ _ _ "java/util/Base64$Encoder" kb16 3 _ "encodeToString" _ h [] 0 0 0 #[vr ec, vr src, .unset] []
  refine Go.old (fun hOld => ?_)
  obtain ⟨EX, E1, E3, E4⟩ := id E0
  have EXh := Exa.ext hOld.2 EX
  have E1h := Fld.ext hOld.2 E1
  have E3h := Fld.ext hOld.2 E3
  have E4h := Fld.ext hOld.2 E4
  refine go_aloadN d16_0 rfl rfl rfl ?_
  refine go_aloadN d16_1 rfl rfl rfl ?_
  refine go_virtual ec [(.ref src)] [] 0 d16_2 rfl EXh (wd hB 105 rfl) (wd hB 106 rfl) (nf_of (wd hB 108 rfl)) (wd hB 108 rfl) (wd hB 107 rfl) (wd hB 99 rfl) (wd hB 109 rfl) (c_ea_6 hB b0 b1 b2 b3 b4 b5 hb0 hb1 hb2 hb3 hb4 hb5 E0 A) (fun _ q => nomatch q) (lenOf pd_12 rfl) rfl rfl rfl (fun v101 h102 s103 q104 => ?_)
  obtain ⟨r105, k106, rfl, rfl, E107, g108, X109, A110⟩ := q104
  show Go _ _ _ _ _ _ _ _ _ _ _ _ h102 [] 1 8 5 _ [(.ref r105)]
  refine go_astoreN d16_5 rfl #[vr ec, vr src, vr r105] rfl rfl ?_
  refine go_new d16_6 rfl (wd hB 134 rfl) (wd hB 5 rfl) (wd hB 6 rfl) (by decide) (by decide) ?_
  intro h116 x111 hx112 E113 ⟨A114, D115⟩
  have F117 : Fld Z h116 x111 "java/lang/String" "value" "[B" .null := D115 (Or.inr (wd hB 19 rfl)) (ty := (.array .byte)) (by decide)
  have F118 : Fld Z h116 x111 "java/lang/String" "coder" "B" (.int 0) := D115 (Or.inr (wd hB 20 rfl)) (ty := .byte) (by decide)
  refine go_dup d16_9 rfl rfl ?_
  refine go_aloadN d16_10 rfl rfl rfl ?_
  refine go_iconst 0 d16_11 rfl ?_
  refine go_iconst 0 d16_12 rfl ?_
  refine go_aloadN d16_13 rfl rfl rfl ?_
  have F119 := (A110.ext E113)
  refine go_alen d16_14 rfl F119 ?_
  have F120 := (Exa.ext E113 X109)
  refine go_special x111 [(.ref r105), (.int 0), (.int 0), (.int 8)] [(.ref x111)] 1 d16_15 rfl rfl (wd hB 135 rfl) (wd hB 136 rfl) (wd hB 6 rfl) (wd hB 137 rfl) (c_s3_8 hB F119 F120 A114 F117 F118) (allS (List.Mem.head _) (fun _ q => nomatch q)) (lenOf pd_20 rfl) rfl rfl rfl (fun v121 h122 s123 q124 => ?_)
  obtain ⟨rfl, rfl, K125, E126, F127, d128, k129, G130, A131⟩ := q124
  show Go _ _ _ _ _ _ _ _ _ _ _ _ h122 [x111] 3 20 18 _ [(.ref x111)]
  refine go_retA d16_18 [] rfl rfl rfl rfl (by decide) (by decide) (fun _ q => nomatch q) ?_
  exact ⟨x111, d128, k129, rfl, rfl, (ext_of_keep ((((Keep.refl h []).ext E107).ext E113).trans K125 (allS (Or.inr (Nat.le_trans E107.1 (Nat.le_of_eq hx112.symm))) all0))), (Nat.le_trans E107.1 (Nat.le_of_eq hx112.symm)), E126, F127, G130, A131⟩
set_option maxRecDepth 65536 in
set_option maxHeartbeats 4000000 in
theorem c_be_6 (hB : Base Z a0) (b0 b1 b2 b3 b4 b5 : Nat) (hb0 : b0 < 256) (hb1 : b1 < 256) (hb2 : b2 < 256) (hb3 : b3 < 256) (hb4 : b4 < 256) (hb5 : b5 < 256) {ec : Addr} (E0 : IsEnc Z ec) (SE : Sta Z Z.heap "java/util/Base64$Encoder" "RFC4648" "Ljava/util/Base64$Encoder;" (.ref ec)) {src : Addr} {ks : ClassId} {h : Heap} (A : Arv Z h src ks .byte 6 [(lv (Int32.ofNat b0)), (lv (Int32.ofNat b1)), (lv (Int32.ofNat b2)), (lv (Int32.ofNat b3)), (lv (Int32.ofNat b4)), (lv (Int32.ofNat b5))] (.int 0)) :
    Con l Z ELc n0 (⟨"com/example/cardea/cardea/Base64Text", "encode", "([B)Ljava/lang/String;"⟩ : MethodName) kb14 1 (Option.some (FieldType.object "java/lang/String")) [] (⟨4, 3, 20, 79⟩ : Room) #[.ref src] h [] (fun v h' sf' => ∃ s d kd, v = some (.ref s) ∧ sf' = [] ∧ Ext h h' ∧ h.size ≤ s ∧ Exa Z h' s "java/lang/String" ∧ Fld Z h' s "java/lang/String" "coder" "B" (.int 0) ∧ Fld Z h' s "java/lang/String" "value" "[B" (.ref d) ∧ Arv Z h' d kd .byte 8 [(lv (T (X0 b0))), (lv (T (X1 b0 b1))), (lv (T (X2 b1 b2))), (lv (T (X3 b2))), (lv (T (X0 b3))), (lv (T (X1 b3 b4))), (lv (T (X2 b4 b5))), (lv (T (X3 b5)))] (.int 0)) := by
  refine con_ofA hB (ls := #[.val (.ref src)]) (fun m => by simp [entryFrame, mkF, argsToLocals, Value.category]) ?_
  show Go _ _ _ _ _ _ "com/example/cardea/cardea/Base64Text" kb14 1 _ "encode" _ h [] 0 0 0 #[vr src] []
  refine Go.old (fun hOld => ?_)
  obtain ⟨EX, E1, E3, E4⟩ := id E0
  have EXh := Exa.ext hOld.2 EX
  have E1h := Fld.ext hOld.2 E1
  have E3h := Fld.ext hOld.2 E3
  have E4h := Fld.ext hOld.2 E4
  refine go_static [] [] 0 d14_0 rfl (wd hB 95 rfl) (wd hB 96 rfl) (wd hB 31 rfl) (wd hB 97 rfl) (c_ge hB SE) (fun _ q => nomatch q) (lenOf pd_21 rfl) rfl rfl rfl (fun v101 h102 s103 q104 => ?_)
  obtain ⟨rfl, rfl, rfl⟩ := q104
  show Go _ _ _ _ _ _ _ _ _ _ _ _ h [] 0 0 3 _ [(.ref ec)]
  refine go_aloadN d14_3 rfl rfl rfl ?_
  refine go_virtual ec [(.ref src)] [] 0 d14_4 rfl EXh (wd hB 100 rfl) (wd hB 101 rfl) (nf_of (wd hB 103 rfl)) (wd hB 103 rfl) (wd hB 102 rfl) (wd hB 99 rfl) (wd hB 104 rfl) (c_es_6 hB b0 b1 b2 b3 b4 b5 hb0 hb1 hb2 hb3 hb4 hb5 E0 A) (fun _ q => nomatch q) (lenOf pd_22 rfl) rfl rfl rfl (fun v105 h106 s107 q108 => ?_)
  obtain ⟨s109, d110, k111, rfl, rfl, E112, g113, F114, F115, F116, F117⟩ := q108
  show Go _ _ _ _ _ _ _ _ _ _ _ _ h106 [] 3 20 7 _ [(.ref s109)]
  refine go_retA d14_7 [] rfl rfl rfl rfl (by decide) (by decide) (fun _ q => nomatch q) ?_
  exact ⟨s109, d110, _, rfl, rfl, (ext_of_keep ((Keep.refl h []).ext E112)), g113, F114, F115, F116, F117⟩
set_option maxRecDepth 65536 in
set_option maxHeartbeats 4000000 in
theorem c_bd_6 (hB : Base Z a0) (b0 b1 b2 b3 b4 b5 : Nat) (hb0 : b0 < 256) (hb1 : b1 < 256) (hb2 : b2 < 256) (hb3 : b3 < 256) (hb4 : b4 < 256) (hb5 : b5 < 256) {s d : Addr} {k : ClassId} {h : Heap} (E : Exa Z h s "java/lang/String") (C : Fld Z h s "java/lang/String" "coder" "B" (.int 0)) (V : Fld Z h s "java/lang/String" "value" "[B" (.ref d)) (A : Arv Z h d k .byte 8 [(lv (T (X0 b0))), (lv (T (X1 b0 b1))), (lv (T (X2 b1 b2))), (lv (T (X3 b2))), (lv (T (X0 b3))), (lv (T (X1 b3 b4))), (lv (T (X2 b4 b5))), (lv (T (X3 b5)))] (.int 0)) (X : Exa Z h d "[B") :
    ConH l Z ELc n0 (⟨"com/example/cardea/cardea/Base64Text", "decode", "(Ljava/lang/String;)[B"⟩ : MethodName) kbx1 3 (Option.some (FieldType.array FieldType.byte)) [(0, 8, 11, 29)] (⟨6, 5, 34, 91⟩ : Room) #[.ref s] h [] (fun v h' sf' => ∃ r kr, v = some (.ref r) ∧ sf' = [] ∧ Ext h h' ∧ Arv Z h' r kr .byte 6 [(lv (Int32.ofNat b0)), (lv (Int32.ofNat b1)), (lv (Int32.ofNat b2)), (lv (Int32.ofNat b3)), (lv (Int32.ofNat b4)), (lv (Int32.ofNat b5))] (.int 0)) := by
  refine con_ofAH hB (ls := #[.val (.ref s), .unset, .unset]) (fun m => by simp [entryFrame, mkF, argsToLocals, Value.category]) ?_
  show Go _ _ _ _ _ _ "com/example/cardea/cardea/Base64Text" kbx1 3 _ "decode" _ h [] 0 0 0 #[vr s, .unset, .unset] []
  obtain ⟨dc, SD, D0⟩ := hB.2.2.2.2.1
  obtain ⟨is, SI, IX⟩ := hB.2.2.2.2.2.1
  obtain ⟨ut, SU, UX⟩ := hB.2.2.2.2.2.2.1
  obtain ⟨ec, SE, E0⟩ := hB.2.2.2.2.2.2.2.2.1
  refine Go.old (fun hOld => ?_)
  obtain ⟨DX, D1, D2⟩ := id D0
  have DXh := Exa.ext hOld.2 DX
  have D1h := Fld.ext hOld.2 D1
  have D2h := Fld.ext hOld.2 D2
  obtain ⟨EX, E1, E3, E4⟩ := id E0
  have EXh := Exa.ext hOld.2 EX
  have E1h := Fld.ext hOld.2 E1
  have E3h := Fld.ext hOld.2 E3
  have E4h := Fld.ext hOld.2 E4
  refine go_static [] [] 0 dx1_0 rfl (wd hB 29 rfl) (wd hB 30 rfl) (wd hB 31 rfl) (wd hB 32 rfl) (c_gd hB SD) (fun _ q => nomatch q) (lenOf pd_23 rfl) rfl rfl rfl (fun v101 h102 s103 q104 => ?_)
  obtain ⟨rfl, rfl, rfl⟩ := q104
  show Go _ _ _ _ _ _ _ _ _ _ _ _ h [] 0 0 3 _ [(.ref dc)]
  refine go_aloadN dx1_3 rfl rfl rfl ?_
  refine go_virtual dc [(.ref s)] [] 0 dx1_4 rfl DXh (wd hB 35 rfl) (wd hB 36 rfl) (nf_of (wd hB 38 rfl)) (wd hB 38 rfl) (wd hB 37 rfl) (wd hB 34 rfl) (wd hB 39 rfl) (c_ds_6 hB b0 b1 b2 b3 b4 b5 hb0 hb1 hb2 hb3 hb4 hb5 D0 SI SU IX UX E C V A X) (fun _ q => nomatch q) (lenOf pd_24 rfl) rfl rfl rfl (fun v105 h106 s107 q108 => ?_)
  obtain ⟨r109, k110, rfl, rfl, E111, g112, A113⟩ := q108
  show Go _ _ _ _ _ _ _ _ _ _ _ _ h106 [] 2 14 7 _ [(.ref r109)]
  refine go_astoreN dx1_7 rfl #[vr s, vr r109, .unset] rfl rfl ?_
  refine go_goto (pt := 22) dx1_8 ?_
  refine go_aloadN dx1_22 rfl rfl rfl ?_
  refine go_static [(.ref r109)] [] 0 dx1_23 rfl (wd hB 92 rfl) (wd hB 93 rfl) (wd hB 27 rfl) (wd hB 94 rfl) (c_be_6 hB b0 b1 b2 b3 b4 b5 hb0 hb1 hb2 hb3 hb4 hb5 E0 SE A113) (fun _ q => nomatch q) (lenOf pd_22 rfl) rfl rfl rfl (fun v114 h115 s116 q117 => ?_)
  obtain ⟨s118, d119, k120, rfl, rfl, E121, g122, F123, F124, F125, F126⟩ := q117
  show Go _ _ _ _ _ _ _ _ _ _ _ _ h115 [] 5 34 26 _ [(.ref s118)]
  refine go_aloadN dx1_26 rfl rfl rfl ?_
  have F127 := (Exa.ext E121 (Exa.ext E111 E))
  have F128 := (Fld.ext E121 (Fld.ext E111 C))
  have F129 := (Fld.ext E121 (Fld.ext E111 V))
  have F130 := ((A.ext E111).ext E121)
  refine go_virtual s118 [(.ref s)] [] 0 dx1_27 rfl F123 (wd hB 146 rfl) (wd hB 147 rfl) (nf_of (wd hB 149 rfl)) (wd hB 149 rfl) (wd hB 148 rfl) (wd hB 6 rfl) (wd hB 150 rfl) (c_seq_8 hB (Ne.symm (Nat.ne_of_lt (Nat.lt_of_lt_of_le (Nat.lt_of_lt_of_le E.lt E111.1) g122))) F123 F124 F125 F126 F127 F128 F129 F130) (fun _ q => nomatch q) (lenOf pd_25 rfl) rfl rfl rfl (fun v131 h132 s133 q134 => ?_)
  obtain ⟨rfl, rfl, rfl⟩ := q134
  show Go _ _ _ _ _ _ _ _ _ _ _ _ h115 [] 5 34 30 _ [(.int 1)]
  refine go_if_ne_t (pt := 43) dx1_30 (by decide) ?_
  refine go_aloadN dx1_43 rfl rfl rfl ?_
  have F135 := (A113.ext E121)
  refine go_retA dx1_44 [] rfl rfl rfl rfl (by decide) (by decide) (fun _ q => nomatch q) ?_
  exact ⟨_, _, rfl, rfl, (ext_of_keep (((Keep.refl h []).ext E111).ext E121)), F135⟩
theorem in7 {k : Int32} (hk : 0 ≤ k.toInt ∧ k.toInt < 7) : k = 0 ∨ k = 1 ∨ k = 2 ∨ k = 3 ∨ k = 4 ∨ k = 5 ∨ k = 6 := by
  have e : ∀ {m : Int32}, k.toInt = m.toInt → k = m := fun q => Int32.toInt_inj.mp q
  have h : k.toInt = 0 ∨ k.toInt = 1 ∨ k.toInt = 2 ∨ k.toInt = 3 ∨ k.toInt = 4 ∨ k.toInt = 5 ∨ k.toInt = 6 := by omega
  rcases h with h | h | h | h | h | h | h
  · exact Or.inl (e h)
  · exact Or.inr (Or.inl (e h))
  · exact Or.inr (Or.inr (Or.inl (e h)))
  · exact Or.inr (Or.inr (Or.inr (Or.inl (e h))))
  · exact Or.inr (Or.inr (Or.inr (Or.inr (Or.inl (e h)))))
  · exact Or.inr (Or.inr (Or.inr (Or.inr (Or.inr (Or.inl (e h))))))
  · exact Or.inr (Or.inr (Or.inr (Or.inr (Or.inr (Or.inr (e h))))))
set_option maxRecDepth 65536 in
set_option maxHeartbeats 4000000 in
theorem c_law (hB : Base Z a0) (ws : List Jvm.Cond) (p0 : Int32) (p1 : Int64) {h : Heap} :
    Con l Z ELc n0 x code maxLocals ret ws room_1 #[.int p0, .long p1] h [] (fun v h' sf' => v = some (.int 1)) := by
  refine con_of (a0 := a0) (ls := #[.val (.int p0), .val (.long p1), .second, .unset, .unset, .unset, .unset]) (plainFor_of_name (by decide +kernel)) hB.2.1 (fun m => by first | (simp [entryFrame, mkF, argsToLocals, Value.category]; done) | (simp [entryFrame, mkF, argsToLocals, Value.category, maxLocals]; done) | rfl) ?_
  show Go l Z a0 ELc n0 room_1 "com/example/cardea/cardea/Base64TextDecodePinLaw" code maxLocals ret "law" (fun v h' sf' => v = some (.int 1)) h [] 0 0 0 #[vi p0, .val (.long p1), .second, .unset, .unset, .unset, .unset] []
  refine go_iloadN at_0 rfl rfl ?_
  refine go_ldcI at_1 rfl (wd hB 0 rfl) ?_
  refine go_iand at_3 rfl ?_
  refine go_bipush 7 at_4 rfl ?_
  refine go_irem at_6 rfl (by decide) ?_
  obtain ⟨n, en⟩ : ∃ z : Int32, z = (p0 &&& 2147483647) % 7 := ⟨_, rfl⟩
  rw [← en]
  have hn7 : 0 ≤ n.toInt ∧ n.toInt < 7 := by rw [en]; exact rem_rng (and_rng _ (by decide)).1 (by decide)
  refine go_istoreN at_7 rfl #[vi p0, .val (.long p1), .second, vi n, .unset, .unset, .unset] rfl ?_
  refine go_bipush 6 at_8 rfl ?_
  refine go_newarr (ty := .int) (ad := "[I") 6 at_10 rfl rfl (wd hB 1 rfl) (by decide) (by decide) (by decide) (by decide) (by decide) (by decide) ?_
  intro h106 x101 hx102 E103 ⟨A104, k105, B107⟩
  have B108 : Arv Z h106 x101 k105 .int 6 [(.int 0), (.int 0), (.int 0), (.int 0), (.int 0), (.int 0)] (.int 0) := B107.pad (pad_rep [] (.int 0) 6)
  refine go_astore at_12 rfl #[vi p0, .val (.long p1), .second, vi n, vr x101, .unset, .unset] rfl rfl ?_
  refine go_aload at_14 rfl rfl rfl ?_
  refine go_iconst 0 at_16 rfl ?_
  refine go_lloadN at_17 rfl rfl ?_
  refine go_ldc2J at_18 rfl (wd hB 2 rfl) ?_
  refine go_land at_21 rfl ?_
  refine go_l2i at_22 rfl ?_
  obtain ⟨b0, hb0, eb0⟩ := l_byte p1
  refine go_eq (y := Int32.ofNat b0) eb0 ?_
  refine go_iastore 0 at_23 rfl B108 ⟨by decide, by decide⟩ (by decide) (by show 0 < 6; decide) (List.Mem.head _) ?_
  intro h109 W110 B111
  have B112 : Arv Z h109 x101 k105 .int 6 [(.int (Int32.ofNat b0)), (.int 0), (.int 0), (.int 0), (.int 0), (.int 0)] (.int 0) := B111
  refine go_aload at_24 rfl rfl rfl ?_
  refine go_iconst 1 at_26 rfl ?_
  refine go_lloadN at_27 rfl rfl ?_
  refine go_bipush 8 at_28 rfl ?_
  refine go_lushr at_30 rfl ?_
  refine go_ldc2J at_31 rfl (wd hB 2 rfl) ?_
  refine go_land at_34 rfl ?_
  refine go_l2i at_35 rfl ?_
  obtain ⟨b1, hb1, eb1⟩ := l_byte (XT.ushrL p1 8)
  refine go_eq (y := Int32.ofNat b1) eb1 ?_
  refine go_iastore 1 at_36 rfl B112 ⟨by decide, by decide⟩ (by decide) (by show 1 < 6; decide) (List.Mem.head _) ?_
  intro h113 W114 B115
  have B116 : Arv Z h113 x101 k105 .int 6 [(.int (Int32.ofNat b0)), (.int (Int32.ofNat b1)), (.int 0), (.int 0), (.int 0), (.int 0)] (.int 0) := B115
  refine go_aload at_37 rfl rfl rfl ?_
  refine go_iconst 2 at_39 rfl ?_
  refine go_lloadN at_40 rfl rfl ?_
  refine go_bipush 16 at_41 rfl ?_
  refine go_lushr at_43 rfl ?_
  refine go_ldc2J at_44 rfl (wd hB 2 rfl) ?_
  refine go_land at_47 rfl ?_
  refine go_l2i at_48 rfl ?_
  obtain ⟨b2, hb2, eb2⟩ := l_byte (XT.ushrL p1 16)
  refine go_eq (y := Int32.ofNat b2) eb2 ?_
  refine go_iastore 2 at_49 rfl B116 ⟨by decide, by decide⟩ (by decide) (by show 2 < 6; decide) (List.Mem.head _) ?_
  intro h117 W118 B119
  have B120 : Arv Z h117 x101 k105 .int 6 [(.int (Int32.ofNat b0)), (.int (Int32.ofNat b1)), (.int (Int32.ofNat b2)), (.int 0), (.int 0), (.int 0)] (.int 0) := B119
  refine go_aload at_50 rfl rfl rfl ?_
  refine go_iconst 3 at_52 rfl ?_
  refine go_lloadN at_53 rfl rfl ?_
  refine go_bipush 24 at_54 rfl ?_
  refine go_lushr at_56 rfl ?_
  refine go_ldc2J at_57 rfl (wd hB 2 rfl) ?_
  refine go_land at_60 rfl ?_
  refine go_l2i at_61 rfl ?_
  obtain ⟨b3, hb3, eb3⟩ := l_byte (XT.ushrL p1 24)
  refine go_eq (y := Int32.ofNat b3) eb3 ?_
  refine go_iastore 3 at_62 rfl B120 ⟨by decide, by decide⟩ (by decide) (by show 3 < 6; decide) (List.Mem.head _) ?_
  intro h121 W122 B123
  have B124 : Arv Z h121 x101 k105 .int 6 [(.int (Int32.ofNat b0)), (.int (Int32.ofNat b1)), (.int (Int32.ofNat b2)), (.int (Int32.ofNat b3)), (.int 0), (.int 0)] (.int 0) := B123
  refine go_aload at_63 rfl rfl rfl ?_
  refine go_iconst 4 at_65 rfl ?_
  refine go_lloadN at_66 rfl rfl ?_
  refine go_bipush 32 at_67 rfl ?_
  refine go_lushr at_69 rfl ?_
  refine go_ldc2J at_70 rfl (wd hB 2 rfl) ?_
  refine go_land at_73 rfl ?_
  refine go_l2i at_74 rfl ?_
  obtain ⟨b4, hb4, eb4⟩ := l_byte (XT.ushrL p1 32)
  refine go_eq (y := Int32.ofNat b4) eb4 ?_
  refine go_iastore 4 at_75 rfl B124 ⟨by decide, by decide⟩ (by decide) (by show 4 < 6; decide) (List.Mem.head _) ?_
  intro h125 W126 B127
  have B128 : Arv Z h125 x101 k105 .int 6 [(.int (Int32.ofNat b0)), (.int (Int32.ofNat b1)), (.int (Int32.ofNat b2)), (.int (Int32.ofNat b3)), (.int (Int32.ofNat b4)), (.int 0)] (.int 0) := B127
  refine go_aload at_76 rfl rfl rfl ?_
  refine go_iconst 5 at_78 rfl ?_
  refine go_lloadN at_79 rfl rfl ?_
  refine go_bipush 40 at_80 rfl ?_
  refine go_lushr at_82 rfl ?_
  refine go_ldc2J at_83 rfl (wd hB 2 rfl) ?_
  refine go_land at_86 rfl ?_
  refine go_l2i at_87 rfl ?_
  obtain ⟨b5, hb5, eb5⟩ := l_byte (XT.ushrL p1 40)
  refine go_eq (y := Int32.ofNat b5) eb5 ?_
  refine go_iastore 5 at_88 rfl B128 ⟨by decide, by decide⟩ (by decide) (by show 5 < 6; decide) (List.Mem.head _) ?_
  intro h129 W130 B131
  have B132 : Arv Z h129 x101 k105 .int 6 [(.int (Int32.ofNat b0)), (.int (Int32.ofNat b1)), (.int (Int32.ofNat b2)), (.int (Int32.ofNat b3)), (.int (Int32.ofNat b4)), (.int (Int32.ofNat b5))] (.int 0) := B131
  rcases in7 hn7 with e7 | e7 | e7 | e7 | e7 | e7 | e7
  · subst e7
    show Go _ _ _ _ _ _ _ _ _ _ _ _ h129 [x101] 1 6 89 #[vi p0, .val (.long p1), .second, vi 0, vr x101, .unset, .unset] []
    refine go_iloadN at_89 rfl rfl ?_
    refine go_if_ne_f at_90 rfl (by decide) ?_
    refine go_iconst 0 at_93 rfl ?_
    refine go_newarr (ty := .char) (ad := "[C") 0 at_94 rfl rfl (wd hB 3 rfl) (by decide) (by decide) (by decide) (by decide) (by decide) (by decide) ?_
    intro h138 x133 hx134 E135 ⟨A136, k137, B139⟩
    have B140 : Arv Z h138 x133 k137 .char 0 [] (.int 0) := B139.pad (pad_rep [] (.int 0) 0)
    refine go_astore at_96 rfl #[vi p0, .val (.long p1), .second, vi 0, vr x101, vr x133, .unset] rfl rfl ?_
    refine go_goto (pt := 152) at_98 ?_
    refine go_new at_152 rfl (wd hB 4 rfl) (wd hB 5 rfl) (wd hB 6 rfl) (by decide) (by decide) ?_
    intro h146 x141 hx142 E143 ⟨A144, D145⟩
    have F147 : Fld Z h146 x141 "java/lang/String" "value" "[B" .null := D145 (Or.inr (wd hB 19 rfl)) (ty := (.array .byte)) (by decide)
    have F148 : Fld Z h146 x141 "java/lang/String" "coder" "B" (.int 0) := D145 (Or.inr (wd hB 20 rfl)) (ty := .byte) (by decide)
    refine go_dup at_155 rfl rfl ?_
    refine go_aload at_156 rfl rfl rfl ?_
    refine Go.owned (fun hgeN0 => ?_)
    have hgeN := fun y q => (hgeN0 y q).2
    have F149 := (B140.ext E143)
    refine go_special x141 [(.ref x133)] [(.ref x141)] 1 at_158 rfl rfl (wd hB 7 rfl) (wd hB 8 rfl) (wd hB 6 rfl) (wd hB 9 rfl) (c_sinite hB F149 A144 F147 F148) (allS (List.Mem.head _) (fun _ q => nomatch q)) (lenOf pd_27 rfl) rfl rfl rfl (fun v150 h151 s152 q153 => ?_)
    obtain ⟨rfl, rfl, K154, E155, F156, d157, k158, G159, A160, X161⟩ := q153
    show Go _ _ _ _ _ _ _ _ _ _ _ _ h151 [x141, x133, x101] 7 18 161 _ [(.ref x141)]
    refine go_staticH [(.ref x141)] [] 0 at_161 rfl (wd hB 25 rfl) (wd hB 26 rfl) (wd hB 27 rfl) (wd hB 28 rfl) (c_bd_0 hB b0 b1 b2 b3 b4 b5 hb0 hb1 hb2 hb3 hb4 hb5 E155 F156 G159 A160 X161) (fun _ q => nomatch q) (lenOf pd_24 rfl) rfl rfl rfl (fun v162 h163 s164 q165 => ?_)
    obtain ⟨r166, k167, rfl, rfl, E168, A169⟩ := q165
    show Go _ _ _ _ _ _ _ _ _ _ _ _ h163 [x141, x133, x101] 15 38 164 _ [(.ref r166)]
    refine go_astore at_164 rfl #[vi p0, .val (.long p1), .second, vi 0, vr x101, vr x133, vr r166] rfl rfl ?_
    refine go_aload at_166 rfl rfl rfl ?_
    refine go_alen at_168 rfl A169 ?_
    refine go_iloadN at_169 rfl rfl ?_
    refine go_icmp_eq_t (pt := 175) at_170 (by decide) ?_
    refine go_aload at_175 rfl rfl rfl ?_
    refine go_aload at_177 rfl rfl rfl ?_
    refine go_iconst 0 at_179 rfl ?_
    refine go_iloadN at_180 rfl rfl ?_
    refine go_static [(.ref r166), (.ref x101), (.int 0), (.int 0)] [] 0 at_181 rfl (wd hB 156 rfl) (wd hB 157 rfl) (wd hB 158 rfl) (wd hB 159 rfl) (c_at1 hB 0 0 (by decide)) (fun _ q => nomatch q) (lenOf pd_28 rfl) rfl rfl rfl (fun v170 h171 s172 q173 => ?_)
    obtain ⟨rfl, rfl, rfl⟩ := q173
    show Go _ _ _ _ _ _ _ _ _ _ _ _ h163 [x141, x133, x101] 15 38 184 _ [(.int 1)]
    refine go_if_eq_f at_184 rfl (by decide) ?_
    refine go_aload at_187 rfl rfl rfl ?_
    refine go_aload at_189 rfl rfl rfl ?_
    refine go_iconst 1 at_191 rfl ?_
    refine go_iloadN at_192 rfl rfl ?_
    refine go_static [(.ref r166), (.ref x101), (.int 1), (.int 0)] [] 0 at_193 rfl (wd hB 156 rfl) (wd hB 157 rfl) (wd hB 158 rfl) (wd hB 159 rfl) (c_at1 hB 1 0 (by decide)) (fun _ q => nomatch q) (lenOf pd_28 rfl) rfl rfl rfl (fun v174 h175 s176 q177 => ?_)
    obtain ⟨rfl, rfl, rfl⟩ := q177
    show Go _ _ _ _ _ _ _ _ _ _ _ _ h163 [x141, x133, x101] 15 38 196 _ [(.int 1)]
    refine go_if_eq_f at_196 rfl (by decide) ?_
    refine go_aload at_199 rfl rfl rfl ?_
    refine go_aload at_201 rfl rfl rfl ?_
    refine go_iconst 2 at_203 rfl ?_
    refine go_iloadN at_204 rfl rfl ?_
    refine go_static [(.ref r166), (.ref x101), (.int 2), (.int 0)] [] 0 at_205 rfl (wd hB 156 rfl) (wd hB 157 rfl) (wd hB 158 rfl) (wd hB 159 rfl) (c_at1 hB 2 0 (by decide)) (fun _ q => nomatch q) (lenOf pd_28 rfl) rfl rfl rfl (fun v178 h179 s180 q181 => ?_)
    obtain ⟨rfl, rfl, rfl⟩ := q181
    show Go _ _ _ _ _ _ _ _ _ _ _ _ h163 [x141, x133, x101] 15 38 208 _ [(.int 1)]
    refine go_if_eq_f at_208 rfl (by decide) ?_
    refine go_aload at_211 rfl rfl rfl ?_
    refine go_aload at_213 rfl rfl rfl ?_
    refine go_iconst 3 at_215 rfl ?_
    refine go_iloadN at_216 rfl rfl ?_
    refine go_static [(.ref r166), (.ref x101), (.int 3), (.int 0)] [] 0 at_217 rfl (wd hB 156 rfl) (wd hB 157 rfl) (wd hB 158 rfl) (wd hB 159 rfl) (c_at1 hB 3 0 (by decide)) (fun _ q => nomatch q) (lenOf pd_28 rfl) rfl rfl rfl (fun v182 h183 s184 q185 => ?_)
    obtain ⟨rfl, rfl, rfl⟩ := q185
    show Go _ _ _ _ _ _ _ _ _ _ _ _ h163 [x141, x133, x101] 15 38 220 _ [(.int 1)]
    refine go_if_eq_f at_220 rfl (by decide) ?_
    refine go_aload at_223 rfl rfl rfl ?_
    refine go_aload at_225 rfl rfl rfl ?_
    refine go_iconst 4 at_227 rfl ?_
    refine go_iloadN at_228 rfl rfl ?_
    refine go_static [(.ref r166), (.ref x101), (.int 4), (.int 0)] [] 0 at_229 rfl (wd hB 156 rfl) (wd hB 157 rfl) (wd hB 158 rfl) (wd hB 159 rfl) (c_at1 hB 4 0 (by decide)) (fun _ q => nomatch q) (lenOf pd_28 rfl) rfl rfl rfl (fun v186 h187 s188 q189 => ?_)
    obtain ⟨rfl, rfl, rfl⟩ := q189
    show Go _ _ _ _ _ _ _ _ _ _ _ _ h163 [x141, x133, x101] 15 38 232 _ [(.int 1)]
    refine go_if_eq_f at_232 rfl (by decide) ?_
    refine go_aload at_235 rfl rfl rfl ?_
    refine go_aload at_237 rfl rfl rfl ?_
    refine go_iconst 5 at_239 rfl ?_
    refine go_iloadN at_240 rfl rfl ?_
    refine go_static [(.ref r166), (.ref x101), (.int 5), (.int 0)] [] 0 at_241 rfl (wd hB 156 rfl) (wd hB 157 rfl) (wd hB 158 rfl) (wd hB 159 rfl) (c_at1 hB 5 0 (by decide)) (fun _ q => nomatch q) (lenOf pd_28 rfl) rfl rfl rfl (fun v190 h191 s192 q193 => ?_)
    obtain ⟨rfl, rfl, rfl⟩ := q193
    show Go _ _ _ _ _ _ _ _ _ _ _ _ h163 [x141, x133, x101] 15 38 244 _ [(.int 1)]
    refine go_if_eq_f at_244 rfl (by decide) ?_
    refine go_iconst 1 at_247 rfl ?_
    refine go_goto (pt := 252) at_248 ?_
    refine go_retN (t := .boolean) at_252 [] rfl (by simp) (by decide) (by decide) (fun _ q => nomatch q) ?_
    decide
  · subst e7
    have lt194 : X0 b0 < 64 := (x0_lt hb0)
    have lt195 : X1 b0 0 < 64 := (x1_lt hb0 (by decide : 0 < 256))
    show Go _ _ _ _ _ _ _ _ _ _ _ _ h129 [x101] 1 6 89 #[vi p0, .val (.long p1), .second, vi 1, vr x101, .unset, .unset] []
    refine go_iloadN at_89 rfl rfl ?_
    refine go_if_ne_t (pt := 101) at_90 (by decide) ?_
    refine go_iloadN at_101 rfl rfl ?_
    refine go_iconst 3 at_102 rfl ?_
    refine go_icmp_gt_f at_103 rfl (by decide) ?_
    refine go_iconst 4 at_106 rfl ?_
    refine go_newarr (ty := .char) (ad := "[C") 4 at_107 rfl rfl (wd hB 3 rfl) (by decide) (by decide) (by decide) (by decide) (by decide) (by decide) ?_
    intro h201 x196 hx197 E198 ⟨A199, k200, B202⟩
    have B203 : Arv Z h201 x196 k200 .char 4 [(.int 0), (.int 0), (.int 0), (.int 0)] (.int 0) := B202.pad (pad_rep [] (.int 0) 4)
    refine go_astore at_109 rfl #[vi p0, .val (.long p1), .second, vi 1, vr x101, vr x196, .unset] rfl rfl ?_
    refine go_aload at_111 rfl rfl rfl ?_
    refine go_iconst 0 at_113 rfl ?_
    refine go_iloadN at_114 rfl rfl ?_
    refine go_aload at_115 rfl rfl rfl ?_
    refine go_iconst 0 at_117 rfl ?_
    have F204 := (B132.ext E198)
    refine go_static [(.ref x101), (.int 0), (.int 1), (.ref x196), (.int 0)] [] 0 at_118 rfl (wd hB 160 rfl) (wd hB 161 rfl) (wd hB 158 rfl) (wd hB 162 rfl) (c_quad_0_1_4 hB b0 b1 b2 b3 b4 b5 hb0 hb1 hb2 hb3 hb4 hb5 (Nat.ne_of_lt (Nat.lt_of_lt_of_le B132.lt (Nat.le_of_eq hx197.symm))) F204 B203) (allS (List.Mem.head _) (fun _ q => nomatch q)) (lenOf pd_29 rfl) rfl rfl rfl (fun v205 h206 s207 q208 => ?_)
    obtain ⟨rfl, rfl, K209, B210⟩ := q208
    show Go _ _ _ _ _ _ _ _ _ _ _ _ h206 [x196, x101] 2 10 121 _ []
    refine go_goto (pt := 152) at_121 ?_
    refine go_new at_152 rfl (wd hB 4 rfl) (wd hB 5 rfl) (wd hB 6 rfl) (by decide) (by decide) ?_
    intro h216 x211 hx212 E213 ⟨A214, D215⟩
    have F217 : Fld Z h216 x211 "java/lang/String" "value" "[B" .null := D215 (Or.inr (wd hB 19 rfl)) (ty := (.array .byte)) (by decide)
    have F218 : Fld Z h216 x211 "java/lang/String" "coder" "B" (.int 0) := D215 (Or.inr (wd hB 20 rfl)) (ty := .byte) (by decide)
    refine go_dup at_155 rfl rfl ?_
    refine go_aload at_156 rfl rfl rfl ?_
    refine Go.owned (fun hgeN0 => ?_)
    have hgeN := fun y q => (hgeN0 y q).2
    have F219 := (B210.ext E213)
    refine go_special x211 [(.ref x196)] [(.ref x211)] 1 at_158 rfl rfl (wd hB 7 rfl) (wd hB 8 rfl) (wd hB 6 rfl) (wd hB 9 rfl) (c_sinit hB [T (X0 b0), T (X1 b0 0), 61, 61] (by simp) (by simp) (List.forall_mem_cons.mpr ⟨(T_isC lt194).le, (List.forall_mem_cons.mpr ⟨(T_isC lt195).le, (List.forall_mem_cons.mpr ⟨(by decide), (List.forall_mem_cons.mpr ⟨(by decide), (fun _ q => nomatch q)⟩)⟩)⟩)⟩) F219 A214 F217 F218 (hgeN x211 (List.Mem.head _))) (allS (List.Mem.head _) (fun _ q => nomatch q)) (lenOf pd_27 rfl) rfl rfl rfl (fun v220 h221 s222 q223 => ?_)
    obtain ⟨rfl, rfl, K224, E225, F226, d227, k228, g229, G230, A231, X232⟩ := q223
    have A231l : Arv Z h221 d227 k228 .byte 4 [(lv (T (X0 b0))), (lv (T (X1 b0 0))), (lv (61 : Int32)), (lv (61 : Int32))] (.int 0) := A231
    show Go _ _ _ _ _ _ _ _ _ _ _ _ h221 [x211, x196, x101] 4 22 161 _ [(.ref x211)]
    refine go_staticH [(.ref x211)] [] 0 at_161 rfl (wd hB 25 rfl) (wd hB 26 rfl) (wd hB 27 rfl) (wd hB 28 rfl) (c_bd_1 hB b0 b1 b2 b3 b4 b5 hb0 hb1 hb2 hb3 hb4 hb5 E225 F226 G230 A231l X232) (fun _ q => nomatch q) (lenOf pd_24 rfl) rfl rfl rfl (fun v233 h234 s235 q236 => ?_)
    obtain ⟨r237, k238, rfl, rfl, E239, A240⟩ := q236
    show Go _ _ _ _ _ _ _ _ _ _ _ _ h234 [x211, x196, x101] 9 43 164 _ [(.ref r237)]
    refine go_astore at_164 rfl #[vi p0, .val (.long p1), .second, vi 1, vr x101, vr x196, vr r237] rfl rfl ?_
    refine go_aload at_166 rfl rfl rfl ?_
    refine go_alen at_168 rfl A240 ?_
    refine go_iloadN at_169 rfl rfl ?_
    refine go_icmp_eq_t (pt := 175) at_170 (by decide) ?_
    refine go_aload at_175 rfl rfl rfl ?_
    refine go_aload at_177 rfl rfl rfl ?_
    refine go_iconst 0 at_179 rfl ?_
    refine go_iloadN at_180 rfl rfl ?_
    have F241 := ((((F204.keep K209 (ninS (Nat.ne_of_lt (Nat.lt_of_lt_of_le B132.lt (Nat.le_of_eq hx197.symm))) nin0)).ext E213).keep K224 (ninS (Nat.ne_of_lt (Nat.lt_of_lt_of_le (Nat.lt_of_lt_of_le F204.lt K209.1) (Nat.le_of_eq hx212.symm))) nin0)).ext E239)
    refine go_static [(.ref r237), (.ref x101), (.int 0), (.int 1)] [] 0 at_181 rfl (wd hB 156 rfl) (wd hB 157 rfl) (wd hB 158 rfl) (wd hB 159 rfl) (c_at2 hB 0 (by decide) (Int32.ofNat b0) 1 (by decide) (B_isC hb0) A240 F241 rfl rfl) (fun _ q => nomatch q) (lenOf pd_28 rfl) rfl rfl rfl (fun v242 h243 s244 q245 => ?_)
    obtain ⟨rfl, rfl, rfl⟩ := q245
    show Go _ _ _ _ _ _ _ _ _ _ _ _ h234 [x211, x196, x101] 9 43 184 _ [(.int 1)]
    refine go_if_eq_f at_184 rfl (by decide) ?_
    refine go_aload at_187 rfl rfl rfl ?_
    refine go_aload at_189 rfl rfl rfl ?_
    refine go_iconst 1 at_191 rfl ?_
    refine go_iloadN at_192 rfl rfl ?_
    refine go_static [(.ref r237), (.ref x101), (.int 1), (.int 1)] [] 0 at_193 rfl (wd hB 156 rfl) (wd hB 157 rfl) (wd hB 158 rfl) (wd hB 159 rfl) (c_at1 hB 1 1 (by decide)) (fun _ q => nomatch q) (lenOf pd_28 rfl) rfl rfl rfl (fun v246 h247 s248 q249 => ?_)
    obtain ⟨rfl, rfl, rfl⟩ := q249
    show Go _ _ _ _ _ _ _ _ _ _ _ _ h234 [x211, x196, x101] 9 43 196 _ [(.int 1)]
    refine go_if_eq_f at_196 rfl (by decide) ?_
    refine go_aload at_199 rfl rfl rfl ?_
    refine go_aload at_201 rfl rfl rfl ?_
    refine go_iconst 2 at_203 rfl ?_
    refine go_iloadN at_204 rfl rfl ?_
    refine go_static [(.ref r237), (.ref x101), (.int 2), (.int 1)] [] 0 at_205 rfl (wd hB 156 rfl) (wd hB 157 rfl) (wd hB 158 rfl) (wd hB 159 rfl) (c_at1 hB 2 1 (by decide)) (fun _ q => nomatch q) (lenOf pd_28 rfl) rfl rfl rfl (fun v250 h251 s252 q253 => ?_)
    obtain ⟨rfl, rfl, rfl⟩ := q253
    show Go _ _ _ _ _ _ _ _ _ _ _ _ h234 [x211, x196, x101] 9 43 208 _ [(.int 1)]
    refine go_if_eq_f at_208 rfl (by decide) ?_
    refine go_aload at_211 rfl rfl rfl ?_
    refine go_aload at_213 rfl rfl rfl ?_
    refine go_iconst 3 at_215 rfl ?_
    refine go_iloadN at_216 rfl rfl ?_
    refine go_static [(.ref r237), (.ref x101), (.int 3), (.int 1)] [] 0 at_217 rfl (wd hB 156 rfl) (wd hB 157 rfl) (wd hB 158 rfl) (wd hB 159 rfl) (c_at1 hB 3 1 (by decide)) (fun _ q => nomatch q) (lenOf pd_28 rfl) rfl rfl rfl (fun v254 h255 s256 q257 => ?_)
    obtain ⟨rfl, rfl, rfl⟩ := q257
    show Go _ _ _ _ _ _ _ _ _ _ _ _ h234 [x211, x196, x101] 9 43 220 _ [(.int 1)]
    refine go_if_eq_f at_220 rfl (by decide) ?_
    refine go_aload at_223 rfl rfl rfl ?_
    refine go_aload at_225 rfl rfl rfl ?_
    refine go_iconst 4 at_227 rfl ?_
    refine go_iloadN at_228 rfl rfl ?_
    refine go_static [(.ref r237), (.ref x101), (.int 4), (.int 1)] [] 0 at_229 rfl (wd hB 156 rfl) (wd hB 157 rfl) (wd hB 158 rfl) (wd hB 159 rfl) (c_at1 hB 4 1 (by decide)) (fun _ q => nomatch q) (lenOf pd_28 rfl) rfl rfl rfl (fun v258 h259 s260 q261 => ?_)
    obtain ⟨rfl, rfl, rfl⟩ := q261
    show Go _ _ _ _ _ _ _ _ _ _ _ _ h234 [x211, x196, x101] 9 43 232 _ [(.int 1)]
    refine go_if_eq_f at_232 rfl (by decide) ?_
    refine go_aload at_235 rfl rfl rfl ?_
    refine go_aload at_237 rfl rfl rfl ?_
    refine go_iconst 5 at_239 rfl ?_
    refine go_iloadN at_240 rfl rfl ?_
    refine go_static [(.ref r237), (.ref x101), (.int 5), (.int 1)] [] 0 at_241 rfl (wd hB 156 rfl) (wd hB 157 rfl) (wd hB 158 rfl) (wd hB 159 rfl) (c_at1 hB 5 1 (by decide)) (fun _ q => nomatch q) (lenOf pd_28 rfl) rfl rfl rfl (fun v262 h263 s264 q265 => ?_)
    obtain ⟨rfl, rfl, rfl⟩ := q265
    show Go _ _ _ _ _ _ _ _ _ _ _ _ h234 [x211, x196, x101] 9 43 244 _ [(.int 1)]
    refine go_if_eq_f at_244 rfl (by decide) ?_
    refine go_iconst 1 at_247 rfl ?_
    refine go_goto (pt := 252) at_248 ?_
    refine go_retN (t := .boolean) at_252 [] rfl (by simp) (by decide) (by decide) (fun _ q => nomatch q) ?_
    decide
  · subst e7
    have lt266 : X0 b0 < 64 := (x0_lt hb0)
    have lt267 : X1 b0 b1 < 64 := (x1_lt hb0 hb1)
    have lt268 : X2 b1 0 < 64 := (x2_lt hb1 (by decide : 0 < 256))
    show Go _ _ _ _ _ _ _ _ _ _ _ _ h129 [x101] 1 6 89 #[vi p0, .val (.long p1), .second, vi 2, vr x101, .unset, .unset] []
    refine go_iloadN at_89 rfl rfl ?_
    refine go_if_ne_t (pt := 101) at_90 (by decide) ?_
    refine go_iloadN at_101 rfl rfl ?_
    refine go_iconst 3 at_102 rfl ?_
    refine go_icmp_gt_f at_103 rfl (by decide) ?_
    refine go_iconst 4 at_106 rfl ?_
    refine go_newarr (ty := .char) (ad := "[C") 4 at_107 rfl rfl (wd hB 3 rfl) (by decide) (by decide) (by decide) (by decide) (by decide) (by decide) ?_
    intro h274 x269 hx270 E271 ⟨A272, k273, B275⟩
    have B276 : Arv Z h274 x269 k273 .char 4 [(.int 0), (.int 0), (.int 0), (.int 0)] (.int 0) := B275.pad (pad_rep [] (.int 0) 4)
    refine go_astore at_109 rfl #[vi p0, .val (.long p1), .second, vi 2, vr x101, vr x269, .unset] rfl rfl ?_
    refine go_aload at_111 rfl rfl rfl ?_
    refine go_iconst 0 at_113 rfl ?_
    refine go_iloadN at_114 rfl rfl ?_
    refine go_aload at_115 rfl rfl rfl ?_
    refine go_iconst 0 at_117 rfl ?_
    have F277 := (B132.ext E271)
    refine go_static [(.ref x101), (.int 0), (.int 2), (.ref x269), (.int 0)] [] 0 at_118 rfl (wd hB 160 rfl) (wd hB 161 rfl) (wd hB 158 rfl) (wd hB 162 rfl) (c_quad_0_2_4 hB b0 b1 b2 b3 b4 b5 hb0 hb1 hb2 hb3 hb4 hb5 (Nat.ne_of_lt (Nat.lt_of_lt_of_le B132.lt (Nat.le_of_eq hx270.symm))) F277 B276) (allS (List.Mem.head _) (fun _ q => nomatch q)) (lenOf pd_29 rfl) rfl rfl rfl (fun v278 h279 s280 q281 => ?_)
    obtain ⟨rfl, rfl, K282, B283⟩ := q281
    show Go _ _ _ _ _ _ _ _ _ _ _ _ h279 [x269, x101] 2 10 121 _ []
    refine go_goto (pt := 152) at_121 ?_
    refine go_new at_152 rfl (wd hB 4 rfl) (wd hB 5 rfl) (wd hB 6 rfl) (by decide) (by decide) ?_
    intro h289 x284 hx285 E286 ⟨A287, D288⟩
    have F290 : Fld Z h289 x284 "java/lang/String" "value" "[B" .null := D288 (Or.inr (wd hB 19 rfl)) (ty := (.array .byte)) (by decide)
    have F291 : Fld Z h289 x284 "java/lang/String" "coder" "B" (.int 0) := D288 (Or.inr (wd hB 20 rfl)) (ty := .byte) (by decide)
    refine go_dup at_155 rfl rfl ?_
    refine go_aload at_156 rfl rfl rfl ?_
    refine Go.owned (fun hgeN0 => ?_)
    have hgeN := fun y q => (hgeN0 y q).2
    have F292 := (B283.ext E286)
    refine go_special x284 [(.ref x269)] [(.ref x284)] 1 at_158 rfl rfl (wd hB 7 rfl) (wd hB 8 rfl) (wd hB 6 rfl) (wd hB 9 rfl) (c_sinit hB [T (X0 b0), T (X1 b0 b1), T (X2 b1 0), 61] (by simp) (by simp) (List.forall_mem_cons.mpr ⟨(T_isC lt266).le, (List.forall_mem_cons.mpr ⟨(T_isC lt267).le, (List.forall_mem_cons.mpr ⟨(T_isC lt268).le, (List.forall_mem_cons.mpr ⟨(by decide), (fun _ q => nomatch q)⟩)⟩)⟩)⟩) F292 A287 F290 F291 (hgeN x284 (List.Mem.head _))) (allS (List.Mem.head _) (fun _ q => nomatch q)) (lenOf pd_27 rfl) rfl rfl rfl (fun v293 h294 s295 q296 => ?_)
    obtain ⟨rfl, rfl, K297, E298, F299, d300, k301, g302, G303, A304, X305⟩ := q296
    have A304l : Arv Z h294 d300 k301 .byte 4 [(lv (T (X0 b0))), (lv (T (X1 b0 b1))), (lv (T (X2 b1 0))), (lv (61 : Int32))] (.int 0) := A304
    show Go _ _ _ _ _ _ _ _ _ _ _ _ h294 [x284, x269, x101] 4 22 161 _ [(.ref x284)]
    refine go_staticH [(.ref x284)] [] 0 at_161 rfl (wd hB 25 rfl) (wd hB 26 rfl) (wd hB 27 rfl) (wd hB 28 rfl) (c_bd_2 hB b0 b1 b2 b3 b4 b5 hb0 hb1 hb2 hb3 hb4 hb5 E298 F299 G303 A304l X305) (fun _ q => nomatch q) (lenOf pd_24 rfl) rfl rfl rfl (fun v306 h307 s308 q309 => ?_)
    obtain ⟨r310, k311, rfl, rfl, E312, A313⟩ := q309
    show Go _ _ _ _ _ _ _ _ _ _ _ _ h307 [x284, x269, x101] 9 44 164 _ [(.ref r310)]
    refine go_astore at_164 rfl #[vi p0, .val (.long p1), .second, vi 2, vr x101, vr x269, vr r310] rfl rfl ?_
    refine go_aload at_166 rfl rfl rfl ?_
    refine go_alen at_168 rfl A313 ?_
    refine go_iloadN at_169 rfl rfl ?_
    refine go_icmp_eq_t (pt := 175) at_170 (by decide) ?_
    refine go_aload at_175 rfl rfl rfl ?_
    refine go_aload at_177 rfl rfl rfl ?_
    refine go_iconst 0 at_179 rfl ?_
    refine go_iloadN at_180 rfl rfl ?_
    have F314 := ((((F277.keep K282 (ninS (Nat.ne_of_lt (Nat.lt_of_lt_of_le B132.lt (Nat.le_of_eq hx270.symm))) nin0)).ext E286).keep K297 (ninS (Nat.ne_of_lt (Nat.lt_of_lt_of_le (Nat.lt_of_lt_of_le F277.lt K282.1) (Nat.le_of_eq hx285.symm))) nin0)).ext E312)
    refine go_static [(.ref r310), (.ref x101), (.int 0), (.int 2)] [] 0 at_181 rfl (wd hB 156 rfl) (wd hB 157 rfl) (wd hB 158 rfl) (wd hB 159 rfl) (c_at2 hB 0 (by decide) (Int32.ofNat b0) 2 (by decide) (B_isC hb0) A313 F314 rfl rfl) (fun _ q => nomatch q) (lenOf pd_28 rfl) rfl rfl rfl (fun v315 h316 s317 q318 => ?_)
    obtain ⟨rfl, rfl, rfl⟩ := q318
    show Go _ _ _ _ _ _ _ _ _ _ _ _ h307 [x284, x269, x101] 9 44 184 _ [(.int 1)]
    refine go_if_eq_f at_184 rfl (by decide) ?_
    refine go_aload at_187 rfl rfl rfl ?_
    refine go_aload at_189 rfl rfl rfl ?_
    refine go_iconst 1 at_191 rfl ?_
    refine go_iloadN at_192 rfl rfl ?_
    refine go_static [(.ref r310), (.ref x101), (.int 1), (.int 2)] [] 0 at_193 rfl (wd hB 156 rfl) (wd hB 157 rfl) (wd hB 158 rfl) (wd hB 159 rfl) (c_at2 hB 1 (by decide) (Int32.ofNat b1) 2 (by decide) (B_isC hb1) A313 F314 rfl rfl) (fun _ q => nomatch q) (lenOf pd_28 rfl) rfl rfl rfl (fun v319 h320 s321 q322 => ?_)
    obtain ⟨rfl, rfl, rfl⟩ := q322
    show Go _ _ _ _ _ _ _ _ _ _ _ _ h307 [x284, x269, x101] 9 44 196 _ [(.int 1)]
    refine go_if_eq_f at_196 rfl (by decide) ?_
    refine go_aload at_199 rfl rfl rfl ?_
    refine go_aload at_201 rfl rfl rfl ?_
    refine go_iconst 2 at_203 rfl ?_
    refine go_iloadN at_204 rfl rfl ?_
    refine go_static [(.ref r310), (.ref x101), (.int 2), (.int 2)] [] 0 at_205 rfl (wd hB 156 rfl) (wd hB 157 rfl) (wd hB 158 rfl) (wd hB 159 rfl) (c_at1 hB 2 2 (by decide)) (fun _ q => nomatch q) (lenOf pd_28 rfl) rfl rfl rfl (fun v323 h324 s325 q326 => ?_)
    obtain ⟨rfl, rfl, rfl⟩ := q326
    show Go _ _ _ _ _ _ _ _ _ _ _ _ h307 [x284, x269, x101] 9 44 208 _ [(.int 1)]
    refine go_if_eq_f at_208 rfl (by decide) ?_
    refine go_aload at_211 rfl rfl rfl ?_
    refine go_aload at_213 rfl rfl rfl ?_
    refine go_iconst 3 at_215 rfl ?_
    refine go_iloadN at_216 rfl rfl ?_
    refine go_static [(.ref r310), (.ref x101), (.int 3), (.int 2)] [] 0 at_217 rfl (wd hB 156 rfl) (wd hB 157 rfl) (wd hB 158 rfl) (wd hB 159 rfl) (c_at1 hB 3 2 (by decide)) (fun _ q => nomatch q) (lenOf pd_28 rfl) rfl rfl rfl (fun v327 h328 s329 q330 => ?_)
    obtain ⟨rfl, rfl, rfl⟩ := q330
    show Go _ _ _ _ _ _ _ _ _ _ _ _ h307 [x284, x269, x101] 9 44 220 _ [(.int 1)]
    refine go_if_eq_f at_220 rfl (by decide) ?_
    refine go_aload at_223 rfl rfl rfl ?_
    refine go_aload at_225 rfl rfl rfl ?_
    refine go_iconst 4 at_227 rfl ?_
    refine go_iloadN at_228 rfl rfl ?_
    refine go_static [(.ref r310), (.ref x101), (.int 4), (.int 2)] [] 0 at_229 rfl (wd hB 156 rfl) (wd hB 157 rfl) (wd hB 158 rfl) (wd hB 159 rfl) (c_at1 hB 4 2 (by decide)) (fun _ q => nomatch q) (lenOf pd_28 rfl) rfl rfl rfl (fun v331 h332 s333 q334 => ?_)
    obtain ⟨rfl, rfl, rfl⟩ := q334
    show Go _ _ _ _ _ _ _ _ _ _ _ _ h307 [x284, x269, x101] 9 44 232 _ [(.int 1)]
    refine go_if_eq_f at_232 rfl (by decide) ?_
    refine go_aload at_235 rfl rfl rfl ?_
    refine go_aload at_237 rfl rfl rfl ?_
    refine go_iconst 5 at_239 rfl ?_
    refine go_iloadN at_240 rfl rfl ?_
    refine go_static [(.ref r310), (.ref x101), (.int 5), (.int 2)] [] 0 at_241 rfl (wd hB 156 rfl) (wd hB 157 rfl) (wd hB 158 rfl) (wd hB 159 rfl) (c_at1 hB 5 2 (by decide)) (fun _ q => nomatch q) (lenOf pd_28 rfl) rfl rfl rfl (fun v335 h336 s337 q338 => ?_)
    obtain ⟨rfl, rfl, rfl⟩ := q338
    show Go _ _ _ _ _ _ _ _ _ _ _ _ h307 [x284, x269, x101] 9 44 244 _ [(.int 1)]
    refine go_if_eq_f at_244 rfl (by decide) ?_
    refine go_iconst 1 at_247 rfl ?_
    refine go_goto (pt := 252) at_248 ?_
    refine go_retN (t := .boolean) at_252 [] rfl (by simp) (by decide) (by decide) (fun _ q => nomatch q) ?_
    decide
  · subst e7
    have lt339 : X0 b0 < 64 := (x0_lt hb0)
    have lt340 : X1 b0 b1 < 64 := (x1_lt hb0 hb1)
    have lt341 : X2 b1 b2 < 64 := (x2_lt hb1 hb2)
    have lt342 : X3 b2 < 64 := (x3_lt hb2)
    show Go _ _ _ _ _ _ _ _ _ _ _ _ h129 [x101] 1 6 89 #[vi p0, .val (.long p1), .second, vi 3, vr x101, .unset, .unset] []
    refine go_iloadN at_89 rfl rfl ?_
    refine go_if_ne_t (pt := 101) at_90 (by decide) ?_
    refine go_iloadN at_101 rfl rfl ?_
    refine go_iconst 3 at_102 rfl ?_
    refine go_icmp_gt_f at_103 rfl (by decide) ?_
    refine go_iconst 4 at_106 rfl ?_
    refine go_newarr (ty := .char) (ad := "[C") 4 at_107 rfl rfl (wd hB 3 rfl) (by decide) (by decide) (by decide) (by decide) (by decide) (by decide) ?_
    intro h348 x343 hx344 E345 ⟨A346, k347, B349⟩
    have B350 : Arv Z h348 x343 k347 .char 4 [(.int 0), (.int 0), (.int 0), (.int 0)] (.int 0) := B349.pad (pad_rep [] (.int 0) 4)
    refine go_astore at_109 rfl #[vi p0, .val (.long p1), .second, vi 3, vr x101, vr x343, .unset] rfl rfl ?_
    refine go_aload at_111 rfl rfl rfl ?_
    refine go_iconst 0 at_113 rfl ?_
    refine go_iloadN at_114 rfl rfl ?_
    refine go_aload at_115 rfl rfl rfl ?_
    refine go_iconst 0 at_117 rfl ?_
    have F351 := (B132.ext E345)
    refine go_static [(.ref x101), (.int 0), (.int 3), (.ref x343), (.int 0)] [] 0 at_118 rfl (wd hB 160 rfl) (wd hB 161 rfl) (wd hB 158 rfl) (wd hB 162 rfl) (c_quad_0_3_4 hB b0 b1 b2 b3 b4 b5 hb0 hb1 hb2 hb3 hb4 hb5 (Nat.ne_of_lt (Nat.lt_of_lt_of_le B132.lt (Nat.le_of_eq hx344.symm))) F351 B350) (allS (List.Mem.head _) (fun _ q => nomatch q)) (lenOf pd_29 rfl) rfl rfl rfl (fun v352 h353 s354 q355 => ?_)
    obtain ⟨rfl, rfl, K356, B357⟩ := q355
    show Go _ _ _ _ _ _ _ _ _ _ _ _ h353 [x343, x101] 2 10 121 _ []
    refine go_goto (pt := 152) at_121 ?_
    refine go_new at_152 rfl (wd hB 4 rfl) (wd hB 5 rfl) (wd hB 6 rfl) (by decide) (by decide) ?_
    intro h363 x358 hx359 E360 ⟨A361, D362⟩
    have F364 : Fld Z h363 x358 "java/lang/String" "value" "[B" .null := D362 (Or.inr (wd hB 19 rfl)) (ty := (.array .byte)) (by decide)
    have F365 : Fld Z h363 x358 "java/lang/String" "coder" "B" (.int 0) := D362 (Or.inr (wd hB 20 rfl)) (ty := .byte) (by decide)
    refine go_dup at_155 rfl rfl ?_
    refine go_aload at_156 rfl rfl rfl ?_
    refine Go.owned (fun hgeN0 => ?_)
    have hgeN := fun y q => (hgeN0 y q).2
    have F366 := (B357.ext E360)
    refine go_special x358 [(.ref x343)] [(.ref x358)] 1 at_158 rfl rfl (wd hB 7 rfl) (wd hB 8 rfl) (wd hB 6 rfl) (wd hB 9 rfl) (c_sinit hB [T (X0 b0), T (X1 b0 b1), T (X2 b1 b2), T (X3 b2)] (by simp) (by simp) (List.forall_mem_cons.mpr ⟨(T_isC lt339).le, (List.forall_mem_cons.mpr ⟨(T_isC lt340).le, (List.forall_mem_cons.mpr ⟨(T_isC lt341).le, (List.forall_mem_cons.mpr ⟨(T_isC lt342).le, (fun _ q => nomatch q)⟩)⟩)⟩)⟩) F366 A361 F364 F365 (hgeN x358 (List.Mem.head _))) (allS (List.Mem.head _) (fun _ q => nomatch q)) (lenOf pd_27 rfl) rfl rfl rfl (fun v367 h368 s369 q370 => ?_)
    obtain ⟨rfl, rfl, K371, E372, F373, d374, k375, g376, G377, A378, X379⟩ := q370
    have A378l : Arv Z h368 d374 k375 .byte 4 [(lv (T (X0 b0))), (lv (T (X1 b0 b1))), (lv (T (X2 b1 b2))), (lv (T (X3 b2)))] (.int 0) := A378
    show Go _ _ _ _ _ _ _ _ _ _ _ _ h368 [x358, x343, x101] 4 22 161 _ [(.ref x358)]
    refine go_staticH [(.ref x358)] [] 0 at_161 rfl (wd hB 25 rfl) (wd hB 26 rfl) (wd hB 27 rfl) (wd hB 28 rfl) (c_bd_3 hB b0 b1 b2 b3 b4 b5 hb0 hb1 hb2 hb3 hb4 hb5 E372 F373 G377 A378l X379) (fun _ q => nomatch q) (lenOf pd_24 rfl) rfl rfl rfl (fun v380 h381 s382 q383 => ?_)
    obtain ⟨r384, k385, rfl, rfl, E386, A387⟩ := q383
    show Go _ _ _ _ _ _ _ _ _ _ _ _ h381 [x358, x343, x101] 9 45 164 _ [(.ref r384)]
    refine go_astore at_164 rfl #[vi p0, .val (.long p1), .second, vi 3, vr x101, vr x343, vr r384] rfl rfl ?_
    refine go_aload at_166 rfl rfl rfl ?_
    refine go_alen at_168 rfl A387 ?_
    refine go_iloadN at_169 rfl rfl ?_
    refine go_icmp_eq_t (pt := 175) at_170 (by decide) ?_
    refine go_aload at_175 rfl rfl rfl ?_
    refine go_aload at_177 rfl rfl rfl ?_
    refine go_iconst 0 at_179 rfl ?_
    refine go_iloadN at_180 rfl rfl ?_
    have F388 := ((((F351.keep K356 (ninS (Nat.ne_of_lt (Nat.lt_of_lt_of_le B132.lt (Nat.le_of_eq hx344.symm))) nin0)).ext E360).keep K371 (ninS (Nat.ne_of_lt (Nat.lt_of_lt_of_le (Nat.lt_of_lt_of_le F351.lt K356.1) (Nat.le_of_eq hx359.symm))) nin0)).ext E386)
    refine go_static [(.ref r384), (.ref x101), (.int 0), (.int 3)] [] 0 at_181 rfl (wd hB 156 rfl) (wd hB 157 rfl) (wd hB 158 rfl) (wd hB 159 rfl) (c_at2 hB 0 (by decide) (Int32.ofNat b0) 3 (by decide) (B_isC hb0) A387 F388 rfl rfl) (fun _ q => nomatch q) (lenOf pd_28 rfl) rfl rfl rfl (fun v389 h390 s391 q392 => ?_)
    obtain ⟨rfl, rfl, rfl⟩ := q392
    show Go _ _ _ _ _ _ _ _ _ _ _ _ h381 [x358, x343, x101] 9 45 184 _ [(.int 1)]
    refine go_if_eq_f at_184 rfl (by decide) ?_
    refine go_aload at_187 rfl rfl rfl ?_
    refine go_aload at_189 rfl rfl rfl ?_
    refine go_iconst 1 at_191 rfl ?_
    refine go_iloadN at_192 rfl rfl ?_
    refine go_static [(.ref r384), (.ref x101), (.int 1), (.int 3)] [] 0 at_193 rfl (wd hB 156 rfl) (wd hB 157 rfl) (wd hB 158 rfl) (wd hB 159 rfl) (c_at2 hB 1 (by decide) (Int32.ofNat b1) 3 (by decide) (B_isC hb1) A387 F388 rfl rfl) (fun _ q => nomatch q) (lenOf pd_28 rfl) rfl rfl rfl (fun v393 h394 s395 q396 => ?_)
    obtain ⟨rfl, rfl, rfl⟩ := q396
    show Go _ _ _ _ _ _ _ _ _ _ _ _ h381 [x358, x343, x101] 9 45 196 _ [(.int 1)]
    refine go_if_eq_f at_196 rfl (by decide) ?_
    refine go_aload at_199 rfl rfl rfl ?_
    refine go_aload at_201 rfl rfl rfl ?_
    refine go_iconst 2 at_203 rfl ?_
    refine go_iloadN at_204 rfl rfl ?_
    refine go_static [(.ref r384), (.ref x101), (.int 2), (.int 3)] [] 0 at_205 rfl (wd hB 156 rfl) (wd hB 157 rfl) (wd hB 158 rfl) (wd hB 159 rfl) (c_at2 hB 2 (by decide) (Int32.ofNat b2) 3 (by decide) (B_isC hb2) A387 F388 rfl rfl) (fun _ q => nomatch q) (lenOf pd_28 rfl) rfl rfl rfl (fun v397 h398 s399 q400 => ?_)
    obtain ⟨rfl, rfl, rfl⟩ := q400
    show Go _ _ _ _ _ _ _ _ _ _ _ _ h381 [x358, x343, x101] 9 45 208 _ [(.int 1)]
    refine go_if_eq_f at_208 rfl (by decide) ?_
    refine go_aload at_211 rfl rfl rfl ?_
    refine go_aload at_213 rfl rfl rfl ?_
    refine go_iconst 3 at_215 rfl ?_
    refine go_iloadN at_216 rfl rfl ?_
    refine go_static [(.ref r384), (.ref x101), (.int 3), (.int 3)] [] 0 at_217 rfl (wd hB 156 rfl) (wd hB 157 rfl) (wd hB 158 rfl) (wd hB 159 rfl) (c_at1 hB 3 3 (by decide)) (fun _ q => nomatch q) (lenOf pd_28 rfl) rfl rfl rfl (fun v401 h402 s403 q404 => ?_)
    obtain ⟨rfl, rfl, rfl⟩ := q404
    show Go _ _ _ _ _ _ _ _ _ _ _ _ h381 [x358, x343, x101] 9 45 220 _ [(.int 1)]
    refine go_if_eq_f at_220 rfl (by decide) ?_
    refine go_aload at_223 rfl rfl rfl ?_
    refine go_aload at_225 rfl rfl rfl ?_
    refine go_iconst 4 at_227 rfl ?_
    refine go_iloadN at_228 rfl rfl ?_
    refine go_static [(.ref r384), (.ref x101), (.int 4), (.int 3)] [] 0 at_229 rfl (wd hB 156 rfl) (wd hB 157 rfl) (wd hB 158 rfl) (wd hB 159 rfl) (c_at1 hB 4 3 (by decide)) (fun _ q => nomatch q) (lenOf pd_28 rfl) rfl rfl rfl (fun v405 h406 s407 q408 => ?_)
    obtain ⟨rfl, rfl, rfl⟩ := q408
    show Go _ _ _ _ _ _ _ _ _ _ _ _ h381 [x358, x343, x101] 9 45 232 _ [(.int 1)]
    refine go_if_eq_f at_232 rfl (by decide) ?_
    refine go_aload at_235 rfl rfl rfl ?_
    refine go_aload at_237 rfl rfl rfl ?_
    refine go_iconst 5 at_239 rfl ?_
    refine go_iloadN at_240 rfl rfl ?_
    refine go_static [(.ref r384), (.ref x101), (.int 5), (.int 3)] [] 0 at_241 rfl (wd hB 156 rfl) (wd hB 157 rfl) (wd hB 158 rfl) (wd hB 159 rfl) (c_at1 hB 5 3 (by decide)) (fun _ q => nomatch q) (lenOf pd_28 rfl) rfl rfl rfl (fun v409 h410 s411 q412 => ?_)
    obtain ⟨rfl, rfl, rfl⟩ := q412
    show Go _ _ _ _ _ _ _ _ _ _ _ _ h381 [x358, x343, x101] 9 45 244 _ [(.int 1)]
    refine go_if_eq_f at_244 rfl (by decide) ?_
    refine go_iconst 1 at_247 rfl ?_
    refine go_goto (pt := 252) at_248 ?_
    refine go_retN (t := .boolean) at_252 [] rfl (by simp) (by decide) (by decide) (fun _ q => nomatch q) ?_
    decide
  · subst e7
    have lt413 : X0 b0 < 64 := (x0_lt hb0)
    have lt414 : X1 b0 b1 < 64 := (x1_lt hb0 hb1)
    have lt415 : X2 b1 b2 < 64 := (x2_lt hb1 hb2)
    have lt416 : X3 b2 < 64 := (x3_lt hb2)
    have lt417 : X0 b3 < 64 := (x0_lt hb3)
    have lt418 : X1 b3 0 < 64 := (x1_lt hb3 (by decide : 0 < 256))
    show Go _ _ _ _ _ _ _ _ _ _ _ _ h129 [x101] 1 6 89 #[vi p0, .val (.long p1), .second, vi 4, vr x101, .unset, .unset] []
    refine go_iloadN at_89 rfl rfl ?_
    refine go_if_ne_t (pt := 101) at_90 (by decide) ?_
    refine go_iloadN at_101 rfl rfl ?_
    refine go_iconst 3 at_102 rfl ?_
    refine go_icmp_gt_t (pt := 124) at_103 (by decide) ?_
    refine go_bipush 8 at_124 rfl ?_
    refine go_newarr (ty := .char) (ad := "[C") 8 at_126 rfl rfl (wd hB 3 rfl) (by decide) (by decide) (by decide) (by decide) (by decide) (by decide) ?_
    intro h424 x419 hx420 E421 ⟨A422, k423, B425⟩
    have B426 : Arv Z h424 x419 k423 .char 8 [(.int 0), (.int 0), (.int 0), (.int 0), (.int 0), (.int 0), (.int 0), (.int 0)] (.int 0) := B425.pad (pad_rep [] (.int 0) 8)
    refine go_astore at_128 rfl #[vi p0, .val (.long p1), .second, vi 4, vr x101, vr x419, .unset] rfl rfl ?_
    refine go_aload at_130 rfl rfl rfl ?_
    refine go_iconst 0 at_132 rfl ?_
    refine go_iconst 3 at_133 rfl ?_
    refine go_aload at_134 rfl rfl rfl ?_
    refine go_iconst 0 at_136 rfl ?_
    have F427 := (B132.ext E421)
    refine go_static [(.ref x101), (.int 0), (.int 3), (.ref x419), (.int 0)] [] 0 at_137 rfl (wd hB 160 rfl) (wd hB 161 rfl) (wd hB 158 rfl) (wd hB 162 rfl) (c_quad_0_3_8 hB b0 b1 b2 b3 b4 b5 hb0 hb1 hb2 hb3 hb4 hb5 (Nat.ne_of_lt (Nat.lt_of_lt_of_le B132.lt (Nat.le_of_eq hx420.symm))) F427 B426) (allS (List.Mem.head _) (fun _ q => nomatch q)) (lenOf pd_29 rfl) rfl rfl rfl (fun v428 h429 s430 q431 => ?_)
    obtain ⟨rfl, rfl, K432, B433⟩ := q431
    show Go _ _ _ _ _ _ _ _ _ _ _ _ h429 [x419, x101] 2 14 140 _ []
    refine go_aload at_140 rfl rfl rfl ?_
    refine go_iconst 3 at_142 rfl ?_
    refine go_iloadN at_143 rfl rfl ?_
    refine go_iconst 3 at_144 rfl ?_
    refine go_isub at_145 rfl (go_eq (y := 1) (by decide) ?_)
    refine go_aload at_146 rfl rfl rfl ?_
    refine go_iconst 4 at_148 rfl ?_
    have F434 := (F427.keep K432 (ninS (Nat.ne_of_lt (Nat.lt_of_lt_of_le B132.lt (Nat.le_of_eq hx420.symm))) nin0))
    refine go_static [(.ref x101), (.int 3), (.int 1), (.ref x419), (.int 4)] [] 0 at_149 rfl (wd hB 160 rfl) (wd hB 161 rfl) (wd hB 158 rfl) (wd hB 162 rfl) (c_quad_3_1_8 hB b0 b1 b2 b3 b4 b5 hb0 hb1 hb2 hb3 hb4 hb5 (Nat.ne_of_lt (Nat.lt_of_lt_of_le B132.lt (Nat.le_of_eq hx420.symm))) F434 B433) (allS (List.Mem.head _) (fun _ q => nomatch q)) (lenOf pd_29 rfl) rfl rfl rfl (fun v435 h436 s437 q438 => ?_)
    obtain ⟨rfl, rfl, K439, B440⟩ := q438
    show Go _ _ _ _ _ _ _ _ _ _ _ _ h436 [x419, x101] 2 14 152 _ []
    refine go_new at_152 rfl (wd hB 4 rfl) (wd hB 5 rfl) (wd hB 6 rfl) (by decide) (by decide) ?_
    intro h446 x441 hx442 E443 ⟨A444, D445⟩
    have F447 : Fld Z h446 x441 "java/lang/String" "value" "[B" .null := D445 (Or.inr (wd hB 19 rfl)) (ty := (.array .byte)) (by decide)
    have F448 : Fld Z h446 x441 "java/lang/String" "coder" "B" (.int 0) := D445 (Or.inr (wd hB 20 rfl)) (ty := .byte) (by decide)
    refine go_dup at_155 rfl rfl ?_
    refine go_aload at_156 rfl rfl rfl ?_
    refine Go.owned (fun hgeN0 => ?_)
    have hgeN := fun y q => (hgeN0 y q).2
    have F449 := (B440.ext E443)
    refine go_special x441 [(.ref x419)] [(.ref x441)] 1 at_158 rfl rfl (wd hB 7 rfl) (wd hB 8 rfl) (wd hB 6 rfl) (wd hB 9 rfl) (c_sinit hB [T (X0 b0), T (X1 b0 b1), T (X2 b1 b2), T (X3 b2), T (X0 b3), T (X1 b3 0), 61, 61] (by simp) (by simp) (List.forall_mem_cons.mpr ⟨(T_isC lt413).le, (List.forall_mem_cons.mpr ⟨(T_isC lt414).le, (List.forall_mem_cons.mpr ⟨(T_isC lt415).le, (List.forall_mem_cons.mpr ⟨(T_isC lt416).le, (List.forall_mem_cons.mpr ⟨(T_isC lt417).le, (List.forall_mem_cons.mpr ⟨(T_isC lt418).le, (List.forall_mem_cons.mpr ⟨(by decide), (List.forall_mem_cons.mpr ⟨(by decide), (fun _ q => nomatch q)⟩)⟩)⟩)⟩)⟩)⟩)⟩)⟩) F449 A444 F447 F448 (hgeN x441 (List.Mem.head _))) (allS (List.Mem.head _) (fun _ q => nomatch q)) (lenOf pd_27 rfl) rfl rfl rfl (fun v450 h451 s452 q453 => ?_)
    obtain ⟨rfl, rfl, K454, E455, F456, d457, k458, g459, G460, A461, X462⟩ := q453
    have A461l : Arv Z h451 d457 k458 .byte 8 [(lv (T (X0 b0))), (lv (T (X1 b0 b1))), (lv (T (X2 b1 b2))), (lv (T (X3 b2))), (lv (T (X0 b3))), (lv (T (X1 b3 0))), (lv (61 : Int32)), (lv (61 : Int32))] (.int 0) := A461
    show Go _ _ _ _ _ _ _ _ _ _ _ _ h451 [x441, x419, x101] 4 26 161 _ [(.ref x441)]
    refine go_staticH [(.ref x441)] [] 0 at_161 rfl (wd hB 25 rfl) (wd hB 26 rfl) (wd hB 27 rfl) (wd hB 28 rfl) (c_bd_4 hB b0 b1 b2 b3 b4 b5 hb0 hb1 hb2 hb3 hb4 hb5 E455 F456 G460 A461l X462) (fun _ q => nomatch q) (lenOf pd_24 rfl) rfl rfl rfl (fun v463 h464 s465 q466 => ?_)
    obtain ⟨r467, k468, rfl, rfl, E469, A470⟩ := q466
    show Go _ _ _ _ _ _ _ _ _ _ _ _ h464 [x441, x419, x101] 9 58 164 _ [(.ref r467)]
    refine go_astore at_164 rfl #[vi p0, .val (.long p1), .second, vi 4, vr x101, vr x419, vr r467] rfl rfl ?_
    refine go_aload at_166 rfl rfl rfl ?_
    refine go_alen at_168 rfl A470 ?_
    refine go_iloadN at_169 rfl rfl ?_
    refine go_icmp_eq_t (pt := 175) at_170 (by decide) ?_
    refine go_aload at_175 rfl rfl rfl ?_
    refine go_aload at_177 rfl rfl rfl ?_
    refine go_iconst 0 at_179 rfl ?_
    refine go_iloadN at_180 rfl rfl ?_
    have F471 := ((((F434.keep K439 (ninS (Nat.ne_of_lt (Nat.lt_of_lt_of_le B132.lt (Nat.le_of_eq hx420.symm))) nin0)).ext E443).keep K454 (ninS (Nat.ne_of_lt (Nat.lt_of_lt_of_le (Nat.lt_of_lt_of_le F434.lt K439.1) (Nat.le_of_eq hx442.symm))) nin0)).ext E469)
    refine go_static [(.ref r467), (.ref x101), (.int 0), (.int 4)] [] 0 at_181 rfl (wd hB 156 rfl) (wd hB 157 rfl) (wd hB 158 rfl) (wd hB 159 rfl) (c_at2 hB 0 (by decide) (Int32.ofNat b0) 4 (by decide) (B_isC hb0) A470 F471 rfl rfl) (fun _ q => nomatch q) (lenOf pd_28 rfl) rfl rfl rfl (fun v472 h473 s474 q475 => ?_)
    obtain ⟨rfl, rfl, rfl⟩ := q475
    show Go _ _ _ _ _ _ _ _ _ _ _ _ h464 [x441, x419, x101] 9 58 184 _ [(.int 1)]
    refine go_if_eq_f at_184 rfl (by decide) ?_
    refine go_aload at_187 rfl rfl rfl ?_
    refine go_aload at_189 rfl rfl rfl ?_
    refine go_iconst 1 at_191 rfl ?_
    refine go_iloadN at_192 rfl rfl ?_
    refine go_static [(.ref r467), (.ref x101), (.int 1), (.int 4)] [] 0 at_193 rfl (wd hB 156 rfl) (wd hB 157 rfl) (wd hB 158 rfl) (wd hB 159 rfl) (c_at2 hB 1 (by decide) (Int32.ofNat b1) 4 (by decide) (B_isC hb1) A470 F471 rfl rfl) (fun _ q => nomatch q) (lenOf pd_28 rfl) rfl rfl rfl (fun v476 h477 s478 q479 => ?_)
    obtain ⟨rfl, rfl, rfl⟩ := q479
    show Go _ _ _ _ _ _ _ _ _ _ _ _ h464 [x441, x419, x101] 9 58 196 _ [(.int 1)]
    refine go_if_eq_f at_196 rfl (by decide) ?_
    refine go_aload at_199 rfl rfl rfl ?_
    refine go_aload at_201 rfl rfl rfl ?_
    refine go_iconst 2 at_203 rfl ?_
    refine go_iloadN at_204 rfl rfl ?_
    refine go_static [(.ref r467), (.ref x101), (.int 2), (.int 4)] [] 0 at_205 rfl (wd hB 156 rfl) (wd hB 157 rfl) (wd hB 158 rfl) (wd hB 159 rfl) (c_at2 hB 2 (by decide) (Int32.ofNat b2) 4 (by decide) (B_isC hb2) A470 F471 rfl rfl) (fun _ q => nomatch q) (lenOf pd_28 rfl) rfl rfl rfl (fun v480 h481 s482 q483 => ?_)
    obtain ⟨rfl, rfl, rfl⟩ := q483
    show Go _ _ _ _ _ _ _ _ _ _ _ _ h464 [x441, x419, x101] 9 58 208 _ [(.int 1)]
    refine go_if_eq_f at_208 rfl (by decide) ?_
    refine go_aload at_211 rfl rfl rfl ?_
    refine go_aload at_213 rfl rfl rfl ?_
    refine go_iconst 3 at_215 rfl ?_
    refine go_iloadN at_216 rfl rfl ?_
    refine go_static [(.ref r467), (.ref x101), (.int 3), (.int 4)] [] 0 at_217 rfl (wd hB 156 rfl) (wd hB 157 rfl) (wd hB 158 rfl) (wd hB 159 rfl) (c_at2 hB 3 (by decide) (Int32.ofNat b3) 4 (by decide) (B_isC hb3) A470 F471 rfl rfl) (fun _ q => nomatch q) (lenOf pd_28 rfl) rfl rfl rfl (fun v484 h485 s486 q487 => ?_)
    obtain ⟨rfl, rfl, rfl⟩ := q487
    show Go _ _ _ _ _ _ _ _ _ _ _ _ h464 [x441, x419, x101] 9 58 220 _ [(.int 1)]
    refine go_if_eq_f at_220 rfl (by decide) ?_
    refine go_aload at_223 rfl rfl rfl ?_
    refine go_aload at_225 rfl rfl rfl ?_
    refine go_iconst 4 at_227 rfl ?_
    refine go_iloadN at_228 rfl rfl ?_
    refine go_static [(.ref r467), (.ref x101), (.int 4), (.int 4)] [] 0 at_229 rfl (wd hB 156 rfl) (wd hB 157 rfl) (wd hB 158 rfl) (wd hB 159 rfl) (c_at1 hB 4 4 (by decide)) (fun _ q => nomatch q) (lenOf pd_28 rfl) rfl rfl rfl (fun v488 h489 s490 q491 => ?_)
    obtain ⟨rfl, rfl, rfl⟩ := q491
    show Go _ _ _ _ _ _ _ _ _ _ _ _ h464 [x441, x419, x101] 9 58 232 _ [(.int 1)]
    refine go_if_eq_f at_232 rfl (by decide) ?_
    refine go_aload at_235 rfl rfl rfl ?_
    refine go_aload at_237 rfl rfl rfl ?_
    refine go_iconst 5 at_239 rfl ?_
    refine go_iloadN at_240 rfl rfl ?_
    refine go_static [(.ref r467), (.ref x101), (.int 5), (.int 4)] [] 0 at_241 rfl (wd hB 156 rfl) (wd hB 157 rfl) (wd hB 158 rfl) (wd hB 159 rfl) (c_at1 hB 5 4 (by decide)) (fun _ q => nomatch q) (lenOf pd_28 rfl) rfl rfl rfl (fun v492 h493 s494 q495 => ?_)
    obtain ⟨rfl, rfl, rfl⟩ := q495
    show Go _ _ _ _ _ _ _ _ _ _ _ _ h464 [x441, x419, x101] 9 58 244 _ [(.int 1)]
    refine go_if_eq_f at_244 rfl (by decide) ?_
    refine go_iconst 1 at_247 rfl ?_
    refine go_goto (pt := 252) at_248 ?_
    refine go_retN (t := .boolean) at_252 [] rfl (by simp) (by decide) (by decide) (fun _ q => nomatch q) ?_
    decide
  · subst e7
    have lt496 : X0 b0 < 64 := (x0_lt hb0)
    have lt497 : X1 b0 b1 < 64 := (x1_lt hb0 hb1)
    have lt498 : X2 b1 b2 < 64 := (x2_lt hb1 hb2)
    have lt499 : X3 b2 < 64 := (x3_lt hb2)
    have lt500 : X0 b3 < 64 := (x0_lt hb3)
    have lt501 : X1 b3 b4 < 64 := (x1_lt hb3 hb4)
    have lt502 : X2 b4 0 < 64 := (x2_lt hb4 (by decide : 0 < 256))
    show Go _ _ _ _ _ _ _ _ _ _ _ _ h129 [x101] 1 6 89 #[vi p0, .val (.long p1), .second, vi 5, vr x101, .unset, .unset] []
    refine go_iloadN at_89 rfl rfl ?_
    refine go_if_ne_t (pt := 101) at_90 (by decide) ?_
    refine go_iloadN at_101 rfl rfl ?_
    refine go_iconst 3 at_102 rfl ?_
    refine go_icmp_gt_t (pt := 124) at_103 (by decide) ?_
    refine go_bipush 8 at_124 rfl ?_
    refine go_newarr (ty := .char) (ad := "[C") 8 at_126 rfl rfl (wd hB 3 rfl) (by decide) (by decide) (by decide) (by decide) (by decide) (by decide) ?_
    intro h508 x503 hx504 E505 ⟨A506, k507, B509⟩
    have B510 : Arv Z h508 x503 k507 .char 8 [(.int 0), (.int 0), (.int 0), (.int 0), (.int 0), (.int 0), (.int 0), (.int 0)] (.int 0) := B509.pad (pad_rep [] (.int 0) 8)
    refine go_astore at_128 rfl #[vi p0, .val (.long p1), .second, vi 5, vr x101, vr x503, .unset] rfl rfl ?_
    refine go_aload at_130 rfl rfl rfl ?_
    refine go_iconst 0 at_132 rfl ?_
    refine go_iconst 3 at_133 rfl ?_
    refine go_aload at_134 rfl rfl rfl ?_
    refine go_iconst 0 at_136 rfl ?_
    have F511 := (B132.ext E505)
    refine go_static [(.ref x101), (.int 0), (.int 3), (.ref x503), (.int 0)] [] 0 at_137 rfl (wd hB 160 rfl) (wd hB 161 rfl) (wd hB 158 rfl) (wd hB 162 rfl) (c_quad_0_3_8 hB b0 b1 b2 b3 b4 b5 hb0 hb1 hb2 hb3 hb4 hb5 (Nat.ne_of_lt (Nat.lt_of_lt_of_le B132.lt (Nat.le_of_eq hx504.symm))) F511 B510) (allS (List.Mem.head _) (fun _ q => nomatch q)) (lenOf pd_29 rfl) rfl rfl rfl (fun v512 h513 s514 q515 => ?_)
    obtain ⟨rfl, rfl, K516, B517⟩ := q515
    show Go _ _ _ _ _ _ _ _ _ _ _ _ h513 [x503, x101] 2 14 140 _ []
    refine go_aload at_140 rfl rfl rfl ?_
    refine go_iconst 3 at_142 rfl ?_
    refine go_iloadN at_143 rfl rfl ?_
    refine go_iconst 3 at_144 rfl ?_
    refine go_isub at_145 rfl (go_eq (y := 2) (by decide) ?_)
    refine go_aload at_146 rfl rfl rfl ?_
    refine go_iconst 4 at_148 rfl ?_
    have F518 := (F511.keep K516 (ninS (Nat.ne_of_lt (Nat.lt_of_lt_of_le B132.lt (Nat.le_of_eq hx504.symm))) nin0))
    refine go_static [(.ref x101), (.int 3), (.int 2), (.ref x503), (.int 4)] [] 0 at_149 rfl (wd hB 160 rfl) (wd hB 161 rfl) (wd hB 158 rfl) (wd hB 162 rfl) (c_quad_3_2_8 hB b0 b1 b2 b3 b4 b5 hb0 hb1 hb2 hb3 hb4 hb5 (Nat.ne_of_lt (Nat.lt_of_lt_of_le B132.lt (Nat.le_of_eq hx504.symm))) F518 B517) (allS (List.Mem.head _) (fun _ q => nomatch q)) (lenOf pd_29 rfl) rfl rfl rfl (fun v519 h520 s521 q522 => ?_)
    obtain ⟨rfl, rfl, K523, B524⟩ := q522
    show Go _ _ _ _ _ _ _ _ _ _ _ _ h520 [x503, x101] 2 14 152 _ []
    refine go_new at_152 rfl (wd hB 4 rfl) (wd hB 5 rfl) (wd hB 6 rfl) (by decide) (by decide) ?_
    intro h530 x525 hx526 E527 ⟨A528, D529⟩
    have F531 : Fld Z h530 x525 "java/lang/String" "value" "[B" .null := D529 (Or.inr (wd hB 19 rfl)) (ty := (.array .byte)) (by decide)
    have F532 : Fld Z h530 x525 "java/lang/String" "coder" "B" (.int 0) := D529 (Or.inr (wd hB 20 rfl)) (ty := .byte) (by decide)
    refine go_dup at_155 rfl rfl ?_
    refine go_aload at_156 rfl rfl rfl ?_
    refine Go.owned (fun hgeN0 => ?_)
    have hgeN := fun y q => (hgeN0 y q).2
    have F533 := (B524.ext E527)
    refine go_special x525 [(.ref x503)] [(.ref x525)] 1 at_158 rfl rfl (wd hB 7 rfl) (wd hB 8 rfl) (wd hB 6 rfl) (wd hB 9 rfl) (c_sinit hB [T (X0 b0), T (X1 b0 b1), T (X2 b1 b2), T (X3 b2), T (X0 b3), T (X1 b3 b4), T (X2 b4 0), 61] (by simp) (by simp) (List.forall_mem_cons.mpr ⟨(T_isC lt496).le, (List.forall_mem_cons.mpr ⟨(T_isC lt497).le, (List.forall_mem_cons.mpr ⟨(T_isC lt498).le, (List.forall_mem_cons.mpr ⟨(T_isC lt499).le, (List.forall_mem_cons.mpr ⟨(T_isC lt500).le, (List.forall_mem_cons.mpr ⟨(T_isC lt501).le, (List.forall_mem_cons.mpr ⟨(T_isC lt502).le, (List.forall_mem_cons.mpr ⟨(by decide), (fun _ q => nomatch q)⟩)⟩)⟩)⟩)⟩)⟩)⟩)⟩) F533 A528 F531 F532 (hgeN x525 (List.Mem.head _))) (allS (List.Mem.head _) (fun _ q => nomatch q)) (lenOf pd_27 rfl) rfl rfl rfl (fun v534 h535 s536 q537 => ?_)
    obtain ⟨rfl, rfl, K538, E539, F540, d541, k542, g543, G544, A545, X546⟩ := q537
    have A545l : Arv Z h535 d541 k542 .byte 8 [(lv (T (X0 b0))), (lv (T (X1 b0 b1))), (lv (T (X2 b1 b2))), (lv (T (X3 b2))), (lv (T (X0 b3))), (lv (T (X1 b3 b4))), (lv (T (X2 b4 0))), (lv (61 : Int32))] (.int 0) := A545
    show Go _ _ _ _ _ _ _ _ _ _ _ _ h535 [x525, x503, x101] 4 26 161 _ [(.ref x525)]
    refine go_staticH [(.ref x525)] [] 0 at_161 rfl (wd hB 25 rfl) (wd hB 26 rfl) (wd hB 27 rfl) (wd hB 28 rfl) (c_bd_5 hB b0 b1 b2 b3 b4 b5 hb0 hb1 hb2 hb3 hb4 hb5 E539 F540 G544 A545l X546) (fun _ q => nomatch q) (lenOf pd_24 rfl) rfl rfl rfl (fun v547 h548 s549 q550 => ?_)
    obtain ⟨r551, k552, rfl, rfl, E553, A554⟩ := q550
    show Go _ _ _ _ _ _ _ _ _ _ _ _ h548 [x525, x503, x101] 9 59 164 _ [(.ref r551)]
    refine go_astore at_164 rfl #[vi p0, .val (.long p1), .second, vi 5, vr x101, vr x503, vr r551] rfl rfl ?_
    refine go_aload at_166 rfl rfl rfl ?_
    refine go_alen at_168 rfl A554 ?_
    refine go_iloadN at_169 rfl rfl ?_
    refine go_icmp_eq_t (pt := 175) at_170 (by decide) ?_
    refine go_aload at_175 rfl rfl rfl ?_
    refine go_aload at_177 rfl rfl rfl ?_
    refine go_iconst 0 at_179 rfl ?_
    refine go_iloadN at_180 rfl rfl ?_
    have F555 := ((((F518.keep K523 (ninS (Nat.ne_of_lt (Nat.lt_of_lt_of_le B132.lt (Nat.le_of_eq hx504.symm))) nin0)).ext E527).keep K538 (ninS (Nat.ne_of_lt (Nat.lt_of_lt_of_le (Nat.lt_of_lt_of_le F518.lt K523.1) (Nat.le_of_eq hx526.symm))) nin0)).ext E553)
    refine go_static [(.ref r551), (.ref x101), (.int 0), (.int 5)] [] 0 at_181 rfl (wd hB 156 rfl) (wd hB 157 rfl) (wd hB 158 rfl) (wd hB 159 rfl) (c_at2 hB 0 (by decide) (Int32.ofNat b0) 5 (by decide) (B_isC hb0) A554 F555 rfl rfl) (fun _ q => nomatch q) (lenOf pd_28 rfl) rfl rfl rfl (fun v556 h557 s558 q559 => ?_)
    obtain ⟨rfl, rfl, rfl⟩ := q559
    show Go _ _ _ _ _ _ _ _ _ _ _ _ h548 [x525, x503, x101] 9 59 184 _ [(.int 1)]
    refine go_if_eq_f at_184 rfl (by decide) ?_
    refine go_aload at_187 rfl rfl rfl ?_
    refine go_aload at_189 rfl rfl rfl ?_
    refine go_iconst 1 at_191 rfl ?_
    refine go_iloadN at_192 rfl rfl ?_
    refine go_static [(.ref r551), (.ref x101), (.int 1), (.int 5)] [] 0 at_193 rfl (wd hB 156 rfl) (wd hB 157 rfl) (wd hB 158 rfl) (wd hB 159 rfl) (c_at2 hB 1 (by decide) (Int32.ofNat b1) 5 (by decide) (B_isC hb1) A554 F555 rfl rfl) (fun _ q => nomatch q) (lenOf pd_28 rfl) rfl rfl rfl (fun v560 h561 s562 q563 => ?_)
    obtain ⟨rfl, rfl, rfl⟩ := q563
    show Go _ _ _ _ _ _ _ _ _ _ _ _ h548 [x525, x503, x101] 9 59 196 _ [(.int 1)]
    refine go_if_eq_f at_196 rfl (by decide) ?_
    refine go_aload at_199 rfl rfl rfl ?_
    refine go_aload at_201 rfl rfl rfl ?_
    refine go_iconst 2 at_203 rfl ?_
    refine go_iloadN at_204 rfl rfl ?_
    refine go_static [(.ref r551), (.ref x101), (.int 2), (.int 5)] [] 0 at_205 rfl (wd hB 156 rfl) (wd hB 157 rfl) (wd hB 158 rfl) (wd hB 159 rfl) (c_at2 hB 2 (by decide) (Int32.ofNat b2) 5 (by decide) (B_isC hb2) A554 F555 rfl rfl) (fun _ q => nomatch q) (lenOf pd_28 rfl) rfl rfl rfl (fun v564 h565 s566 q567 => ?_)
    obtain ⟨rfl, rfl, rfl⟩ := q567
    show Go _ _ _ _ _ _ _ _ _ _ _ _ h548 [x525, x503, x101] 9 59 208 _ [(.int 1)]
    refine go_if_eq_f at_208 rfl (by decide) ?_
    refine go_aload at_211 rfl rfl rfl ?_
    refine go_aload at_213 rfl rfl rfl ?_
    refine go_iconst 3 at_215 rfl ?_
    refine go_iloadN at_216 rfl rfl ?_
    refine go_static [(.ref r551), (.ref x101), (.int 3), (.int 5)] [] 0 at_217 rfl (wd hB 156 rfl) (wd hB 157 rfl) (wd hB 158 rfl) (wd hB 159 rfl) (c_at2 hB 3 (by decide) (Int32.ofNat b3) 5 (by decide) (B_isC hb3) A554 F555 rfl rfl) (fun _ q => nomatch q) (lenOf pd_28 rfl) rfl rfl rfl (fun v568 h569 s570 q571 => ?_)
    obtain ⟨rfl, rfl, rfl⟩ := q571
    show Go _ _ _ _ _ _ _ _ _ _ _ _ h548 [x525, x503, x101] 9 59 220 _ [(.int 1)]
    refine go_if_eq_f at_220 rfl (by decide) ?_
    refine go_aload at_223 rfl rfl rfl ?_
    refine go_aload at_225 rfl rfl rfl ?_
    refine go_iconst 4 at_227 rfl ?_
    refine go_iloadN at_228 rfl rfl ?_
    refine go_static [(.ref r551), (.ref x101), (.int 4), (.int 5)] [] 0 at_229 rfl (wd hB 156 rfl) (wd hB 157 rfl) (wd hB 158 rfl) (wd hB 159 rfl) (c_at2 hB 4 (by decide) (Int32.ofNat b4) 5 (by decide) (B_isC hb4) A554 F555 rfl rfl) (fun _ q => nomatch q) (lenOf pd_28 rfl) rfl rfl rfl (fun v572 h573 s574 q575 => ?_)
    obtain ⟨rfl, rfl, rfl⟩ := q575
    show Go _ _ _ _ _ _ _ _ _ _ _ _ h548 [x525, x503, x101] 9 59 232 _ [(.int 1)]
    refine go_if_eq_f at_232 rfl (by decide) ?_
    refine go_aload at_235 rfl rfl rfl ?_
    refine go_aload at_237 rfl rfl rfl ?_
    refine go_iconst 5 at_239 rfl ?_
    refine go_iloadN at_240 rfl rfl ?_
    refine go_static [(.ref r551), (.ref x101), (.int 5), (.int 5)] [] 0 at_241 rfl (wd hB 156 rfl) (wd hB 157 rfl) (wd hB 158 rfl) (wd hB 159 rfl) (c_at1 hB 5 5 (by decide)) (fun _ q => nomatch q) (lenOf pd_28 rfl) rfl rfl rfl (fun v576 h577 s578 q579 => ?_)
    obtain ⟨rfl, rfl, rfl⟩ := q579
    show Go _ _ _ _ _ _ _ _ _ _ _ _ h548 [x525, x503, x101] 9 59 244 _ [(.int 1)]
    refine go_if_eq_f at_244 rfl (by decide) ?_
    refine go_iconst 1 at_247 rfl ?_
    refine go_goto (pt := 252) at_248 ?_
    refine go_retN (t := .boolean) at_252 [] rfl (by simp) (by decide) (by decide) (fun _ q => nomatch q) ?_
    decide
  · subst e7
    have lt580 : X0 b0 < 64 := (x0_lt hb0)
    have lt581 : X1 b0 b1 < 64 := (x1_lt hb0 hb1)
    have lt582 : X2 b1 b2 < 64 := (x2_lt hb1 hb2)
    have lt583 : X3 b2 < 64 := (x3_lt hb2)
    have lt584 : X0 b3 < 64 := (x0_lt hb3)
    have lt585 : X1 b3 b4 < 64 := (x1_lt hb3 hb4)
    have lt586 : X2 b4 b5 < 64 := (x2_lt hb4 hb5)
    have lt587 : X3 b5 < 64 := (x3_lt hb5)
    show Go _ _ _ _ _ _ _ _ _ _ _ _ h129 [x101] 1 6 89 #[vi p0, .val (.long p1), .second, vi 6, vr x101, .unset, .unset] []
    refine go_iloadN at_89 rfl rfl ?_
    refine go_if_ne_t (pt := 101) at_90 (by decide) ?_
    refine go_iloadN at_101 rfl rfl ?_
    refine go_iconst 3 at_102 rfl ?_
    refine go_icmp_gt_t (pt := 124) at_103 (by decide) ?_
    refine go_bipush 8 at_124 rfl ?_
    refine go_newarr (ty := .char) (ad := "[C") 8 at_126 rfl rfl (wd hB 3 rfl) (by decide) (by decide) (by decide) (by decide) (by decide) (by decide) ?_
    intro h593 x588 hx589 E590 ⟨A591, k592, B594⟩
    have B595 : Arv Z h593 x588 k592 .char 8 [(.int 0), (.int 0), (.int 0), (.int 0), (.int 0), (.int 0), (.int 0), (.int 0)] (.int 0) := B594.pad (pad_rep [] (.int 0) 8)
    refine go_astore at_128 rfl #[vi p0, .val (.long p1), .second, vi 6, vr x101, vr x588, .unset] rfl rfl ?_
    refine go_aload at_130 rfl rfl rfl ?_
    refine go_iconst 0 at_132 rfl ?_
    refine go_iconst 3 at_133 rfl ?_
    refine go_aload at_134 rfl rfl rfl ?_
    refine go_iconst 0 at_136 rfl ?_
    have F596 := (B132.ext E590)
    refine go_static [(.ref x101), (.int 0), (.int 3), (.ref x588), (.int 0)] [] 0 at_137 rfl (wd hB 160 rfl) (wd hB 161 rfl) (wd hB 158 rfl) (wd hB 162 rfl) (c_quad_0_3_8 hB b0 b1 b2 b3 b4 b5 hb0 hb1 hb2 hb3 hb4 hb5 (Nat.ne_of_lt (Nat.lt_of_lt_of_le B132.lt (Nat.le_of_eq hx589.symm))) F596 B595) (allS (List.Mem.head _) (fun _ q => nomatch q)) (lenOf pd_29 rfl) rfl rfl rfl (fun v597 h598 s599 q600 => ?_)
    obtain ⟨rfl, rfl, K601, B602⟩ := q600
    show Go _ _ _ _ _ _ _ _ _ _ _ _ h598 [x588, x101] 2 14 140 _ []
    refine go_aload at_140 rfl rfl rfl ?_
    refine go_iconst 3 at_142 rfl ?_
    refine go_iloadN at_143 rfl rfl ?_
    refine go_iconst 3 at_144 rfl ?_
    refine go_isub at_145 rfl (go_eq (y := 3) (by decide) ?_)
    refine go_aload at_146 rfl rfl rfl ?_
    refine go_iconst 4 at_148 rfl ?_
    have F603 := (F596.keep K601 (ninS (Nat.ne_of_lt (Nat.lt_of_lt_of_le B132.lt (Nat.le_of_eq hx589.symm))) nin0))
    refine go_static [(.ref x101), (.int 3), (.int 3), (.ref x588), (.int 4)] [] 0 at_149 rfl (wd hB 160 rfl) (wd hB 161 rfl) (wd hB 158 rfl) (wd hB 162 rfl) (c_quad_3_3_8 hB b0 b1 b2 b3 b4 b5 hb0 hb1 hb2 hb3 hb4 hb5 (Nat.ne_of_lt (Nat.lt_of_lt_of_le B132.lt (Nat.le_of_eq hx589.symm))) F603 B602) (allS (List.Mem.head _) (fun _ q => nomatch q)) (lenOf pd_29 rfl) rfl rfl rfl (fun v604 h605 s606 q607 => ?_)
    obtain ⟨rfl, rfl, K608, B609⟩ := q607
    show Go _ _ _ _ _ _ _ _ _ _ _ _ h605 [x588, x101] 2 14 152 _ []
    refine go_new at_152 rfl (wd hB 4 rfl) (wd hB 5 rfl) (wd hB 6 rfl) (by decide) (by decide) ?_
    intro h615 x610 hx611 E612 ⟨A613, D614⟩
    have F616 : Fld Z h615 x610 "java/lang/String" "value" "[B" .null := D614 (Or.inr (wd hB 19 rfl)) (ty := (.array .byte)) (by decide)
    have F617 : Fld Z h615 x610 "java/lang/String" "coder" "B" (.int 0) := D614 (Or.inr (wd hB 20 rfl)) (ty := .byte) (by decide)
    refine go_dup at_155 rfl rfl ?_
    refine go_aload at_156 rfl rfl rfl ?_
    refine Go.owned (fun hgeN0 => ?_)
    have hgeN := fun y q => (hgeN0 y q).2
    have F618 := (B609.ext E612)
    refine go_special x610 [(.ref x588)] [(.ref x610)] 1 at_158 rfl rfl (wd hB 7 rfl) (wd hB 8 rfl) (wd hB 6 rfl) (wd hB 9 rfl) (c_sinit hB [T (X0 b0), T (X1 b0 b1), T (X2 b1 b2), T (X3 b2), T (X0 b3), T (X1 b3 b4), T (X2 b4 b5), T (X3 b5)] (by simp) (by simp) (List.forall_mem_cons.mpr ⟨(T_isC lt580).le, (List.forall_mem_cons.mpr ⟨(T_isC lt581).le, (List.forall_mem_cons.mpr ⟨(T_isC lt582).le, (List.forall_mem_cons.mpr ⟨(T_isC lt583).le, (List.forall_mem_cons.mpr ⟨(T_isC lt584).le, (List.forall_mem_cons.mpr ⟨(T_isC lt585).le, (List.forall_mem_cons.mpr ⟨(T_isC lt586).le, (List.forall_mem_cons.mpr ⟨(T_isC lt587).le, (fun _ q => nomatch q)⟩)⟩)⟩)⟩)⟩)⟩)⟩)⟩) F618 A613 F616 F617 (hgeN x610 (List.Mem.head _))) (allS (List.Mem.head _) (fun _ q => nomatch q)) (lenOf pd_27 rfl) rfl rfl rfl (fun v619 h620 s621 q622 => ?_)
    obtain ⟨rfl, rfl, K623, E624, F625, d626, k627, g628, G629, A630, X631⟩ := q622
    have A630l : Arv Z h620 d626 k627 .byte 8 [(lv (T (X0 b0))), (lv (T (X1 b0 b1))), (lv (T (X2 b1 b2))), (lv (T (X3 b2))), (lv (T (X0 b3))), (lv (T (X1 b3 b4))), (lv (T (X2 b4 b5))), (lv (T (X3 b5)))] (.int 0) := A630
    show Go _ _ _ _ _ _ _ _ _ _ _ _ h620 [x610, x588, x101] 4 26 161 _ [(.ref x610)]
    refine go_staticH [(.ref x610)] [] 0 at_161 rfl (wd hB 25 rfl) (wd hB 26 rfl) (wd hB 27 rfl) (wd hB 28 rfl) (c_bd_6 hB b0 b1 b2 b3 b4 b5 hb0 hb1 hb2 hb3 hb4 hb5 E624 F625 G629 A630l X631) (fun _ q => nomatch q) (lenOf pd_24 rfl) rfl rfl rfl (fun v632 h633 s634 q635 => ?_)
    obtain ⟨r636, k637, rfl, rfl, E638, A639⟩ := q635
    show Go _ _ _ _ _ _ _ _ _ _ _ _ h633 [x610, x588, x101] 9 60 164 _ [(.ref r636)]
    refine go_astore at_164 rfl #[vi p0, .val (.long p1), .second, vi 6, vr x101, vr x588, vr r636] rfl rfl ?_
    refine go_aload at_166 rfl rfl rfl ?_
    refine go_alen at_168 rfl A639 ?_
    refine go_iloadN at_169 rfl rfl ?_
    refine go_icmp_eq_t (pt := 175) at_170 (by decide) ?_
    refine go_aload at_175 rfl rfl rfl ?_
    refine go_aload at_177 rfl rfl rfl ?_
    refine go_iconst 0 at_179 rfl ?_
    refine go_iloadN at_180 rfl rfl ?_
    have F640 := ((((F603.keep K608 (ninS (Nat.ne_of_lt (Nat.lt_of_lt_of_le B132.lt (Nat.le_of_eq hx589.symm))) nin0)).ext E612).keep K623 (ninS (Nat.ne_of_lt (Nat.lt_of_lt_of_le (Nat.lt_of_lt_of_le F603.lt K608.1) (Nat.le_of_eq hx611.symm))) nin0)).ext E638)
    refine go_static [(.ref r636), (.ref x101), (.int 0), (.int 6)] [] 0 at_181 rfl (wd hB 156 rfl) (wd hB 157 rfl) (wd hB 158 rfl) (wd hB 159 rfl) (c_at2 hB 0 (by decide) (Int32.ofNat b0) 6 (by decide) (B_isC hb0) A639 F640 rfl rfl) (fun _ q => nomatch q) (lenOf pd_28 rfl) rfl rfl rfl (fun v641 h642 s643 q644 => ?_)
    obtain ⟨rfl, rfl, rfl⟩ := q644
    show Go _ _ _ _ _ _ _ _ _ _ _ _ h633 [x610, x588, x101] 9 60 184 _ [(.int 1)]
    refine go_if_eq_f at_184 rfl (by decide) ?_
    refine go_aload at_187 rfl rfl rfl ?_
    refine go_aload at_189 rfl rfl rfl ?_
    refine go_iconst 1 at_191 rfl ?_
    refine go_iloadN at_192 rfl rfl ?_
    refine go_static [(.ref r636), (.ref x101), (.int 1), (.int 6)] [] 0 at_193 rfl (wd hB 156 rfl) (wd hB 157 rfl) (wd hB 158 rfl) (wd hB 159 rfl) (c_at2 hB 1 (by decide) (Int32.ofNat b1) 6 (by decide) (B_isC hb1) A639 F640 rfl rfl) (fun _ q => nomatch q) (lenOf pd_28 rfl) rfl rfl rfl (fun v645 h646 s647 q648 => ?_)
    obtain ⟨rfl, rfl, rfl⟩ := q648
    show Go _ _ _ _ _ _ _ _ _ _ _ _ h633 [x610, x588, x101] 9 60 196 _ [(.int 1)]
    refine go_if_eq_f at_196 rfl (by decide) ?_
    refine go_aload at_199 rfl rfl rfl ?_
    refine go_aload at_201 rfl rfl rfl ?_
    refine go_iconst 2 at_203 rfl ?_
    refine go_iloadN at_204 rfl rfl ?_
    refine go_static [(.ref r636), (.ref x101), (.int 2), (.int 6)] [] 0 at_205 rfl (wd hB 156 rfl) (wd hB 157 rfl) (wd hB 158 rfl) (wd hB 159 rfl) (c_at2 hB 2 (by decide) (Int32.ofNat b2) 6 (by decide) (B_isC hb2) A639 F640 rfl rfl) (fun _ q => nomatch q) (lenOf pd_28 rfl) rfl rfl rfl (fun v649 h650 s651 q652 => ?_)
    obtain ⟨rfl, rfl, rfl⟩ := q652
    show Go _ _ _ _ _ _ _ _ _ _ _ _ h633 [x610, x588, x101] 9 60 208 _ [(.int 1)]
    refine go_if_eq_f at_208 rfl (by decide) ?_
    refine go_aload at_211 rfl rfl rfl ?_
    refine go_aload at_213 rfl rfl rfl ?_
    refine go_iconst 3 at_215 rfl ?_
    refine go_iloadN at_216 rfl rfl ?_
    refine go_static [(.ref r636), (.ref x101), (.int 3), (.int 6)] [] 0 at_217 rfl (wd hB 156 rfl) (wd hB 157 rfl) (wd hB 158 rfl) (wd hB 159 rfl) (c_at2 hB 3 (by decide) (Int32.ofNat b3) 6 (by decide) (B_isC hb3) A639 F640 rfl rfl) (fun _ q => nomatch q) (lenOf pd_28 rfl) rfl rfl rfl (fun v653 h654 s655 q656 => ?_)
    obtain ⟨rfl, rfl, rfl⟩ := q656
    show Go _ _ _ _ _ _ _ _ _ _ _ _ h633 [x610, x588, x101] 9 60 220 _ [(.int 1)]
    refine go_if_eq_f at_220 rfl (by decide) ?_
    refine go_aload at_223 rfl rfl rfl ?_
    refine go_aload at_225 rfl rfl rfl ?_
    refine go_iconst 4 at_227 rfl ?_
    refine go_iloadN at_228 rfl rfl ?_
    refine go_static [(.ref r636), (.ref x101), (.int 4), (.int 6)] [] 0 at_229 rfl (wd hB 156 rfl) (wd hB 157 rfl) (wd hB 158 rfl) (wd hB 159 rfl) (c_at2 hB 4 (by decide) (Int32.ofNat b4) 6 (by decide) (B_isC hb4) A639 F640 rfl rfl) (fun _ q => nomatch q) (lenOf pd_28 rfl) rfl rfl rfl (fun v657 h658 s659 q660 => ?_)
    obtain ⟨rfl, rfl, rfl⟩ := q660
    show Go _ _ _ _ _ _ _ _ _ _ _ _ h633 [x610, x588, x101] 9 60 232 _ [(.int 1)]
    refine go_if_eq_f at_232 rfl (by decide) ?_
    refine go_aload at_235 rfl rfl rfl ?_
    refine go_aload at_237 rfl rfl rfl ?_
    refine go_iconst 5 at_239 rfl ?_
    refine go_iloadN at_240 rfl rfl ?_
    refine go_static [(.ref r636), (.ref x101), (.int 5), (.int 6)] [] 0 at_241 rfl (wd hB 156 rfl) (wd hB 157 rfl) (wd hB 158 rfl) (wd hB 159 rfl) (c_at2 hB 5 (by decide) (Int32.ofNat b5) 6 (by decide) (B_isC hb5) A639 F640 rfl rfl) (fun _ q => nomatch q) (lenOf pd_28 rfl) rfl rfl rfl (fun v661 h662 s663 q664 => ?_)
    obtain ⟨rfl, rfl, rfl⟩ := q664
    show Go _ _ _ _ _ _ _ _ _ _ _ _ h633 [x610, x588, x101] 9 60 244 _ [(.int 1)]
    refine go_if_eq_f at_244 rfl (by decide) ?_
    refine go_iconst 1 at_247 rfl ?_
    refine go_goto (pt := 252) at_248 ?_
    refine go_retN (t := .boolean) at_252 [] rfl (by simp) (by decide) (by decide) (fun _ q => nomatch q) ?_
    decide
def elW (t : Term) : Nat → List Int32 → List Jvm.Cond
  | _, [] => []
  | i, v :: r => Jvm.Cond.eq (Term.elem t (Term.int (Int32.ofNat i))) (Term.int v) :: elW t (i + 1) r
theorem elW_at {t : Term} : ∀ (L : List Int32) (i j : Nat) (v : Int32), L[j]? = some v → Jvm.Cond.eq (Term.elem t (Term.int (Int32.ofNat (i + j)))) (Term.int v) ∈ elW t i L
  | [], _, _, _, h => by simp at h
  | x :: r, i, 0, v, h => by simp at h; subst h; exact List.mem_cons_self ..
  | x :: r, i, j + 1, v, h => by
    have := elW_at (t := t) r (i + 1) j v (by simpa using h)
    rw [show i + 1 + j = i + (j + 1) by omega] at this
    exact List.mem_cons_of_mem _ this
theorem tab_start {Z : State} {args : Array Value} {t : Term} {a : Addr} {ty : FieldType} {n : Int32} {L : List Int32} (hf : Fit Z) (ev : t.eval args Z none [] Z = some (.ref a)) (ha : (Jvm.Cond.arrayOf t ty).value args Z none Z [] = some true) (hl : (Jvm.Cond.eq (Term.length t) (Term.int n)).value args Z none Z [] = some true) (hn : n = Int32.ofNat L.length) (hL : L.length < 2147483648) (hw : ∀ d ∈ elW t 0 L, d.before args Z = true) (dv : Value) :
    ∃ k, Arv Z Z.heap a k ty n (L.map Value.int) dv := by
  obtain ⟨c, A⟩ := Arr.start ev ha
  have e1 := eqv_i (Term.int_eval n) hl
  obtain ⟨a', c', q1, q2, q3⟩ := Term.length_spec e1
  cases ev.symm.trans q1
  obtain ⟨g1, -⟩ := State.arrayAt?_spec q2
  cases A.1.symm.trans g1
  have hs : c.slots.size < 2 ^ 31 := by
    simp only [Term.eval, q1, Option.bind_eq_bind, Option.bind_some, q2] at e1
    by_cases hlt : c.slots.size < 2 ^ 31
    · exact hlt
    · rw [if_neg hlt] at e1; cases e1
  have h0 := len_toInt hs
  have e0 : c.slots.size.toInt32 = n := (Value.int.inj q3).symm
  have hz : c.slots.size = L.length := by rw [e0, hn, ofN_int hL] at h0; omega
  have B := arv_old hf A hs e0 (by rw [hn]; exact ofN_nneg hL) dv
  have el : c.slots.toList = L.map Value.int := by
    apply List.ext_getElem? 
    intro j
    by_cases hj : j < L.length
    · obtain ⟨v, hv⟩ : ∃ v, L[j]? = some v := ⟨_, List.getElem?_eq_getElem hj⟩
      have u := eqv_i (Term.int_eval v) (Cond.before_iff.mp (hw _ (elW_at (t := t) L 0 j v hv)))
      rw [Nat.zero_add, elem_f ev (Term.int_eval (Int32.ofNat j)) (A.fin (Vm.Alike.refl _)) (ofN_nneg (by omega)), ofN_cl (by omega)] at u
      rw [List.getElem?_map, hv, Array.getElem?_toList, u]; rfl
    · rw [List.getElem?_eq_none (by rw [Array.length_toList]; omega), List.getElem?_eq_none (by rw [List.length_map]; omega)]
  rw [el] at B
  exact ⟨_, B⟩
set_option maxRecDepth 65536 in
set_option maxHeartbeats 40000000 in
theorem comes_1 {Post : Tables → Env → Array Value → State → Outcome → State → Prop} (hpost : ∀ tb e args s v u, (limb_1_1.after args s (.returned v) u = true ∧ limb_1_2.after args s (.returned v) u = true ∧ True) → ReturnedEndW s (.returned v) u (Jvm.fieldLocs frame_1_writes args s ++ Jvm.arrayLocs frame_1_arrays args s ++ Jvm.staticLocs frame_1_statics s) 32 1216 → Post tb e args s (.returned v) u) :
    ArmFor flags0 classFile x code maxLocals ret World_1 tables_1 room_1 Calls_1 rest_1 Pre_1 Post := by
  intro l hfl _ _ p e ha hc hk s m args below hf hA hF happ hP
  obtain ⟨hcalls, hrest, hpre⟩ := hP
  obtain ⟨-, -, -, hnamed, -, -, -, hat⟩ := (Spec.applies_iff hf).mp happ
  obtain ⟨hg, hn⟩ := and_e (Cond.before_iff.mp (show (Jvm.Cond.and given_1 narrow_1).before args s = true from hpre))
  obtain ⟨hcount, hr_0⟩ := and_e hg
  obtain ⟨hk_0, hr_1⟩ := and_e hr_0
  have hk_1 := hr_1
  obtain ⟨w0, w1, rfl⟩ : ∃ w0 w1 : Value, args = #[w0, w1] := by
    have hs : args.size = 2 := by simpa [Cond.value, given_1] using hcount
    obtain ⟨L⟩ := args
    match L, hs with
    | [w0, w1], _ => exact ⟨w0, w1, rfl⟩
  have hw := fun d (hd : d ∈ tables_1) => atoms_spec (ws := Jvm.Cond.code x code maxLocals ret :: tables_1) hat d (List.mem_cons_of_mem _ hd)
  obtain ⟨hsets, hown0⟩ := atoms_of _ (rest_1_c_eq ▸ (show rest_1_c.before _ s = true from hrest))
  have hfit : Fit s := fun {y c} hc i hi => by
    obtain ⟨ha, rfl⟩ := Array.getElem?_eq_some_iff.mp hc
    have q := List.all_eq_true.mp ((Array.all_eq_true_iff_forall_mem.mp hF) _ (Array.getElem_mem ha)) i (List.mem_range.mpr hi)
    simpa [Array.getElem?_eq_getElem hi] using q
  obtain ⟨p0, e_0⟩ := is_v hk_0
  obtain rfl : w0 = (.int p0) := Option.some.inj e_0
  obtain ⟨p1, e_1⟩ := isL_v hk_1
  obtain rfl : w1 = (.long p1) := Option.some.inj e_1
  obtain ⟨cz, e_cz⟩ := is_v (Cond.before_iff.mp (hsets _ (List.mem_of_getElem? (i := 9) rfl)))
  have S_cs : Sta s s.heap "java/lang/String" "COMPACT_STRINGS" "Z" (.int cz) := Sta.start e_cz (Or.inl (hsets _ (List.mem_of_getElem? (i := 8) rfl)))
  have c_cs : ¬ (cz = (0 : Int32)) := gotF (Cond.eq_ints e_cz (Term.int_eval (0))) (not_v (Cond.before_iff.mp (hsets _ (List.mem_of_getElem? (i := 10) rfl))))
  obtain ⟨fv, e_fv, r_fv⟩ := isR_v (Cond.before_iff.mp (hsets _ (List.mem_of_getElem? (i := 16) rfl)))
  have S_fv : Sta s s.heap "jdk/internal/util/Preconditions" "SIOOBE_FORMATTER" "Ljava/util/function/BiFunction;" fv := Sta.start e_fv (Or.inl (hsets _ (List.mem_of_getElem? (i := 15) rfl)))
  obtain ⟨dc, e_dc⟩ := exa_v (Cond.before_iff.mp (hsets _ (List.mem_of_getElem? (i := 2) rfl)))
  have S_dc : Sta s s.heap "java/util/Base64$Decoder" "RFC4648" "Ljava/util/Base64$Decoder;" (.ref dc) := Sta.start e_dc (Or.inl (hsets _ (List.mem_of_getElem? (i := 1) rfl)))
  have X_dc : Exa s s.heap dc "java/util/Base64$Decoder" := Exa.start e_dc (Cond.before_iff.mp (hsets _ (List.mem_of_getElem? (i := 2) rfl)))
  have D1 : Fld s s.heap dc "java/util/Base64$Decoder" "isURL" "Z" (.int 0) := Fld.start ((fld_at e_dc).symm.trans (eqv_i (Term.int_eval 0) (Cond.before_iff.mp (hsets _ (List.mem_of_getElem? (i := 3) rfl)))))
  have D2 : Fld s s.heap dc "java/util/Base64$Decoder" "isMIME" "Z" (.int 0) := Fld.start ((fld_at e_dc).symm.trans (eqv_i (Term.int_eval 0) (Cond.before_iff.mp (hsets _ (List.mem_of_getElem? (i := 4) rfl)))))
  obtain ⟨is, e_is⟩ := exa_v (Cond.before_iff.mp (hsets _ (List.mem_of_getElem? (i := 7) rfl)))
  have S_is : Sta s s.heap "sun/nio/cs/ISO_8859_1" "INSTANCE" "Lsun/nio/cs/ISO_8859_1;" (.ref is) := Sta.start e_is (Or.inl (hsets _ (List.mem_of_getElem? (i := 6) rfl)))
  have X_is : Exa s s.heap is "sun/nio/cs/ISO_8859_1" := Exa.start e_is (Cond.before_iff.mp (hsets _ (List.mem_of_getElem? (i := 7) rfl)))
  obtain ⟨ut, e_ut⟩ := exa_v (Cond.before_iff.mp (hsets _ (List.mem_of_getElem? (i := 19) rfl)))
  have S_ut : Sta s s.heap "sun/nio/cs/UTF_8" "INSTANCE" "Lsun/nio/cs/UTF_8;" (.ref ut) := Sta.start e_ut (Or.inl (hsets _ (List.mem_of_getElem? (i := 18) rfl)))
  have X_ut : Exa s s.heap ut "sun/nio/cs/UTF_8" := Exa.start e_ut (Cond.before_iff.mp (hsets _ (List.mem_of_getElem? (i := 19) rfl)))
  obtain ⟨fb, e_fb⟩ := arr_v (Cond.before_iff.mp (hsets _ (List.mem_of_getElem? (i := 22) rfl)))
  have S_fb : Sta s s.heap "java/util/Base64$Decoder" "fromBase64" "[I" (.ref fb) := Sta.start e_fb (Or.inl (hsets _ (List.mem_of_getElem? (i := 21) rfl)))
  obtain ⟨kf, A_fb⟩ := tab_start (L := fbL) hfit e_fb (Cond.before_iff.mp (hsets _ (List.mem_of_getElem? (i := 22) rfl))) (Cond.before_iff.mp (hsets _ (List.mem_of_getElem? (i := 24) rfl))) (by decide) (by decide) (fun d hd => hsets d (List.mem_of_mem_drop (List.mem_of_mem_take ((show elW (Term.static "java/util/Base64$Decoder" "fromBase64" "[I") 0 fbL = (jdkStatics_1.drop 25).take 256 from rfl) ▸ hd)))) (.int 0)
  obtain ⟨ec, e_ec⟩ := exa_v (Cond.before_iff.mp (hsets _ (List.mem_of_getElem? (i := 283) rfl)))
  have S_ec : Sta s s.heap "java/util/Base64$Encoder" "RFC4648" "Ljava/util/Base64$Encoder;" (.ref ec) := Sta.start e_ec (Or.inl (hsets _ (List.mem_of_getElem? (i := 282) rfl)))
  have X_ec : Exa s s.heap ec "java/util/Base64$Encoder" := Exa.start e_ec (Cond.before_iff.mp (hsets _ (List.mem_of_getElem? (i := 283) rfl)))
  have E1 : Fld s s.heap ec "java/util/Base64$Encoder" "isURL" "Z" (.int 0) := Fld.start ((fld_at e_ec).symm.trans (eqv_i (Term.int_eval 0) (Cond.before_iff.mp (hsets _ (List.mem_of_getElem? (i := 284) rfl)))))
  have E3 : Fld s s.heap ec "java/util/Base64$Encoder" "linemax" "I" (.int (-1)) := Fld.start ((fld_at e_ec).symm.trans (eqv_i (Term.int_eval (-1)) (Cond.before_iff.mp (hsets _ (List.mem_of_getElem? (i := 286) rfl)))))
  have E4 : Fld s s.heap ec "java/util/Base64$Encoder" "doPadding" "Z" (.int 1) := Fld.start ((fld_at e_ec).symm.trans (eqv_i (Term.int_eval 1) (Cond.before_iff.mp (hsets _ (List.mem_of_getElem? (i := 287) rfl)))))
  obtain ⟨tb, e_tb⟩ := arr_v (Cond.before_iff.mp (hsets _ (List.mem_of_getElem? (i := 290) rfl)))
  have S_tb : Sta s s.heap "java/util/Base64$Encoder" "toBase64" "[C" (.ref tb) := Sta.start e_tb (Or.inl (hsets _ (List.mem_of_getElem? (i := 289) rfl)))
  obtain ⟨kt, A_tb⟩ := tab_start (L := tbL) hfit e_tb (Cond.before_iff.mp (hsets _ (List.mem_of_getElem? (i := 290) rfl))) (Cond.before_iff.mp (hsets _ (List.mem_of_getElem? (i := 292) rfl))) (by decide) (by decide) (fun d hd => hsets d (List.mem_of_mem_drop (List.mem_of_mem_take ((show elW (Term.static "java/util/Base64$Encoder" "toBase64" "[C") 0 tbL = (jdkStatics_1.drop 293).take 64 from rfl) ▸ hd)))) (.int 0)
  have hEW : EW s #[.int p0, .long p1] ELc := EW.cons (hw _ (List.mem_of_getElem? (i := 17) rfl)) (by decide) (EW.nil)
  have hCH : CHv s ELc s.vm s.heap := CHv.start hEW (fun q hq => hcalls.1 q hq) (hsets _ (List.mem_of_getElem? (i := 10) rfl)) (hw _ (List.mem_of_getElem? (i := 18) rfl)) (hw _ (List.mem_of_getElem? (i := 5) rfl))
  have hB : Base s #[.int p0, .long p1] := ⟨hw, hEW, ⟨cz, S_cs, c_cs⟩, ⟨fv, S_fv, r_fv⟩, ⟨dc, S_dc, X_dc, D1, D2⟩, ⟨is, S_is, X_is⟩, ⟨ut, S_ut, X_ut⟩, ⟨fb, kf, S_fb, A_fb⟩, ⟨ec, S_ec, X_ec, E1, E3, E4⟩, ⟨tb, kt, S_tb, A_tb⟩, trivial⟩
  obtain ⟨n, o, h1, h2, h3, v, L, sf', rfl, rfl, N, -, -, -, hq⟩ := c_law (l := l) (n0 := s.heap.size) hB tables_1 p0 p1 (h := s.heap) p e ha hc hk s m _ below hf ((Spec.applies_iff_loose hf).mp happ).1 ⟨rfl, State.Warmed39.refl s, rfl, hCH, OwnL.nil, Old.start s⟩ trivial
  refine ⟨n, _, h1, h2, h3, hpost _ _ _ _ _ _ ⟨Cond.after_iff.mpr rfl, Cond.after_iff.mpr (eq_i res_at (Term.int_eval (1)) rfl), trivial⟩ ⟨hq.1, hq.2.1, hq.2.2.1, (hq.2.2.2.sift fun y hy => Or.inr (N y hy)).mono (by decide) (by decide)⟩⟩
theorem main_1_1 : Claimed_1_1 := comes_1 fun _ _ _ _ _ _ h hF => ⟨h.1, hF⟩
theorem main_1_2 : Claimed_1_2 := comes_1 fun _ _ _ _ _ _ h hF => ⟨h.2.1, hF⟩
end Jvm.Pilot.@@N@@
namespace Jvm.Pilot.@@N@@
open Jvm Jvm.ClassFile Sem Op Lib Jvm.Free Jvm.Stand Jvm.Pilot.@@N@@.Jvm.D
/-! MADE BY PROGRAM (witnessworld.py) out of the Statement's table words and the real class files: 29 classes; the members and pool entries that the words name. The judged class is class 1, her method 4. -/
namespace start1
open Jvm.ClassFile
def u (s : String) : CpInfo := .utf8 (stringToUtf16 s)
/-- a pool by its gaps: so many unusable entries, then the entry; so many at the end -/
def gap : Nat → List CpInfo → List CpInfo
  | 0, r => r
  | n + 1, r => .unusable :: gap n r
def poolList (es : List (Nat × CpInfo)) (last : Nat) : List CpInfo := es.foldr (fun e r => gap e.1 (e.2 :: r)) (gap last [])
def pool (es : List (Nat × CpInfo)) (last : Nat) : Array CpInfo := ⟨poolList es last⟩
def fileOf (pool : Array CpInfo) (this : Nat) (attrs : Array Attribute := #[]) (ms : Array MethodInfo := #[]) (fl : Nat := 33) (sup : Nat := 0) (ifs : Array Nat := #[]) (fds : Array FieldInfo := #[]) : ClassFile where
  minorVersion := 0
  majorVersion := 65
  constantPool := pool
  accessFlags := fl
  thisClass := this
  superClass := sup
  interfaces := ifs
  fields := fds
  methods := ms
  attributes := attrs
def plain (name : String) (sup : Option ClassId) : Class where
  name := name
  kind := .ordinary
  loader := none
  accessFlags := 33
  super := sup
  interfaces := #[]
  cf := none
  fields := #[]
  methods := #[]
  instanceTypes := #[]
  staticTypes := #[]
  resolved := #[]
  callSites := []
  init := .initialized
  statics := none
  mirror := none

def pool0 : Array CpInfo := pool [(5, u "<init>"), (0, u "()V"), (1, .class_ 10), (1, u "java/lang/Object"), (85, u "clone"), (0, u "()Ljava/lang/Object;")] 26

def k0c0 : Code := { maxStack := 0, maxLocals := 1, code := object_method_1_code, exceptionTable := #[], attributes := #[] }
def k0m0 : Method := { name := "<init>", desc := "()V", sig := { parameters := [], returnType := none }, accessFlags := 1, code := some k0c0 }
def k0m1 : Method := { name := "clone", desc := "()Ljava/lang/Object;", sig := { parameters := [], returnType := some (.object "java/lang/Object") }, accessFlags := 260, code := none }
/-- java/lang/Object -/
def k0 : Class := { plain "java/lang/Object" none with
  accessFlags := 33
  interfaces := #[]
  cf := some (fileOf pool0 8 #[] #[{ accessFlags := 1, nameIndex := 5, descriptorIndex := 6, attributes := #[] }, { accessFlags := 260, nameIndex := 96, descriptorIndex := 97, attributes := #[] }] 33 0 #[] #[])
  fields := #[]
  methods := #[k0m0, k0m1]
  instanceTypes := #[]
  staticTypes := #[]
  resolved := Array.replicate 124 none
  statics := none }

def pool1 : Array CpInfo := pool [(2, .class_ 4), (1, u "java/lang/Object"), (0, u "<init>"), (0, u "()V"), (0, .methodref 8 9), (0, .class_ 10), (0, .nameAndType 11 12), (0, u "com/example/cardea/cardea/Base64TextDecodePinLaw"), (0, u "sym"), (0, u "(I)C"), (0, .integer 2147483647), (0, .long 255), (1, .methodref 8 17), (0, .nameAndType 18 19), (0, u "quad"), (0, u "([III[CI)V"), (0, .class_ 21), (0, u "java/lang/String"), (0, .methodref 20 23), (0, .nameAndType 5 24), (0, u "([C)V"), (0, .methodref 26 27), (0, .class_ 28), (0, .nameAndType 29 30), (0, u "com/example/cardea/cardea/Base64Text"), (0, u "decode"), (0, u "(Ljava/lang/String;)[B"), (0, .methodref 8 32), (0, .nameAndType 33 34), (0, u "at"), (0, u "([B[III)Z"), (7, u "law"), (0, u "(IJ)Z")] 4

def k1m0 : Method := { name := "<init>", desc := "()V", sig := { parameters := [], returnType := none }, accessFlags := 1, code := none }
def k1c1 : Code := { maxStack := 3, maxLocals := 2, code := method_2_code, exceptionTable := #[], attributes := #[] }
def k1m1 : Method := { name := "sym", desc := "(I)C", sig := { parameters := [.int], returnType := some .char }, accessFlags := 10, code := some k1c1 }
def k1c2 : Code := { maxStack := 4, maxLocals := 9, code := method_3_code, exceptionTable := #[], attributes := #[] }
def k1m2 : Method := { name := "quad", desc := "([III[CI)V", sig := { parameters := [(.array .int), .int, .int, (.array .char), .int], returnType := none }, accessFlags := 10, code := some k1c2 }
def k1c3 : Code := { maxStack := 3, maxLocals := 4, code := method_4_code, exceptionTable := #[], attributes := #[] }
def k1m3 : Method := { name := "at", desc := "([B[III)Z", sig := { parameters := [(.array .byte), (.array .int), .int, .int], returnType := some .boolean }, accessFlags := 10, code := some k1c3 }
def k1c4 : Code := { maxStack := 6, maxLocals := 7, code := code, exceptionTable := #[], attributes := #[] }
def k1m4 : Method := { name := "law", desc := "(IJ)Z", sig := { parameters := [.int, .long], returnType := some .boolean }, accessFlags := 9, code := some k1c4 }
/-- com/example/cardea/cardea/Base64TextDecodePinLaw -/
def k1 : Class := { plain "com/example/cardea/cardea/Base64TextDecodePinLaw" (some 0) with
  accessFlags := 49
  interfaces := #[]
  cf := some (fileOf pool1 8 #[] #[{ accessFlags := 1, nameIndex := 5, descriptorIndex := 6, attributes := #[] }, { accessFlags := 10, nameIndex := 11, descriptorIndex := 12, attributes := #[] }, { accessFlags := 10, nameIndex := 18, descriptorIndex := 19, attributes := #[] }, { accessFlags := 10, nameIndex := 33, descriptorIndex := 34, attributes := #[] }, { accessFlags := 9, nameIndex := 42, descriptorIndex := 43, attributes := #[] }] 49 2 #[] #[])
  fields := #[]
  methods := #[k1m0, k1m1, k1m2, k1m3, k1m4]
  instanceTypes := #[]
  staticTypes := #[]
  resolved := Array.replicate 48 none
  statics := none }

def pool2 : Array CpInfo := pool [(1, .class_ 2), (0, u "java/io/Serializable"), (0, .class_ 4), (0, u "java/lang/Object")] 2

/-- java/io/Serializable -/
def k2 : Class := { plain "java/io/Serializable" (some 0) with
  accessFlags := 1537
  interfaces := #[]
  cf := some (fileOf pool2 1 #[] #[] 1537 3 #[] #[])
  fields := #[]
  methods := #[]
  instanceTypes := #[]
  staticTypes := #[]
  resolved := Array.replicate 7 none
  statics := none }

def pool3 : Array CpInfo := pool [(1, .class_ 2), (0, u "java/lang/Comparable"), (0, .class_ 4), (0, u "java/lang/Object")] 7

/-- java/lang/Comparable -/
def k3 : Class := { plain "java/lang/Comparable" (some 0) with
  accessFlags := 1537
  interfaces := #[]
  cf := some (fileOf pool3 1 #[] #[] 1537 3 #[] #[])
  fields := #[]
  methods := #[]
  instanceTypes := #[]
  staticTypes := #[]
  resolved := Array.replicate 12 none
  statics := none }

def pool4 : Array CpInfo := pool [(2, .class_ 4), (1, u "java/lang/CharSequence"), (42, .class_ 48), (0, u "java/lang/CharSequence$1CodePointIterator"), (10, .class_ 60), (0, u "java/lang/CharSequence$1CharIterator"), (5, .class_ 67), (0, u "java/lang/Object")] 63

/-- java/lang/CharSequence -/
def k4 : Class := { plain "java/lang/CharSequence" (some 0) with
  accessFlags := 1537
  interfaces := #[]
  cf := some (fileOf pool4 2 #[.nestMembers #[47, 59]] #[] 1537 66 #[] #[])
  fields := #[]
  methods := #[]
  instanceTypes := #[]
  staticTypes := #[]
  resolved := Array.replicate 131 none
  statics := none }

def pool5 : Array CpInfo := pool [(1, .class_ 2), (0, u "java/lang/constant/Constable"), (0, .class_ 4), (0, u "java/lang/Object")] 6

/-- java/lang/constant/Constable -/
def k5 : Class := { plain "java/lang/constant/Constable" (some 0) with
  accessFlags := 1537
  interfaces := #[]
  cf := some (fileOf pool5 1 #[] #[] 1537 3 #[] #[])
  fields := #[]
  methods := #[]
  instanceTypes := #[]
  staticTypes := #[]
  resolved := Array.replicate 11 none
  statics := none }

def pool6 : Array CpInfo := pool [(1, .class_ 2), (0, u "java/lang/constant/ConstantDesc"), (0, .class_ 4), (0, u "java/lang/Object")] 32

/-- java/lang/constant/ConstantDesc -/
def k6 : Class := { plain "java/lang/constant/ConstantDesc" (some 0) with
  accessFlags := 1537
  interfaces := #[]
  cf := some (fileOf pool6 1 #[] #[] 1537 3 #[] #[])
  fields := #[]
  methods := #[]
  instanceTypes := #[]
  staticTypes := #[]
  resolved := Array.replicate 37 none
  statics := none }

def pool7 : Array CpInfo := pool [(1, .methodref 2 3), (0, .class_ 4), (0, .nameAndType 5 6), (0, u "java/lang/Object"), (0, u "<init>"), (0, u "()V"), (0, .string 8), (0, u ""), (0, .fieldref 10 11), (0, .class_ 12), (0, .nameAndType 13 14), (0, u "java/lang/String"), (0, u "value"), (0, u "[B"), (0, .fieldref 10 16), (0, .nameAndType 17 18), (0, u "coder"), (0, u "B"), (2, u "hash"), (0, u "I"), (2, u "hashIsZero"), (0, u "Z"), (0, .methodref 10 28), (0, .nameAndType 5 29), (0, u "([CIILjava/lang/Void;)V"), (4, .methodref 10 35), (0, .nameAndType 36 37), (0, u "checkBoundsOffCount"), (0, u "(III)I"), (0, .fieldref 10 39), (0, .nameAndType 40 26), (0, u "COMPACT_STRINGS"), (1, .class_ 44), (1, u "java/lang/StringUTF16"), (0, u "compress"), (1, .methodref 42 48), (0, .nameAndType 49 50), (0, u "coderFromArrayLen"), (0, u "([BI)B"), (3, .methodref 55 56), (0, .class_ 57), (0, .nameAndType 58 59), (0, u "java/util/Arrays"), (0, u "copyOfRange"), (0, u "([BII)[B"), (10, u "([BIII)V"), (15, .fieldref 87 88), (0, .class_ 89), (0, .nameAndType 90 91), (0, u "sun/nio/cs/UTF_8"), (0, u "INSTANCE"), (0, u "Lsun/nio/cs/UTF_8;"), (15, .class_ 109), (1, u "java/lang/StringLatin1"), (6, .fieldref 117 118), (0, .class_ 119), (0, .nameAndType 90 120), (0, u "sun/nio/cs/ISO_8859_1"), (0, u "Lsun/nio/cs/ISO_8859_1;"), (56, .methodref 42 178), (0, .nameAndType 45 179), (0, u "([CII)[B"), (75, u "(B[BZ)[B"), (0, .methodref 10 257), (0, .nameAndType 258 259), (0, u "encode8859_1"), (0, u "(B[B)[B"), (19, .methodref 280 281), (0, .class_ 14), (0, .nameAndType 282 283), (0, u "clone"), (0, u "()Ljava/lang/Object;"), (33, u "encode"), (17, .methodref 10 336), (0, .nameAndType 17 337), (0, u "()B"), (13, .methodref 10 352), (0, .nameAndType 258 255), (179, u "getBytes"), (2, .methodref 10 536), (0, .nameAndType 317 537), (0, u "(Ljava/nio/charset/Charset;B[B)[B"), (3, .methodref 107 542), (0, .nameAndType 543 544), (0, u "equals"), (0, u "([B[B)Z"), (28, u "(Ljava/lang/Object;)Z"), (1, .class_ 576), (0, u "java/lang/CharSequence"), (22, u "CASE_INSENSITIVE_ORDER"), (0, u "Ljava/util/Comparator;"), (409, u "([C)V"), (42, .fieldref 1054 1055), (0, .class_ 1056), (0, .nameAndType 1057 1058), (0, u "jdk/internal/util/Preconditions"), (0, u "SIOOBE_FORMATTER"), (0, u "Ljava/util/function/BiFunction;"), (5, u "(IIILjava/util/function/BiFunction;)I"), (0, .methodref 1054 1066), (0, .nameAndType 1067 1064), (0, u "checkFromIndexSize"), (33, u "serialPersistentFields"), (0, u "[Ljava/io/ObjectStreamField;"), (0, .class_ 1104), (0, u "java/lang/String$CaseInsensitiveComparator"), (1, .class_ 1107), (0, u "java/io/Serializable"), (0, .class_ 1109), (0, u "java/lang/Comparable"), (0, .class_ 1111), (0, u "java/lang/constant/Constable"), (0, .class_ 1113), (0, u "java/lang/constant/ConstantDesc"), (2, u "serialVersionUID"), (0, u "J"), (3, u "REPL"), (0, u "C"), (2, u "LATIN1"), (1, u "UTF16"), (117, u "(Ljava/nio/charset/Charset;)[B")] 205

def k7m0 : Method := { name := "<init>", desc := "()V", sig := { parameters := [], returnType := none }, accessFlags := 1, code := none }
def k7c1 : Code := { maxStack := 5, maxLocals := 2, code := jdk_42_method_3_code, exceptionTable := #[], attributes := #[] }
def k7m1 : Method := { name := "<init>", desc := "([C)V", sig := { parameters := [(.array .char)], returnType := none }, accessFlags := 1, code := some k7c1 }
def k7c2 : Code := { maxStack := 5, maxLocals := 7, code := jdk_42_method_7_code, exceptionTable := #[], attributes := #[] }
def k7m2 : Method := { name := "<init>", desc := "([BIII)V", sig := { parameters := [(.array .byte), .int, .int, .int], returnType := none }, accessFlags := 1, code := some k7c2 }
def k7c3 : Code := { maxStack := 4, maxLocals := 3, code := jdk_42_method_18_code, exceptionTable := #[], attributes := #[] }
def k7m3 : Method := { name := "encode", desc := "(Ljava/nio/charset/Charset;B[B)[B", sig := { parameters := [(.object "java/nio/charset/Charset"), .byte, (.array .byte)], returnType := some (.array .byte) }, accessFlags := 10, code := some k7c3 }
def k7c4 : Code := { maxStack := 3, maxLocals := 2, code := jdk_42_method_26_code, exceptionTable := #[], attributes := #[] }
def k7m4 : Method := { name := "encode8859_1", desc := "(B[B)[B", sig := { parameters := [.byte, (.array .byte)], returnType := some (.array .byte) }, accessFlags := 10, code := some k7c4 }
def k7c5 : Code := { maxStack := 5, maxLocals := 10, code := jdk_42_method_27_code, exceptionTable := #[], attributes := #[] }
def k7m5 : Method := { name := "encode8859_1", desc := "(B[BZ)[B", sig := { parameters := [.byte, (.array .byte), .boolean], returnType := some (.array .byte) }, accessFlags := 10, code := some k7c5 }
def k7c6 : Code := { maxStack := 3, maxLocals := 2, code := jdk_42_method_64_code, exceptionTable := #[], attributes := #[] }
def k7m6 : Method := { name := "getBytes", desc := "(Ljava/nio/charset/Charset;)[B", sig := { parameters := [(.object "java/nio/charset/Charset")], returnType := some (.array .byte) }, accessFlags := 1, code := some k7c6 }
def k7c7 : Code := { maxStack := 2, maxLocals := 3, code := jdk_42_method_66_code, exceptionTable := #[], attributes := #[] }
def k7m7 : Method := { name := "equals", desc := "(Ljava/lang/Object;)Z", sig := { parameters := [(.object "java/lang/Object")], returnType := some .boolean }, accessFlags := 1, code := some k7c7 }
def k7c8 : Code := { maxStack := 4, maxLocals := 6, code := jdk_42_method_149_code, exceptionTable := #[], attributes := #[] }
def k7m8 : Method := { name := "<init>", desc := "([CIILjava/lang/Void;)V", sig := { parameters := [(.array .char), .int, .int, (.object "java/lang/Void")], returnType := none }, accessFlags := 2, code := some k7c8 }
def k7c9 : Code := { maxStack := 1, maxLocals := 1, code := jdk_42_method_152_code, exceptionTable := #[], attributes := #[] }
def k7m9 : Method := { name := "coder", desc := "()B", sig := { parameters := [], returnType := some .byte }, accessFlags := 0, code := some k7c9 }
def k7c10 : Code := { maxStack := 4, maxLocals := 3, code := jdk_42_method_157_code, exceptionTable := #[], attributes := #[] }
def k7m10 : Method := { name := "checkBoundsOffCount", desc := "(III)I", sig := { parameters := [.int, .int, .int], returnType := some .int }, accessFlags := 8, code := some k7c10 }
/-- java/lang/String -/
def k7 : Class := { plain "java/lang/String" (some 0) with
  accessFlags := 49
  interfaces := #[2, 3, 4, 5, 6]
  cf := some (fileOf pool7 10 #[.nestMembers #[1103]] #[{ accessFlags := 1, nameIndex := 5, descriptorIndex := 6, attributes := #[] }, { accessFlags := 1, nameIndex := 5, descriptorIndex := 1010, attributes := #[] }, { accessFlags := 1, nameIndex := 5, descriptorIndex := 70, attributes := #[] }, { accessFlags := 10, nameIndex := 317, descriptorIndex := 537, attributes := #[] }, { accessFlags := 10, nameIndex := 258, descriptorIndex := 259, attributes := #[] }, { accessFlags := 10, nameIndex := 258, descriptorIndex := 255, attributes := #[] }, { accessFlags := 1, nameIndex := 532, descriptorIndex := 1245, attributes := #[] }, { accessFlags := 1, nameIndex := 543, descriptorIndex := 573, attributes := #[] }, { accessFlags := 2, nameIndex := 5, descriptorIndex := 29, attributes := #[] }, { accessFlags := 0, nameIndex := 17, descriptorIndex := 337, attributes := #[] }, { accessFlags := 8, nameIndex := 36, descriptorIndex := 37, attributes := #[] }] 49 2 #[1106, 1108, 575, 1110, 1112] #[{ accessFlags := 18, nameIndex := 13, descriptorIndex := 14, attributes := #[] }, { accessFlags := 18, nameIndex := 17, descriptorIndex := 18, attributes := #[] }, { accessFlags := 2, nameIndex := 21, descriptorIndex := 22, attributes := #[] }, { accessFlags := 2, nameIndex := 25, descriptorIndex := 26, attributes := #[] }, { accessFlags := 26, nameIndex := 1116, descriptorIndex := 1117, attributes := #[] }, { accessFlags := 24, nameIndex := 40, descriptorIndex := 26, attributes := #[] }, { accessFlags := 26, nameIndex := 1101, descriptorIndex := 1102, attributes := #[] }, { accessFlags := 26, nameIndex := 1121, descriptorIndex := 1122, attributes := #[] }, { accessFlags := 25, nameIndex := 599, descriptorIndex := 600, attributes := #[] }, { accessFlags := 24, nameIndex := 1125, descriptorIndex := 18, attributes := #[] }, { accessFlags := 24, nameIndex := 1127, descriptorIndex := 18, attributes := #[] }])
  fields := #[{ name := "value", type := (.array .byte), accessFlags := 18, slot := 0, constantValue := 0 }, { name := "coder", type := .byte, accessFlags := 18, slot := 1, constantValue := 0 }, { name := "hash", type := .int, accessFlags := 2, slot := 2, constantValue := 0 }, { name := "hashIsZero", type := .boolean, accessFlags := 2, slot := 3, constantValue := 0 }, { name := "serialVersionUID", type := .long, accessFlags := 26, slot := 0, constantValue := 0 }, { name := "COMPACT_STRINGS", type := .boolean, accessFlags := 24, slot := 1, constantValue := 0 }, { name := "serialPersistentFields", type := (.array (.object "java/io/ObjectStreamField")), accessFlags := 26, slot := 2, constantValue := 0 }, { name := "REPL", type := .char, accessFlags := 26, slot := 3, constantValue := 0 }, { name := "CASE_INSENSITIVE_ORDER", type := (.object "java/util/Comparator"), accessFlags := 25, slot := 4, constantValue := 0 }, { name := "LATIN1", type := .byte, accessFlags := 24, slot := 5, constantValue := 0 }, { name := "UTF16", type := .byte, accessFlags := 24, slot := 6, constantValue := 0 }]
  methods := #[k7m0, k7m1, k7m2, k7m3, k7m4, k7m5, k7m6, k7m7, k7m8, k7m9, k7m10]
  instanceTypes := #[(.array .byte), .byte, .int, .boolean]
  staticTypes := #[.long, .boolean, (.array (.object "java/io/ObjectStreamField")), .char, (.object "java/util/Comparator"), .byte, .byte]
  resolved := Array.replicate 1451 none
  statics := some 0 }

def pool8 : Array CpInfo := pool [(2, .class_ 4), (1, u "java/lang/Object"), (0, u "<init>"), (0, u "()V"), (0, .methodref 8 9), (0, .class_ 10), (0, .nameAndType 11 12), (0, u "java/util/Base64"), (0, u "getEncoder"), (0, u "()Ljava/util/Base64$Encoder;"), (0, .methodref 14 15), (0, .class_ 16), (0, .nameAndType 17 18), (0, u "java/util/Base64$Encoder"), (0, u "encodeToString"), (0, u "([B)Ljava/lang/String;"), (0, .methodref 8 20), (0, .nameAndType 21 22), (0, u "getDecoder"), (0, u "()Ljava/util/Base64$Decoder;"), (0, .methodref 24 25), (0, .class_ 26), (0, .nameAndType 27 28), (0, u "java/util/Base64$Decoder"), (0, u "decode"), (0, u "(Ljava/lang/String;)[B"), (7, .methodref 37 38), (0, .class_ 39), (0, .nameAndType 40 18), (0, u "com/example/cardea/cardea/Base64Text"), (0, u "encode"), (0, .methodref 42 43), (0, .class_ 44), (0, .nameAndType 45 46), (0, u "java/lang/String"), (0, u "equals"), (0, u "(Ljava/lang/Object;)Z")] 12

def k8m0 : Method := { name := "<init>", desc := "()V", sig := { parameters := [], returnType := none }, accessFlags := 2, code := none }
def k8c1 : Code := { maxStack := 2, maxLocals := 1, code := prog_2_method_2_code, exceptionTable := #[], attributes := #[] }
def k8m1 : Method := { name := "encode", desc := "([B)Ljava/lang/String;", sig := { parameters := [(.array .byte)], returnType := some (.object "java/lang/String") }, accessFlags := 9, code := some k8c1 }
def k8c2 : Code := { maxStack := 3, maxLocals := 3, code := prog_2_method_3_code, exceptionTable := #[{ startPc := 0, endPc := 8, handlerPc := 11, catchType := 29 }], attributes := #[] }
def k8m2 : Method := { name := "decode", desc := "(Ljava/lang/String;)[B", sig := { parameters := [(.object "java/lang/String")], returnType := some (.array .byte) }, accessFlags := 9, code := some k8c2 }
/-- com/example/cardea/cardea/Base64Text -/
def k8 : Class := { plain "com/example/cardea/cardea/Base64Text" (some 0) with
  accessFlags := 49
  interfaces := #[]
  cf := some (fileOf pool8 37 #[] #[{ accessFlags := 2, nameIndex := 5, descriptorIndex := 6, attributes := #[] }, { accessFlags := 9, nameIndex := 40, descriptorIndex := 18, attributes := #[] }, { accessFlags := 9, nameIndex := 27, descriptorIndex := 28, attributes := #[] }] 49 2 #[] #[])
  fields := #[]
  methods := #[k8m0, k8m1, k8m2]
  instanceTypes := #[]
  staticTypes := #[]
  resolved := Array.replicate 59 none
  statics := none }

def pool9 : Array CpInfo := pool [(2, .class_ 4), (1, u "java/lang/Object"), (0, u "<init>"), (0, u "()V"), (0, .fieldref 8 9), (0, .class_ 10), (0, .nameAndType 11 12), (0, u "java/util/Base64$Encoder"), (0, u "RFC4648"), (0, u "Ljava/util/Base64$Encoder;"), (13, .class_ 28), (1, u "java/util/Base64$Decoder"), (28, .fieldref 26 58), (0, .nameAndType 11 59), (0, u "Ljava/util/Base64$Decoder;"), (4, .class_ 65), (0, u "java/util/Base64"), (5, u "getEncoder"), (0, u "()Ljava/util/Base64$Encoder;"), (13, u "getDecoder"), (0, u "()Ljava/util/Base64$Decoder;"), (5, .class_ 94), (0, u "java/util/Base64$DecInputStream"), (0, .class_ 96), (0, u "java/util/Base64$EncOutputStream")] 5

def k9m0 : Method := { name := "<init>", desc := "()V", sig := { parameters := [], returnType := none }, accessFlags := 2, code := none }
def k9c1 : Code := { maxStack := 1, maxLocals := 0, code := jdk_2448_method_2_code, exceptionTable := #[], attributes := #[] }
def k9m1 : Method := { name := "getEncoder", desc := "()Ljava/util/Base64$Encoder;", sig := { parameters := [], returnType := some (.object "java/util/Base64$Encoder") }, accessFlags := 9, code := some k9c1 }
def k9c2 : Code := { maxStack := 1, maxLocals := 0, code := jdk_2448_method_6_code, exceptionTable := #[], attributes := #[] }
def k9m2 : Method := { name := "getDecoder", desc := "()Ljava/util/Base64$Decoder;", sig := { parameters := [], returnType := some (.object "java/util/Base64$Decoder") }, accessFlags := 9, code := some k9c2 }
/-- java/util/Base64 -/
def k9 : Class := { plain "java/util/Base64" (some 0) with
  accessFlags := 33
  interfaces := #[]
  cf := some (fileOf pool9 64 #[.nestMembers #[93, 95, 26, 8]] #[{ accessFlags := 2, nameIndex := 5, descriptorIndex := 6, attributes := #[] }, { accessFlags := 9, nameIndex := 71, descriptorIndex := 72, attributes := #[] }, { accessFlags := 9, nameIndex := 86, descriptorIndex := 87, attributes := #[] }] 33 2 #[] #[])
  fields := #[]
  methods := #[k9m0, k9m1, k9m2]
  instanceTypes := #[]
  staticTypes := #[]
  resolved := Array.replicate 102 none
  statics := none }

def pool10 : Array CpInfo := pool [(2, .class_ 4), (1, u "java/lang/Object"), (2, .fieldref 8 9), (0, .class_ 10), (0, .nameAndType 11 12), (0, u "java/util/Base64$Decoder"), (0, u "isURL"), (0, u "Z"), (0, .fieldref 8 14), (0, .nameAndType 15 12), (0, u "isMIME"), (0, .methodref 8 17), (0, .nameAndType 18 19), (0, u "decodedOutLength"), (0, u "([BII)I"), (0, .methodref 8 21), (0, .nameAndType 22 23), (0, u "decode0"), (0, u "([BII[B)I"), (6, .fieldref 31 32), (0, .class_ 33), (0, .nameAndType 34 35), (0, u "sun/nio/cs/ISO_8859_1"), (0, u "INSTANCE"), (0, u "Lsun/nio/cs/ISO_8859_1;"), (0, .methodref 37 38), (0, .class_ 39), (0, .nameAndType 40 41), (0, u "java/lang/String"), (0, u "getBytes"), (0, u "(Ljava/nio/charset/Charset;)[B"), (0, .methodref 8 43), (0, .nameAndType 44 45), (0, u "decode"), (0, u "([B)[B"), (51, u "fromBase64URL"), (0, u "[I"), (0, .fieldref 8 100), (0, .nameAndType 101 98), (0, u "fromBase64"), (5, .long 3), (1, .long 4), (1, .methodref 8 112), (0, .nameAndType 113 114), (0, u "decodeBlock"), (0, u "([BII[BIZZ)I"), (45, u "RFC4648"), (0, u "Ljava/util/Base64$Decoder;"), (2, u "RFC4648_URLSAFE"), (2, u "RFC2045"), (11, u "(Ljava/lang/String;)[B"), (40, .class_ 221), (0, u "java/util/Base64")] 4

def k10c0 : Code := { maxStack := 5, maxLocals := 4, code := jdk_2450_method_2_code, exceptionTable := #[], attributes := #[] }
def k10m0 : Method := { name := "decode", desc := "([B)[B", sig := { parameters := [(.array .byte)], returnType := some (.array .byte) }, accessFlags := 1, code := some k10c0 }
def k10c1 : Code := { maxStack := 3, maxLocals := 2, code := jdk_2450_method_3_code, exceptionTable := #[], attributes := #[] }
def k10m1 : Method := { name := "decode", desc := "(Ljava/lang/String;)[B", sig := { parameters := [(.object "java/lang/String")], returnType := some (.array .byte) }, accessFlags := 1, code := some k10c1 }
def k10c2 : Code := { maxStack := 5, maxLocals := 9, code := jdk_2450_method_7_code, exceptionTable := #[], attributes := #[] }
def k10m2 : Method := { name := "decodedOutLength", desc := "([BII)I", sig := { parameters := [(.array .byte), .int, .int], returnType := some .int }, accessFlags := 2, code := some k10c2 }
def k10c3 : Code := { maxStack := 4, maxLocals := 16, code := jdk_2450_method_8_code, exceptionTable := #[], attributes := #[] }
def k10m3 : Method := { name := "decodeBlock", desc := "([BII[BIZZ)I", sig := { parameters := [(.array .byte), .int, .int, (.array .byte), .int, .boolean, .boolean], returnType := some .int }, accessFlags := 2, code := some k10c3 }
def k10c4 : Code := { maxStack := 8, maxLocals := 11, code := jdk_2450_method_9_code, exceptionTable := #[], attributes := #[] }
def k10m4 : Method := { name := "decode0", desc := "([BII[B)I", sig := { parameters := [(.array .byte), .int, .int, (.array .byte)], returnType := some .int }, accessFlags := 2, code := some k10c4 }
/-- java/util/Base64$Decoder -/
def k10 : Class := { plain "java/util/Base64$Decoder" (some 0) with
  accessFlags := 33
  interfaces := #[]
  cf := some (fileOf pool10 8 #[.nestHost 220] #[{ accessFlags := 1, nameIndex := 44, descriptorIndex := 45, attributes := #[] }, { accessFlags := 1, nameIndex := 44, descriptorIndex := 179, attributes := #[] }, { accessFlags := 2, nameIndex := 18, descriptorIndex := 19, attributes := #[] }, { accessFlags := 2, nameIndex := 113, descriptorIndex := 114, attributes := #[] }, { accessFlags := 2, nameIndex := 22, descriptorIndex := 23, attributes := #[] }] 33 2 #[] #[{ accessFlags := 18, nameIndex := 11, descriptorIndex := 12, attributes := #[] }, { accessFlags := 18, nameIndex := 15, descriptorIndex := 12, attributes := #[] }, { accessFlags := 26, nameIndex := 101, descriptorIndex := 98, attributes := #[] }, { accessFlags := 26, nameIndex := 97, descriptorIndex := 98, attributes := #[] }, { accessFlags := 24, nameIndex := 160, descriptorIndex := 161, attributes := #[] }, { accessFlags := 24, nameIndex := 164, descriptorIndex := 161, attributes := #[] }, { accessFlags := 24, nameIndex := 167, descriptorIndex := 161, attributes := #[] }])
  fields := #[{ name := "isURL", type := .boolean, accessFlags := 18, slot := 0, constantValue := 0 }, { name := "isMIME", type := .boolean, accessFlags := 18, slot := 1, constantValue := 0 }, { name := "fromBase64", type := (.array .int), accessFlags := 26, slot := 0, constantValue := 0 }, { name := "fromBase64URL", type := (.array .int), accessFlags := 26, slot := 1, constantValue := 0 }, { name := "RFC4648", type := (.object "java/util/Base64$Decoder"), accessFlags := 24, slot := 2, constantValue := 0 }, { name := "RFC4648_URLSAFE", type := (.object "java/util/Base64$Decoder"), accessFlags := 24, slot := 3, constantValue := 0 }, { name := "RFC2045", type := (.object "java/util/Base64$Decoder"), accessFlags := 24, slot := 4, constantValue := 0 }]
  methods := #[k10m0, k10m1, k10m2, k10m3, k10m4]
  instanceTypes := #[.boolean, .boolean]
  staticTypes := #[(.array .int), (.array .int), (.object "java/util/Base64$Decoder"), (.object "java/util/Base64$Decoder"), (.object "java/util/Base64$Decoder")]
  resolved := Array.replicate 226 none
  statics := some 1 }

def pool11 : Array CpInfo := pool [(18, .class_ 20), (1, u "java/nio/charset/Charset"), (0, u "cache1"), (0, u "[Ljava/lang/Object;"), (2, u "cache2"), (0, .class_ 27), (0, u "java/lang/Object"), (0, .class_ 29), (0, u "java/nio/charset/Charset$1"), (4, .class_ 36), (1, u "java/nio/charset/Charset$ThreadTrackHolder"), (21, .class_ 59), (0, u "java/nio/charset/Charset$2"), (11, .class_ 73), (1, u "java/nio/charset/Charset$ExtendedProviderHolder"), (22, u "standardProvider"), (0, u "Ljava/nio/charset/spi/CharsetProvider;"), (29, u "name"), (7, .class_ 136), (0, u "java/nio/charset/Charset$3"), (5, u "defaultCharset"), (0, u "Ljava/nio/charset/Charset;"), (14, u "zeroAliases"), (0, u "[Ljava/lang/String;"), (29, u "Ljava/lang/String;"), (2, u "aliases"), (2, u "aliasSet"), (0, u "Ljava/util/Set;"), (82, .class_ 280), (0, u "java/lang/Comparable"), (84, .class_ 366), (0, u "java/nio/charset/Charset$ExtendedProviderHolder$1")] 3

/-- java/nio/charset/Charset -/
def k11 : Class := { plain "java/nio/charset/Charset" (some 0) with
  accessFlags := 1057
  interfaces := #[3]
  cf := some (fileOf pool11 18 #[.nestMembers #[71, 365, 34, 135, 58, 28]] #[] 1057 26 #[279] #[{ accessFlags := 26, nameIndex := 96, descriptorIndex := 97, attributes := #[] }, { accessFlags := 26, nameIndex := 158, descriptorIndex := 159, attributes := #[] }, { accessFlags := 74, nameIndex := 21, descriptorIndex := 22, attributes := #[] }, { accessFlags := 74, nameIndex := 25, descriptorIndex := 22, attributes := #[] }, { accessFlags := 10, nameIndex := 142, descriptorIndex := 143, attributes := #[] }, { accessFlags := 18, nameIndex := 127, descriptorIndex := 189, attributes := #[] }, { accessFlags := 18, nameIndex := 192, descriptorIndex := 159, attributes := #[] }, { accessFlags := 2, nameIndex := 195, descriptorIndex := 196, attributes := #[] }])
  fields := #[{ name := "standardProvider", type := (.object "java/nio/charset/spi/CharsetProvider"), accessFlags := 26, slot := 0, constantValue := 0 }, { name := "zeroAliases", type := (.array (.object "java/lang/String")), accessFlags := 26, slot := 1, constantValue := 0 }, { name := "cache1", type := (.array (.object "java/lang/Object")), accessFlags := 74, slot := 2, constantValue := 0 }, { name := "cache2", type := (.array (.object "java/lang/Object")), accessFlags := 74, slot := 3, constantValue := 0 }, { name := "defaultCharset", type := (.object "java/nio/charset/Charset"), accessFlags := 10, slot := 4, constantValue := 0 }, { name := "name", type := (.object "java/lang/String"), accessFlags := 18, slot := 0, constantValue := 0 }, { name := "aliases", type := (.array (.object "java/lang/String")), accessFlags := 18, slot := 1, constantValue := 0 }, { name := "aliasSet", type := (.object "java/util/Set"), accessFlags := 2, slot := 2, constantValue := 0 }]
  methods := #[]
  instanceTypes := #[(.object "java/lang/String"), (.array (.object "java/lang/String")), (.object "java/util/Set")]
  staticTypes := #[(.object "java/nio/charset/spi/CharsetProvider"), (.array (.object "java/lang/String")), (.array (.object "java/lang/Object")), (.array (.object "java/lang/Object")), (.object "java/nio/charset/Charset")]
  resolved := Array.replicate 370 none
  statics := none }

def pool12 : Array CpInfo := pool [(1, .class_ 2), (0, u "sun/nio/cs/HistoricallyNamedCharset"), (0, .class_ 4), (0, u "java/lang/Object")] 4

/-- sun/nio/cs/HistoricallyNamedCharset -/
def k12 : Class := { plain "sun/nio/cs/HistoricallyNamedCharset" (some 0) with
  accessFlags := 1537
  interfaces := #[]
  cf := some (fileOf pool12 1 #[] #[] 1537 3 #[] #[])
  fields := #[]
  methods := #[]
  instanceTypes := #[]
  staticTypes := #[]
  resolved := Array.replicate 9 none
  statics := none }

def pool13 : Array CpInfo := pool [(10, .class_ 12), (1, u "java/nio/charset/Charset"), (0, u "<init>"), (5, .class_ 20), (0, u "sun/nio/cs/ISO_8859_1"), (0, .class_ 22), (0, u "sun/nio/cs/ISO_8859_1$Decoder"), (3, .class_ 27), (0, u "sun/nio/cs/ISO_8859_1$Encoder"), (3, u "()V"), (2, u "INSTANCE"), (0, u "Lsun/nio/cs/ISO_8859_1;"), (0, .class_ 37), (0, u "sun/nio/cs/HistoricallyNamedCharset")] 22

def k13m0 : Method := { name := "<init>", desc := "()V", sig := { parameters := [], returnType := none }, accessFlags := 1, code := none }
/-- sun/nio/cs/ISO_8859_1 -/
def k13 : Class := { plain "sun/nio/cs/ISO_8859_1" (some 11) with
  accessFlags := 33
  interfaces := #[12]
  cf := some (fileOf pool13 19 #[.nestMembers #[26, 21]] #[{ accessFlags := 1, nameIndex := 13, descriptorIndex := 31, attributes := #[] }] 33 10 #[36] #[{ accessFlags := 25, nameIndex := 34, descriptorIndex := 35, attributes := #[] }])
  fields := #[{ name := "INSTANCE", type := (.object "sun/nio/cs/ISO_8859_1"), accessFlags := 25, slot := 0, constantValue := 0 }]
  methods := #[k13m0]
  instanceTypes := #[(.object "java/lang/String"), (.array (.object "java/lang/String")), (.object "java/util/Set")]
  staticTypes := #[(.object "sun/nio/cs/ISO_8859_1")]
  resolved := Array.replicate 60 none
  statics := some 2 }

def pool14 : Array CpInfo := pool [(2, .class_ 4), (1, u "java/nio/charset/Charset"), (130, .class_ 136), (0, u "sun/nio/cs/Unicode"), (0, .class_ 138), (0, u "sun/nio/cs/HistoricallyNamedCharset")] 15

/-- sun/nio/cs/Unicode -/
def k14 : Class := { plain "sun/nio/cs/Unicode" (some 11) with
  accessFlags := 1056
  interfaces := #[12]
  cf := some (fileOf pool14 135 #[] #[] 1056 2 #[137] #[])
  fields := #[]
  methods := #[]
  instanceTypes := #[(.object "java/lang/String"), (.array (.object "java/lang/String")), (.object "java/util/Set")]
  staticTypes := #[]
  resolved := Array.replicate 154 none
  statics := none }

def pool15 : Array CpInfo := pool [(10, .class_ 12), (1, u "sun/nio/cs/Unicode"), (0, u "<init>"), (3, .class_ 18), (0, u "sun/nio/cs/UTF_8$Decoder"), (3, .class_ 23), (0, u "sun/nio/cs/UTF_8$Encoder"), (15, .class_ 40), (0, u "sun/nio/cs/UTF_8"), (2, u "()V"), (2, u "INSTANCE"), (0, u "Lsun/nio/cs/UTF_8;"), (8, u "JLA"), (0, u "Ljdk/internal/access/JavaLangAccess;")] 26

def k15m0 : Method := { name := "<init>", desc := "()V", sig := { parameters := [], returnType := none }, accessFlags := 1, code := none }
/-- sun/nio/cs/UTF_8 -/
def k15 : Class := { plain "sun/nio/cs/UTF_8" (some 14) with
  accessFlags := 49
  interfaces := #[]
  cf := some (fileOf pool15 39 #[.nestMembers #[22, 17]] #[{ accessFlags := 1, nameIndex := 13, descriptorIndex := 43, attributes := #[] }] 49 10 #[] #[{ accessFlags := 25, nameIndex := 46, descriptorIndex := 47, attributes := #[] }, { accessFlags := 26, nameIndex := 56, descriptorIndex := 57, attributes := #[] }])
  fields := #[{ name := "INSTANCE", type := (.object "sun/nio/cs/UTF_8"), accessFlags := 25, slot := 0, constantValue := 0 }, { name := "JLA", type := (.object "jdk/internal/access/JavaLangAccess"), accessFlags := 26, slot := 1, constantValue := 0 }]
  methods := #[k15m0]
  instanceTypes := #[(.object "java/lang/String"), (.array (.object "java/lang/String")), (.object "java/util/Set")]
  staticTypes := #[(.object "sun/nio/cs/UTF_8"), (.object "jdk/internal/access/JavaLangAccess")]
  resolved := Array.replicate 84 none
  statics := some 3 }

def pool16 : Array CpInfo := pool [(1, .class_ 2), (0, u "java/lang/Cloneable"), (0, .class_ 4), (0, u "java/lang/Object")] 2

/-- java/lang/Cloneable -/
def k16 : Class := { plain "java/lang/Cloneable" (some 0) with
  accessFlags := 1537
  interfaces := #[]
  cf := some (fileOf pool16 1 #[] #[] 1537 3 #[] #[])
  fields := #[]
  methods := #[]
  instanceTypes := #[]
  staticTypes := #[]
  resolved := Array.replicate 7 none
  statics := none }

def pool17 : Array CpInfo := pool [(2, .class_ 4), (1, u "java/lang/Object"), (0, u "<init>"), (1, .fieldref 8 9), (0, .class_ 10), (0, .nameAndType 11 12), (0, u "java/util/Base64$Encoder"), (0, u "isURL"), (0, u "Z"), (2, u "newline"), (0, u "[B"), (0, .fieldref 8 18), (0, .nameAndType 19 20), (0, u "linemax"), (0, u "I"), (0, .fieldref 8 22), (0, .nameAndType 23 12), (0, u "doPadding"), (0, .methodref 25 26), (0, .class_ 27), (0, .nameAndType 28 29), (0, u "java/lang/Math"), (0, u "addExact"), (0, u "(II)I"), (0, .methodref 25 31), (0, .nameAndType 32 29), (0, u "multiplyExact"), (9, .methodref 8 43), (0, .nameAndType 44 45), (0, u "encodedOutLength"), (0, u "(IZ)I"), (0, .methodref 8 47), (0, .nameAndType 48 49), (0, u "encode0"), (0, u "([BII[B)I"), (11, .methodref 8 62), (0, .nameAndType 63 64), (0, u "encode"), (0, u "([B)[B"), (0, .class_ 66), (0, u "java/lang/String"), (0, .methodref 65 68), (0, .nameAndType 5 69), (0, u "([BIII)V"), (43, u "toBase64URL"), (0, u "[C"), (0, .fieldref 8 116), (0, .nameAndType 117 114), (0, u "toBase64"), (6, .methodref 25 125), (0, .nameAndType 126 29), (0, u "min"), (0, .methodref 8 128), (0, .nameAndType 129 130), (0, u "encodeBlock"), (0, u "([BII[BIZ)V"), (2, u "CRLF"), (2, u "RFC4648"), (0, u "Ljava/util/Base64$Encoder;"), (2, u "RFC4648_URLSAFE"), (2, u "RFC2045"), (0, u "MIMELINEMAX"), (18, u "encodeToString"), (0, u "([B)Ljava/lang/String;"), (34, .class_ 200), (0, u "java/util/Base64")] 3

def k17c0 : Code := { maxStack := 3, maxLocals := 5, code := jdk_2452_method_2_code, exceptionTable := #[{ startPc := 2, endPc := 79, handlerPc := 82, catchType := 33 }], attributes := #[] }
def k17m0 : Method := { name := "encodedOutLength", desc := "(IZ)I", sig := { parameters := [.int, .boolean], returnType := some .int }, accessFlags := 18, code := some k17c0 }
def k17c1 : Code := { maxStack := 5, maxLocals := 5, code := jdk_2452_method_3_code, exceptionTable := #[], attributes := #[] }
def k17m1 : Method := { name := "encode", desc := "([B)[B", sig := { parameters := [(.array .byte)], returnType := some (.array .byte) }, accessFlags := 1, code := some k17c1 }
def k17c2 : Code := { maxStack := 6, maxLocals := 3, code := jdk_2452_method_5_code, exceptionTable := #[], attributes := #[] }
def k17m2 : Method := { name := "encodeToString", desc := "([B)Ljava/lang/String;", sig := { parameters := [(.array .byte)], returnType := some (.object "java/lang/String") }, accessFlags := 1, code := some k17c2 }
def k17c3 : Code := { maxStack := 5, maxLocals := 11, code := jdk_2452_method_9_code, exceptionTable := #[], attributes := #[] }
def k17m3 : Method := { name := "encodeBlock", desc := "([BII[BIZ)V", sig := { parameters := [(.array .byte), .int, .int, (.array .byte), .int, .boolean], returnType := none }, accessFlags := 2, code := some k17c3 }
def k17c4 : Code := { maxStack := 7, maxLocals := 16, code := jdk_2452_method_10_code, exceptionTable := #[], attributes := #[] }
def k17m4 : Method := { name := "encode0", desc := "([BII[B)I", sig := { parameters := [(.array .byte), .int, .int, (.array .byte)], returnType := some .int }, accessFlags := 2, code := some k17c4 }
/-- java/util/Base64$Encoder -/
def k17 : Class := { plain "java/util/Base64$Encoder" (some 0) with
  accessFlags := 33
  interfaces := #[]
  cf := some (fileOf pool17 8 #[.nestHost 199] #[{ accessFlags := 18, nameIndex := 44, descriptorIndex := 45, attributes := #[] }, { accessFlags := 1, nameIndex := 63, descriptorIndex := 64, attributes := #[] }, { accessFlags := 1, nameIndex := 163, descriptorIndex := 164, attributes := #[] }, { accessFlags := 2, nameIndex := 129, descriptorIndex := 130, attributes := #[] }, { accessFlags := 2, nameIndex := 48, descriptorIndex := 49, attributes := #[] }] 33 2 #[] #[{ accessFlags := 18, nameIndex := 15, descriptorIndex := 16, attributes := #[] }, { accessFlags := 18, nameIndex := 19, descriptorIndex := 20, attributes := #[] }, { accessFlags := 18, nameIndex := 11, descriptorIndex := 12, attributes := #[] }, { accessFlags := 18, nameIndex := 23, descriptorIndex := 12, attributes := #[] }, { accessFlags := 26, nameIndex := 117, descriptorIndex := 114, attributes := #[] }, { accessFlags := 26, nameIndex := 113, descriptorIndex := 114, attributes := #[] }, { accessFlags := 26, nameIndex := 144, descriptorIndex := 20, attributes := #[] }, { accessFlags := 26, nameIndex := 133, descriptorIndex := 16, attributes := #[] }, { accessFlags := 24, nameIndex := 136, descriptorIndex := 137, attributes := #[] }, { accessFlags := 24, nameIndex := 140, descriptorIndex := 137, attributes := #[] }, { accessFlags := 24, nameIndex := 143, descriptorIndex := 137, attributes := #[] }])
  fields := #[{ name := "newline", type := (.array .byte), accessFlags := 18, slot := 0, constantValue := 0 }, { name := "linemax", type := .int, accessFlags := 18, slot := 1, constantValue := 0 }, { name := "isURL", type := .boolean, accessFlags := 18, slot := 2, constantValue := 0 }, { name := "doPadding", type := .boolean, accessFlags := 18, slot := 3, constantValue := 0 }, { name := "toBase64", type := (.array .char), accessFlags := 26, slot := 0, constantValue := 0 }, { name := "toBase64URL", type := (.array .char), accessFlags := 26, slot := 1, constantValue := 0 }, { name := "MIMELINEMAX", type := .int, accessFlags := 26, slot := 2, constantValue := 0 }, { name := "CRLF", type := (.array .byte), accessFlags := 26, slot := 3, constantValue := 0 }, { name := "RFC4648", type := (.object "java/util/Base64$Encoder"), accessFlags := 24, slot := 4, constantValue := 0 }, { name := "RFC4648_URLSAFE", type := (.object "java/util/Base64$Encoder"), accessFlags := 24, slot := 5, constantValue := 0 }, { name := "RFC2045", type := (.object "java/util/Base64$Encoder"), accessFlags := 24, slot := 6, constantValue := 0 }]
  methods := #[k17m0, k17m1, k17m2, k17m3, k17m4]
  instanceTypes := #[(.array .byte), .int, .boolean, .boolean]
  staticTypes := #[(.array .char), (.array .char), .int, (.array .byte), (.object "java/util/Base64$Encoder"), (.object "java/util/Base64$Encoder"), (.object "java/util/Base64$Encoder")]
  resolved := Array.replicate 204 none
  statics := some 4 }

def pool18 : Array CpInfo := pool [(1, .class_ 2), (0, u "java/lang/Math"), (1, .class_ 6), (1, u "java/lang/Object"), (0, u "<init>"), (0, u "()V"), (89, .class_ 100), (1, u "java/lang/Math$RandomNumberGeneratorHolder"), (19, u "multiplyExact"), (51, u "negativeZeroFloatBits"), (0, u "J"), (2, u "negativeZeroDoubleBits"), (24, u "min"), (43, u "$assertionsDisabled"), (0, u "Z"), (88, u "(II)I"), (2, u "twoToTheDoubleScaleDown"), (0, u "D"), (4, u "twoToTheDoubleScaleUp"), (9, u "E"), (3, u "PI"), (2, u "TAU"), (2, u "DEGREES_TO_RADIANS"), (0, u "RADIANS_TO_DEGREES"), (27, u "addExact")] 66

def k18m0 : Method := { name := "<init>", desc := "()V", sig := { parameters := [], returnType := none }, accessFlags := 2, code := none }
def k18c1 : Code := { maxStack := 3, maxLocals := 3, code := jdk_29_method_24_code, exceptionTable := #[], attributes := #[] }
def k18m1 : Method := { name := "addExact", desc := "(II)I", sig := { parameters := [.int, .int], returnType := some .int }, accessFlags := 9, code := some k18c1 }
def k18c2 : Code := { maxStack := 4, maxLocals := 4, code := jdk_29_method_28_code, exceptionTable := #[], attributes := #[] }
def k18m2 : Method := { name := "multiplyExact", desc := "(II)I", sig := { parameters := [.int, .int], returnType := some .int }, accessFlags := 9, code := some k18c2 }
def k18c3 : Code := { maxStack := 2, maxLocals := 2, code := jdk_29_method_69_code, exceptionTable := #[], attributes := #[] }
def k18m3 : Method := { name := "min", desc := "(II)I", sig := { parameters := [.int, .int], returnType := some .int }, accessFlags := 9, code := some k18c3 }
/-- java/lang/Math -/
def k18 : Class := { plain "java/lang/Math" (some 0) with
  accessFlags := 49
  interfaces := #[]
  cf := some (fileOf pool18 1 #[.nestMembers #[98]] #[{ accessFlags := 2, nameIndex := 7, descriptorIndex := 8, attributes := #[] }, { accessFlags := 9, nameIndex := 393, descriptorIndex := 335, attributes := #[] }, { accessFlags := 9, nameIndex := 120, descriptorIndex := 335, attributes := #[] }, { accessFlags := 9, nameIndex := 201, descriptorIndex := 335, attributes := #[] }] 49 4 #[] #[{ accessFlags := 25, nameIndex := 354, descriptorIndex := 339, attributes := #[] }, { accessFlags := 25, nameIndex := 358, descriptorIndex := 339, attributes := #[] }, { accessFlags := 25, nameIndex := 361, descriptorIndex := 339, attributes := #[] }, { accessFlags := 26, nameIndex := 364, descriptorIndex := 339, attributes := #[] }, { accessFlags := 26, nameIndex := 365, descriptorIndex := 339, attributes := #[] }, { accessFlags := 26, nameIndex := 172, descriptorIndex := 173, attributes := #[] }, { accessFlags := 26, nameIndex := 176, descriptorIndex := 173, attributes := #[] }, { accessFlags := 8, nameIndex := 344, descriptorIndex := 339, attributes := #[] }, { accessFlags := 8, nameIndex := 338, descriptorIndex := 339, attributes := #[] }, { accessFlags := 4120, nameIndex := 245, descriptorIndex := 246, attributes := #[] }])
  fields := #[{ name := "E", type := .double, accessFlags := 25, slot := 0, constantValue := 0 }, { name := "PI", type := .double, accessFlags := 25, slot := 1, constantValue := 0 }, { name := "TAU", type := .double, accessFlags := 25, slot := 2, constantValue := 0 }, { name := "DEGREES_TO_RADIANS", type := .double, accessFlags := 26, slot := 3, constantValue := 0 }, { name := "RADIANS_TO_DEGREES", type := .double, accessFlags := 26, slot := 4, constantValue := 0 }, { name := "negativeZeroFloatBits", type := .long, accessFlags := 26, slot := 5, constantValue := 0 }, { name := "negativeZeroDoubleBits", type := .long, accessFlags := 26, slot := 6, constantValue := 0 }, { name := "twoToTheDoubleScaleUp", type := .double, accessFlags := 8, slot := 7, constantValue := 0 }, { name := "twoToTheDoubleScaleDown", type := .double, accessFlags := 8, slot := 8, constantValue := 0 }, { name := "$assertionsDisabled", type := .boolean, accessFlags := 4120, slot := 9, constantValue := 0 }]
  methods := #[k18m0, k18m1, k18m2, k18m3]
  instanceTypes := #[]
  staticTypes := #[.double, .double, .double, .double, .double, .long, .long, .double, .double, .boolean]
  resolved := Array.replicate 460 none
  statics := none }

def pool19 : Array CpInfo := pool [(2, .class_ 4), (1, u "java/lang/Object"), (0, u "<init>"), (0, u "()V"), (17, .class_ 26), (1, u "jdk/internal/util/Preconditions"), (22, u "checkFromIndexSize"), (5, .class_ 56), (0, u "jdk/internal/util/Preconditions$4"), (57, .class_ 115), (0, u "jdk/internal/util/Preconditions$1"), (7, u "SIOOBE_FORMATTER"), (0, u "Ljava/util/function/BiFunction;"), (0, .class_ 126), (0, u "jdk/internal/util/Preconditions$2"), (3, u "AIOOBE_FORMATTER"), (0, .class_ 132), (0, u "jdk/internal/util/Preconditions$3"), (3, u "IOOBE_FORMATTER"), (46, u "(IIILjava/util/function/BiFunction;)I")] 10

def k19m0 : Method := { name := "<init>", desc := "()V", sig := { parameters := [], returnType := none }, accessFlags := 1, code := none }
def k19c1 : Code := { maxStack := 4, maxLocals := 4, code := jdk_41_method_13_code, exceptionTable := #[], attributes := #[] }
def k19m1 : Method := { name := "checkFromIndexSize", desc := "(IIILjava/util/function/BiFunction;)I", sig := { parameters := [.int, .int, .int, (.object "java/util/function/BiFunction")], returnType := some .int }, accessFlags := 9, code := some k19c1 }
/-- jdk/internal/util/Preconditions -/
def k19 : Class := { plain "jdk/internal/util/Preconditions" (some 0) with
  accessFlags := 33
  interfaces := #[]
  cf := some (fileOf pool19 24 #[.nestMembers #[55, 131, 125, 114]] #[{ accessFlags := 1, nameIndex := 5, descriptorIndex := 6, attributes := #[] }, { accessFlags := 9, nameIndex := 49, descriptorIndex := 183, attributes := #[] }] 33 2 #[] #[{ accessFlags := 25, nameIndex := 123, descriptorIndex := 124, attributes := #[] }, { accessFlags := 25, nameIndex := 130, descriptorIndex := 124, attributes := #[] }, { accessFlags := 25, nameIndex := 136, descriptorIndex := 124, attributes := #[] }])
  fields := #[{ name := "SIOOBE_FORMATTER", type := (.object "java/util/function/BiFunction"), accessFlags := 25, slot := 0, constantValue := 0 }, { name := "AIOOBE_FORMATTER", type := (.object "java/util/function/BiFunction"), accessFlags := 25, slot := 1, constantValue := 0 }, { name := "IOOBE_FORMATTER", type := (.object "java/util/function/BiFunction"), accessFlags := 25, slot := 2, constantValue := 0 }]
  methods := #[k19m0, k19m1]
  instanceTypes := #[]
  staticTypes := #[(.object "java/util/function/BiFunction"), (.object "java/util/function/BiFunction"), (.object "java/util/function/BiFunction")]
  resolved := Array.replicate 194 none
  statics := some 5 }

def pool20 : Array CpInfo := pool [(4, .class_ 6), (1, u "java/lang/Object"), (0, u "<init>"), (0, u "()V"), (5, .class_ 16), (1, u "java/lang/StringLatin1"), (104, u "$assertionsDisabled"), (0, u "Z"), (98, .class_ 223), (1, u "java/lang/StringLatin1$LinesSpliterator"), (57, u "equals"), (0, u "([B[B)Z"), (107, .class_ 391), (0, u "java/lang/StringLatin1$CharsSpliterator")] 3

def k20m0 : Method := { name := "<init>", desc := "()V", sig := { parameters := [], returnType := none }, accessFlags := 0, code := none }
def k20c1 : Code := { maxStack := 3, maxLocals := 3, code := jdk_43_method_13_code, exceptionTable := #[], attributes := #[] }
def k20m1 : Method := { name := "equals", desc := "([B[B)Z", sig := { parameters := [(.array .byte), (.array .byte)], returnType := some .boolean }, accessFlags := 9, code := some k20c1 }
/-- java/lang/StringLatin1 -/
def k20 : Class := { plain "java/lang/StringLatin1" (some 0) with
  accessFlags := 48
  interfaces := #[]
  cf := some (fileOf pool20 14 #[.nestMembers #[390, 221]] #[{ accessFlags := 0, nameIndex := 7, descriptorIndex := 8, attributes := #[] }, { accessFlags := 9, nameIndex := 281, descriptorIndex := 282, attributes := #[] }] 48 4 #[] #[{ accessFlags := 4120, nameIndex := 121, descriptorIndex := 122, attributes := #[] }])
  fields := #[{ name := "$assertionsDisabled", type := .boolean, accessFlags := 4120, slot := 0, constantValue := 0 }]
  methods := #[k20m0, k20m1]
  instanceTypes := #[]
  staticTypes := #[.boolean]
  resolved := Array.replicate 395 none
  statics := none }

def pool21 : Array CpInfo := pool [(6, .class_ 8), (1, u "java/lang/Object"), (0, u "<init>"), (0, u "()V"), (1, .class_ 14), (1, u "java/lang/StringUTF16"), (31, u "$assertionsDisabled"), (0, u "Z"), (13, u "HI_BYTE_SHIFT"), (0, u "I"), (2, u "LO_BYTE_SHIFT"), (49, .methodref 12 116), (0, .nameAndType 117 118), (0, u "compress"), (0, u "([CI[BII)I"), (3, u "([CII)[B"), (138, u "coderFromArrayLen"), (0, u "([BI)B"), (106, .class_ 371), (1, u "java/lang/StringUTF16$LinesSpliterator"), (58, u "MAX_LENGTH"), (196, .class_ 628), (0, u "java/lang/StringUTF16$CodePointsSpliterator"), (0, .class_ 630), (0, u "java/lang/StringUTF16$CharsSpliterator")] 4

def k21m0 : Method := { name := "<init>", desc := "()V", sig := { parameters := [], returnType := none }, accessFlags := 0, code := none }
def k21c1 : Code := { maxStack := 2, maxLocals := 2, code := jdk_52_method_15_code, exceptionTable := #[], attributes := #[] }
def k21m1 : Method := { name := "coderFromArrayLen", desc := "([BI)B", sig := { parameters := [(.array .byte), .int], returnType := some .byte }, accessFlags := 8, code := some k21c1 }
def k21c2 : Code := { maxStack := 5, maxLocals := 6, code := jdk_52_method_16_code, exceptionTable := #[], attributes := #[] }
def k21m2 : Method := { name := "compress", desc := "([CII)[B", sig := { parameters := [(.array .char), .int, .int], returnType := some (.array .byte) }, accessFlags := 9, code := some k21c2 }
def k21c3 : Code := { maxStack := 3, maxLocals := 7, code := jdk_52_method_21_code, exceptionTable := #[], attributes := #[] }
def k21m3 : Method := { name := "compress", desc := "([CI[BII)I", sig := { parameters := [(.array .char), .int, (.array .byte), .int, .int], returnType := some .int }, accessFlags := 9, code := some k21c3 }
/-- java/lang/StringUTF16 -/
def k21 : Class := { plain "java/lang/StringUTF16" (some 0) with
  accessFlags := 48
  interfaces := #[]
  cf := some (fileOf pool21 12 #[.nestMembers #[627, 629, 369]] #[{ accessFlags := 0, nameIndex := 9, descriptorIndex := 10, attributes := #[] }, { accessFlags := 8, nameIndex := 261, descriptorIndex := 262, attributes := #[] }, { accessFlags := 9, nameIndex := 117, descriptorIndex := 122, attributes := #[] }, { accessFlags := 9, nameIndex := 117, descriptorIndex := 118, attributes := #[] }] 48 6 #[] #[{ accessFlags := 26, nameIndex := 61, descriptorIndex := 62, attributes := #[] }, { accessFlags := 26, nameIndex := 65, descriptorIndex := 62, attributes := #[] }, { accessFlags := 24, nameIndex := 430, descriptorIndex := 62, attributes := #[] }, { accessFlags := 4120, nameIndex := 46, descriptorIndex := 47, attributes := #[] }])
  fields := #[{ name := "HI_BYTE_SHIFT", type := .int, accessFlags := 26, slot := 0, constantValue := 0 }, { name := "LO_BYTE_SHIFT", type := .int, accessFlags := 26, slot := 1, constantValue := 0 }, { name := "MAX_LENGTH", type := .int, accessFlags := 24, slot := 2, constantValue := 0 }, { name := "$assertionsDisabled", type := .boolean, accessFlags := 4120, slot := 3, constantValue := 0 }]
  methods := #[k21m0, k21m1, k21m2, k21m3]
  instanceTypes := #[]
  staticTypes := #[.int, .int, .int, .boolean]
  resolved := Array.replicate 635 none
  statics := none }

def pool22 : Array CpInfo := pool [(2, .class_ 4), (1, u "java/lang/Object"), (0, u "<init>"), (0, u "()V"), (7, .class_ 16), (1, u "java/util/Arrays"), (57, .class_ 76), (1, u "java/util/Arrays$NaturalOrder"), (32, u "()Ljava/lang/Object;"), (3, .class_ 115), (1, u "java/util/Arrays$LegacyMergeSort"), (1, u "Z"), (10, .nameAndType 129 109), (0, u "clone"), (9, u "copyOfRange"), (170, .methodref 311 128), (0, .class_ 312), (0, u "[B"), (29, u "([BII)[B"), (32, .class_ 376), (0, u "java/util/Arrays$ArrayList"), (68, u "$assertionsDisabled"), (269, u "MIN_ARRAY_SORT_GRAN"), (0, u "I"), (2, u "INSERTIONSORT_THRESHOLD"), (255, .class_ 976), (0, u "java/util/Arrays$ArrayItr")] 52

def k22m0 : Method := { name := "<init>", desc := "()V", sig := { parameters := [], returnType := none }, accessFlags := 2, code := none }
def k22c1 : Code := { maxStack := 3, maxLocals := 3, code := jdk_65_method_132_code, exceptionTable := #[], attributes := #[] }
def k22m1 : Method := { name := "copyOfRange", desc := "([BII)[B", sig := { parameters := [(.array .byte), .int, .int], returnType := some (.array .byte) }, accessFlags := 9, code := some k22c1 }
/-- java/util/Arrays -/
def k22 : Class := { plain "java/util/Arrays" (some 0) with
  accessFlags := 49
  interfaces := #[]
  cf := some (fileOf pool22 14 #[.nestMembers #[975, 375, 113, 74]] #[{ accessFlags := 2, nameIndex := 5, descriptorIndex := 6, attributes := #[] }, { accessFlags := 9, nameIndex := 139, descriptorIndex := 342, attributes := #[] }] 49 2 #[] #[{ accessFlags := 26, nameIndex := 715, descriptorIndex := 716, attributes := #[] }, { accessFlags := 26, nameIndex := 719, descriptorIndex := 716, attributes := #[] }, { accessFlags := 4120, nameIndex := 445, descriptorIndex := 117, attributes := #[] }])
  fields := #[{ name := "MIN_ARRAY_SORT_GRAN", type := .int, accessFlags := 26, slot := 0, constantValue := 0 }, { name := "INSERTIONSORT_THRESHOLD", type := .int, accessFlags := 26, slot := 1, constantValue := 0 }, { name := "$assertionsDisabled", type := .boolean, accessFlags := 4120, slot := 2, constantValue := 0 }]
  methods := #[k22m0, k22m1]
  instanceTypes := #[]
  staticTypes := #[.int, .int, .boolean]
  resolved := Array.replicate 1029 none
  statics := none }

/-- the primitive byte -/
def k23 : Class := { plain "byte" none with kind := .primitive 'B', accessFlags := 0x411 }
/-- [B -/
def k24 : Class := { plain "[B" (some 0) with kind := .array 23 .byte, interfaces := #[16, 2], accessFlags := 1041 }

/-- the primitive char -/
def k25 : Class := { plain "char" none with kind := .primitive 'C', accessFlags := 0x411 }
/-- [C -/
def k26 : Class := { plain "[C" (some 0) with kind := .array 25 .char, interfaces := #[16, 2], accessFlags := 1041 }

/-- the primitive int -/
def k27 : Class := { plain "int" none with kind := .primitive 'I', accessFlags := 0x411 }
/-- [I -/
def k28 : Class := { plain "[I" (some 0) with kind := .array 27 .int, interfaces := #[16, 2], accessFlags := 1041 }

/-- jdk/internal/util/ArraysSupport (laid by hand: the sets name it, no table word does) -/
def k29 : Class := { plain "jdk/internal/util/ArraysSupport" (some 0) with accessFlags := 33 }

def heap : Heap := #[{ cls := 7, slots := #[.long 0, .int 1, .null, .int 0, .null, .int 0, .int 0], vm := .statics 7 },
  { cls := 10, slots := #[.ref 9, .null, .ref 6, .null, .null], vm := .statics 10 },
  { cls := 13, slots := #[.ref 7], vm := .statics 13 },
  { cls := 15, slots := #[.ref 8, .null], vm := .statics 15 },
  { cls := 17, slots := #[.ref 11, .null, .int 0, .null, .ref 10, .null, .null], vm := .statics 17 },
  { cls := 19, slots := #[.null, .null, .null], vm := .statics 19 },
  { cls := 10, slots := #[.int 0, .int 0], vm := .none },
  { cls := 13, slots := #[.null, .null, .null], vm := .none },
  { cls := 15, slots := #[.null, .null, .null], vm := .none },
  { cls := 28, slots := #[.int (-1), .int (-1), .int (-1), .int (-1), .int (-1), .int (-1), .int (-1), .int (-1), .int (-1), .int (-1), .int (-1), .int (-1), .int (-1), .int (-1), .int (-1), .int (-1), .int (-1), .int (-1), .int (-1), .int (-1), .int (-1), .int (-1), .int (-1), .int (-1), .int (-1), .int (-1), .int (-1), .int (-1), .int (-1), .int (-1), .int (-1), .int (-1), .int (-1), .int (-1), .int (-1), .int (-1), .int (-1), .int (-1), .int (-1), .int (-1), .int (-1), .int (-1), .int (-1), .int 62, .int (-1), .int (-1), .int (-1), .int 63, .int 52, .int 53, .int 54, .int 55, .int 56, .int 57, .int 58, .int 59, .int 60, .int 61, .int (-1), .int (-1), .int (-1), .int (-2), .int (-1), .int (-1), .int (-1), .int 0, .int 1, .int 2, .int 3, .int 4, .int 5, .int 6, .int 7, .int 8, .int 9, .int 10, .int 11, .int 12, .int 13, .int 14, .int 15, .int 16, .int 17, .int 18, .int 19, .int 20, .int 21, .int 22, .int 23, .int 24, .int 25, .int (-1), .int (-1), .int (-1), .int (-1), .int (-1), .int (-1), .int 26, .int 27, .int 28, .int 29, .int 30, .int 31, .int 32, .int 33, .int 34, .int 35, .int 36, .int 37, .int 38, .int 39, .int 40, .int 41, .int 42, .int 43, .int 44, .int 45, .int 46, .int 47, .int 48, .int 49, .int 50, .int 51, .int (-1), .int (-1), .int (-1), .int (-1), .int (-1), .int (-1), .int (-1), .int (-1), .int (-1), .int (-1), .int (-1), .int (-1), .int (-1), .int (-1), .int (-1), .int (-1), .int (-1), .int (-1), .int (-1), .int (-1), .int (-1), .int (-1), .int (-1), .int (-1), .int (-1), .int (-1), .int (-1), .int (-1), .int (-1), .int (-1), .int (-1), .int (-1), .int (-1), .int (-1), .int (-1), .int (-1), .int (-1), .int (-1), .int (-1), .int (-1), .int (-1), .int (-1), .int (-1), .int (-1), .int (-1), .int (-1), .int (-1), .int (-1), .int (-1), .int (-1), .int (-1), .int (-1), .int (-1), .int (-1), .int (-1), .int (-1), .int (-1), .int (-1), .int (-1), .int (-1), .int (-1), .int (-1), .int (-1), .int (-1), .int (-1), .int (-1), .int (-1), .int (-1), .int (-1), .int (-1), .int (-1), .int (-1), .int (-1), .int (-1), .int (-1), .int (-1), .int (-1), .int (-1), .int (-1), .int (-1), .int (-1), .int (-1), .int (-1), .int (-1), .int (-1), .int (-1), .int (-1), .int (-1), .int (-1), .int (-1), .int (-1), .int (-1), .int (-1), .int (-1), .int (-1), .int (-1), .int (-1), .int (-1), .int (-1), .int (-1), .int (-1), .int (-1), .int (-1), .int (-1), .int (-1), .int (-1), .int (-1), .int (-1), .int (-1), .int (-1), .int (-1), .int (-1), .int (-1), .int (-1), .int (-1), .int (-1), .int (-1), .int (-1), .int (-1), .int (-1), .int (-1), .int (-1), .int (-1), .int (-1), .int (-1), .int (-1), .int (-1), .int (-1), .int (-1), .int (-1), .int (-1), .int (-1), .int (-1)], vm := .none },
  { cls := 17, slots := #[.null, .int (-1), .int 0, .int 1], vm := .none },
  { cls := 26, slots := #[.int 65, .int 66, .int 67, .int 68, .int 69, .int 70, .int 71, .int 72, .int 73, .int 74, .int 75, .int 76, .int 77, .int 78, .int 79, .int 80, .int 81, .int 82, .int 83, .int 84, .int 85, .int 86, .int 87, .int 88, .int 89, .int 90, .int 97, .int 98, .int 99, .int 100, .int 101, .int 102, .int 103, .int 104, .int 105, .int 106, .int 107, .int 108, .int 109, .int 110, .int 111, .int 112, .int 113, .int 114, .int 115, .int 116, .int 117, .int 118, .int 119, .int 120, .int 121, .int 122, .int 48, .int 49, .int 50, .int 51, .int 52, .int 53, .int 54, .int 55, .int 56, .int 57, .int 43, .int 47], vm := .none }]
def classes : Array Class := #[k0, k1, k2, k3, k4, k5, k6, k7, k8, k9, k10, k11, k12, k13, k14, k15, k16, k17, k18, k19, k20, k21, k22, k23, k24, k25, k26, k27, k28, k29]
def interned : List (Array UInt16 × Addr) := []
def slotsUsed : Nat := 357
def theMethod : MethodId := ⟨1, 4⟩
def args0 : Array Value := #[.int 5, .long 77]
def aboutOver (below : List Frame) : State where
  vm := { classes := classes, interned := interned.toArray }
  heap := heap
  slotsUsed := slotsUsed
  threads := #[{ frames := .invoking theMethod args0 :: below }]
def below0 : List Frame := [.native { method := ⟨0, 0⟩, args := #[] }]
def about1 : State := aboutOver below0
def p0 : Program := .bare "" "" ""
def e0 : Env := launch0.env 0 0 0
theorem w_frames : about1.frames = Frame.invoking theMethod args0 :: below0 := rfl
set_option maxRecDepth 65536 in
theorem w_args : argsFit about1.vm theMethod args0 = true := by decide +kernel
set_option maxRecDepth 65536 in
theorem w_heap : heapFits about1 = true := by decide +kernel
set_option maxRecDepth 65536 in
theorem w_runnable : about1.curStatus? = some .runnable := by decide +kernel
set_option maxRecDepth 65536 in
theorem w_alone : about1.alone = true := by decide +kernel
set_option maxRecDepth 65536 in
theorem w_named : about1.methodNamed? x = some theMethod := by decide +kernel
set_option maxRecDepth 65536 in
theorem w_hears : about1.hears theMethod below0 = true := by decide +kernel
set_option maxRecDepth 65536 in
theorem w_ripe : about1.ripe theMethod args0 below0 = true := by decide +kernel
theorem w_running : about1.status = .running := rfl
set_option maxRecDepth 65536 in
theorem w_room : about1.hasRoom e0.platform room_1 = true :=
  launch0.hasRoom_least _ room_1 (by decide +kernel) (by decide +kernel) (by decide +kernel) (by decide +kernel) (by decide +kernel) (by decide +kernel)
theorem allAtoms_all (ts : List Jvm.Cond) (a : Array Jvm.Value) (st : Jvm.State) : (allAtoms ts).before a st = ts.all (fun c => c.before a st) := by
  induction ts with
  | nil => rfl
  | cons c t ih =>
    show (Jvm.Cond.and c (allAtoms t)).before a st = _
    rw [Jvm.Cond.before_and, ih, List.all_cons]
def words1 : List Jvm.Cond := Jvm.Cond.code x code maxLocals ret :: tables_1
/-- a 'code' word, met by the world's own term for the bytes: nothing is compared byte by byte -/
theorem code_word {y : MethodName} {bytes : ByteArray} {mx : Nat} {rt : Option FieldType} {a : Array Value} {s : State} {m : MethodId} {meth : Method} {c : Code} (h1 : s.methodNamed? y = some m) (h2 : s.vm.method? m = some meth) (h3 : meth.code = some c) (h4 : c.code = bytes)
    (h5 : (c.maxLocals == mx && c.exceptionTable.isEmpty && decide (c.maxStack ≤ mostOperands) && decide (meth.sig.returnType = rt) && !meth.locks && decide (parseMethodDescriptor y.desc = some meth.sig)) = true) : (Jvm.Cond.code y bytes mx rt).before a s = true := by
  simp only [Bool.and_eq_true, beq_iff_eq, Bool.not_eq_true', decide_eq_true_eq] at h5
  obtain ⟨⟨⟨⟨⟨g1, g2⟩, g3⟩, g4⟩, g5⟩, g6⟩ := h5
  simp [Cond.before, Cond.holds, Cond.value, h1, h2, h3, h4, g1, g2, g3, g4, g5, g6]
def isCode : Jvm.Cond → Bool
  | .code _ _ _ _ => true
  | _ => false
theorem all_split {L : List Jvm.Cond} {P : Jvm.Cond → Bool} (h1 : L.all (fun c => isCode c || P c) = true) (h2 : ∀ c ∈ L.filter isCode, P c = true) : L.all P = true := by
  refine List.all_eq_true.mpr fun c hc => ?_
  have h := List.all_eq_true.mp h1 c hc
  rcases Bool.eq_false_or_eq_true (isCode c) with hi | hi
  · exact h2 c (List.mem_filter.mpr ⟨hc, hi⟩)
  · simpa [hi] using h
set_option maxRecDepth 65536 in
theorem w_c0 : (Jvm.Cond.code x code maxLocals ret).before args0 about1 = true := code_word (m := ⟨1, 4⟩) (meth := k1m4) (c := k1c4) (by decide +kernel) rfl rfl rfl (by decide +kernel)
set_option maxRecDepth 65536 in
theorem w_c1 : (Jvm.Cond.code ({ cls := "java/lang/String", name := "<init>", desc := "([C)V" } : Jvm.MethodName) jdk_42_method_3_code (2 : Nat) (Option.none : Option Jvm.ClassFile.FieldType)).before args0 about1 = true := code_word (m := ⟨7, 1⟩) (meth := k7m1) (c := k7c1) (by decide +kernel) rfl rfl rfl (by decide +kernel)
set_option maxRecDepth 65536 in
theorem w_c2 : (Jvm.Cond.code ({ cls := "java/lang/String", name := "<init>", desc := "([CIILjava/lang/Void;)V" } : Jvm.MethodName) jdk_42_method_149_code (6 : Nat) (Option.none : Option Jvm.ClassFile.FieldType)).before args0 about1 = true := code_word (m := ⟨7, 8⟩) (meth := k7m8) (c := k7c8) (by decide +kernel) rfl rfl rfl (by decide +kernel)
set_option maxRecDepth 65536 in
theorem w_c3 : (Jvm.Cond.code ({ cls := "java/lang/Object", name := "<init>", desc := "()V" } : Jvm.MethodName) object_method_1_code (1 : Nat) (Option.none : Option Jvm.ClassFile.FieldType)).before args0 about1 = true := code_word (m := ⟨0, 0⟩) (meth := k0m0) (c := k0c0) (by decide +kernel) rfl rfl rfl (by decide +kernel)
set_option maxRecDepth 65536 in
theorem w_c4 : (Jvm.Cond.code ({ cls := "java/util/Base64", name := "getDecoder", desc := "()Ljava/util/Base64$Decoder;" } : Jvm.MethodName) jdk_2448_method_6_code (0 : Nat) (Option.some (Jvm.ClassFile.FieldType.object "java/util/Base64$Decoder"))).before args0 about1 = true := code_word (m := ⟨9, 2⟩) (meth := k9m2) (c := k9c2) (by decide +kernel) rfl rfl rfl (by decide +kernel)
set_option maxRecDepth 65536 in
theorem w_c5 : (Jvm.Cond.code ({ cls := "java/util/Base64$Decoder", name := "decode", desc := "(Ljava/lang/String;)[B" } : Jvm.MethodName) jdk_2450_method_3_code (2 : Nat) (Option.some (Jvm.ClassFile.FieldType.array Jvm.ClassFile.FieldType.byte))).before args0 about1 = true := code_word (m := ⟨10, 1⟩) (meth := k10m1) (c := k10c1) (by decide +kernel) rfl rfl rfl (by decide +kernel)
set_option maxRecDepth 65536 in
theorem w_c6 : (Jvm.Cond.code ({ cls := "java/lang/String", name := "getBytes", desc := "(Ljava/nio/charset/Charset;)[B" } : Jvm.MethodName) jdk_42_method_64_code (2 : Nat) (Option.some (Jvm.ClassFile.FieldType.array Jvm.ClassFile.FieldType.byte))).before args0 about1 = true := code_word (m := ⟨7, 6⟩) (meth := k7m6) (c := k7c6) (by decide +kernel) rfl rfl rfl (by decide +kernel)
set_option maxRecDepth 65536 in
theorem w_c7 : (Jvm.Cond.code ({ cls := "java/lang/String", name := "coder", desc := "()B" } : Jvm.MethodName) jdk_42_method_152_code (1 : Nat) (Option.some Jvm.ClassFile.FieldType.byte)).before args0 about1 = true := code_word (m := ⟨7, 9⟩) (meth := k7m9) (c := k7c9) (by decide +kernel) rfl rfl rfl (by decide +kernel)
set_option maxRecDepth 65536 in
theorem w_c8 : (Jvm.Cond.code ({ cls := "java/lang/String", name := "encode", desc := "(Ljava/nio/charset/Charset;B[B)[B" } : Jvm.MethodName) jdk_42_method_18_code (3 : Nat) (Option.some (Jvm.ClassFile.FieldType.array Jvm.ClassFile.FieldType.byte))).before args0 about1 = true := code_word (m := ⟨7, 3⟩) (meth := k7m3) (c := k7c3) (by decide +kernel) rfl rfl rfl (by decide +kernel)
set_option maxRecDepth 65536 in
theorem w_c9 : (Jvm.Cond.code ({ cls := "java/lang/String", name := "encode8859_1", desc := "(B[B)[B" } : Jvm.MethodName) jdk_42_method_26_code (2 : Nat) (Option.some (Jvm.ClassFile.FieldType.array Jvm.ClassFile.FieldType.byte))).before args0 about1 = true := code_word (m := ⟨7, 4⟩) (meth := k7m4) (c := k7c4) (by decide +kernel) rfl rfl rfl (by decide +kernel)
set_option maxRecDepth 65536 in
theorem w_c10 : (Jvm.Cond.code ({ cls := "java/lang/String", name := "encode8859_1", desc := "(B[BZ)[B" } : Jvm.MethodName) jdk_42_method_27_code (10 : Nat) (Option.some (Jvm.ClassFile.FieldType.array Jvm.ClassFile.FieldType.byte))).before args0 about1 = true := code_word (m := ⟨7, 5⟩) (meth := k7m5) (c := k7c5) (by decide +kernel) rfl rfl rfl (by decide +kernel)
set_option maxRecDepth 65536 in
theorem w_c11 : (Jvm.Cond.code ({ cls := "java/util/Base64$Decoder", name := "decode", desc := "([B)[B" } : Jvm.MethodName) jdk_2450_method_2_code (4 : Nat) (Option.some (Jvm.ClassFile.FieldType.array Jvm.ClassFile.FieldType.byte))).before args0 about1 = true := code_word (m := ⟨10, 0⟩) (meth := k10m0) (c := k10c0) (by decide +kernel) rfl rfl rfl (by decide +kernel)
set_option maxRecDepth 65536 in
theorem w_c12 : (Jvm.Cond.code ({ cls := "java/util/Base64$Decoder", name := "decodedOutLength", desc := "([BII)I" } : Jvm.MethodName) jdk_2450_method_7_code (9 : Nat) (Option.some Jvm.ClassFile.FieldType.int)).before args0 about1 = true := code_word (m := ⟨10, 2⟩) (meth := k10m2) (c := k10c2) (by decide +kernel) rfl rfl rfl (by decide +kernel)
set_option maxRecDepth 65536 in
theorem w_c13 : (Jvm.Cond.code ({ cls := "java/util/Base64$Decoder", name := "decode0", desc := "([BII[B)I" } : Jvm.MethodName) jdk_2450_method_9_code (11 : Nat) (Option.some Jvm.ClassFile.FieldType.int)).before args0 about1 = true := code_word (m := ⟨10, 4⟩) (meth := k10m4) (c := k10c4) (by decide +kernel) rfl rfl rfl (by decide +kernel)
set_option maxRecDepth 65536 in
theorem w_c14 : (Jvm.Cond.code ({ cls := "com/example/cardea/cardea/Base64Text", name := "encode", desc := "([B)Ljava/lang/String;" } : Jvm.MethodName) prog_2_method_2_code (1 : Nat) (Option.some (Jvm.ClassFile.FieldType.object "java/lang/String"))).before args0 about1 = true := code_word (m := ⟨8, 1⟩) (meth := k8m1) (c := k8c1) (by decide +kernel) rfl rfl rfl (by decide +kernel)
set_option maxRecDepth 65536 in
theorem w_c15 : (Jvm.Cond.code ({ cls := "java/util/Base64", name := "getEncoder", desc := "()Ljava/util/Base64$Encoder;" } : Jvm.MethodName) jdk_2448_method_2_code (0 : Nat) (Option.some (Jvm.ClassFile.FieldType.object "java/util/Base64$Encoder"))).before args0 about1 = true := code_word (m := ⟨9, 1⟩) (meth := k9m1) (c := k9c1) (by decide +kernel) rfl rfl rfl (by decide +kernel)
set_option maxRecDepth 65536 in
theorem w_c16 : (Jvm.Cond.code ({ cls := "java/util/Base64$Encoder", name := "encodeToString", desc := "([B)Ljava/lang/String;" } : Jvm.MethodName) jdk_2452_method_5_code (3 : Nat) (Option.some (Jvm.ClassFile.FieldType.object "java/lang/String"))).before args0 about1 = true := code_word (m := ⟨17, 2⟩) (meth := k17m2) (c := k17c2) (by decide +kernel) rfl rfl rfl (by decide +kernel)
set_option maxRecDepth 65536 in
theorem w_c17 : (Jvm.Cond.code ({ cls := "java/util/Base64$Encoder", name := "encode", desc := "([B)[B" } : Jvm.MethodName) jdk_2452_method_3_code (5 : Nat) (Option.some (Jvm.ClassFile.FieldType.array Jvm.ClassFile.FieldType.byte))).before args0 about1 = true := code_word (m := ⟨17, 1⟩) (meth := k17m1) (c := k17c1) (by decide +kernel) rfl rfl rfl (by decide +kernel)
set_option maxRecDepth 65536 in
theorem w_c18 : (Jvm.Cond.code ({ cls := "java/lang/Math", name := "addExact", desc := "(II)I" } : Jvm.MethodName) jdk_29_method_24_code (3 : Nat) (Option.some Jvm.ClassFile.FieldType.int)).before args0 about1 = true := code_word (m := ⟨18, 1⟩) (meth := k18m1) (c := k18c1) (by decide +kernel) rfl rfl rfl (by decide +kernel)
set_option maxRecDepth 65536 in
theorem w_c19 : (Jvm.Cond.code ({ cls := "java/lang/Math", name := "multiplyExact", desc := "(II)I" } : Jvm.MethodName) jdk_29_method_28_code (4 : Nat) (Option.some Jvm.ClassFile.FieldType.int)).before args0 about1 = true := code_word (m := ⟨18, 2⟩) (meth := k18m2) (c := k18c2) (by decide +kernel) rfl rfl rfl (by decide +kernel)
set_option maxRecDepth 65536 in
theorem w_c20 : (Jvm.Cond.code ({ cls := "java/util/Base64$Encoder", name := "encode0", desc := "([BII[B)I" } : Jvm.MethodName) jdk_2452_method_10_code (16 : Nat) (Option.some Jvm.ClassFile.FieldType.int)).before args0 about1 = true := code_word (m := ⟨17, 4⟩) (meth := k17m4) (c := k17c4) (by decide +kernel) rfl rfl rfl (by decide +kernel)
set_option maxRecDepth 65536 in
theorem w_c21 : (Jvm.Cond.code ({ cls := "java/lang/String", name := "<init>", desc := "([BIII)V" } : Jvm.MethodName) jdk_42_method_7_code (7 : Nat) (Option.none : Option Jvm.ClassFile.FieldType)).before args0 about1 = true := code_word (m := ⟨7, 2⟩) (meth := k7m2) (c := k7c2) (by decide +kernel) rfl rfl rfl (by decide +kernel)
set_option maxRecDepth 65536 in
theorem w_c22 : (Jvm.Cond.code ({ cls := "java/lang/String", name := "checkBoundsOffCount", desc := "(III)I" } : Jvm.MethodName) jdk_42_method_157_code (3 : Nat) (Option.some Jvm.ClassFile.FieldType.int)).before args0 about1 = true := code_word (m := ⟨7, 10⟩) (meth := k7m10) (c := k7c10) (by decide +kernel) rfl rfl rfl (by decide +kernel)
set_option maxRecDepth 65536 in
theorem w_c23 : (Jvm.Cond.code ({ cls := "jdk/internal/util/Preconditions", name := "checkFromIndexSize", desc := "(IIILjava/util/function/BiFunction;)I" } : Jvm.MethodName) jdk_41_method_13_code (4 : Nat) (Option.some Jvm.ClassFile.FieldType.int)).before args0 about1 = true := code_word (m := ⟨19, 1⟩) (meth := k19m1) (c := k19c1) (by decide +kernel) rfl rfl rfl (by decide +kernel)
set_option maxRecDepth 65536 in
theorem w_c24 : (Jvm.Cond.code ({ cls := "java/lang/String", name := "equals", desc := "(Ljava/lang/Object;)Z" } : Jvm.MethodName) jdk_42_method_66_code (3 : Nat) (Option.some Jvm.ClassFile.FieldType.boolean)).before args0 about1 = true := code_word (m := ⟨7, 7⟩) (meth := k7m7) (c := k7c7) (by decide +kernel) rfl rfl rfl (by decide +kernel)
set_option maxRecDepth 65536 in
theorem w_c25 : (Jvm.Cond.code ({ cls := "java/lang/StringLatin1", name := "equals", desc := "([B[B)Z" } : Jvm.MethodName) jdk_43_method_13_code (3 : Nat) (Option.some Jvm.ClassFile.FieldType.boolean)).before args0 about1 = true := code_word (m := ⟨20, 1⟩) (meth := k20m1) (c := k20c1) (by decide +kernel) rfl rfl rfl (by decide +kernel)
set_option maxRecDepth 65536 in
theorem w_c26 : (Jvm.Cond.code ({ cls := "com/example/cardea/cardea/Base64TextDecodePinLaw", name := "at", desc := "([B[III)Z" } : Jvm.MethodName) method_4_code (4 : Nat) (Option.some Jvm.ClassFile.FieldType.boolean)).before args0 about1 = true := code_word (m := ⟨1, 3⟩) (meth := k1m3) (c := k1c3) (by decide +kernel) rfl rfl rfl (by decide +kernel)
set_option maxRecDepth 65536 in
theorem w_c27 : (Jvm.Cond.code ({ cls := "com/example/cardea/cardea/Base64TextDecodePinLaw", name := "quad", desc := "([III[CI)V" } : Jvm.MethodName) method_3_code (9 : Nat) (Option.none : Option Jvm.ClassFile.FieldType)).before args0 about1 = true := code_word (m := ⟨1, 2⟩) (meth := k1m2) (c := k1c2) (by decide +kernel) rfl rfl rfl (by decide +kernel)
set_option maxRecDepth 65536 in
theorem w_c28 : (Jvm.Cond.code ({ cls := "com/example/cardea/cardea/Base64TextDecodePinLaw", name := "sym", desc := "(I)C" } : Jvm.MethodName) method_2_code (2 : Nat) (Option.some Jvm.ClassFile.FieldType.char)).before args0 about1 = true := code_word (m := ⟨1, 1⟩) (meth := k1m1) (c := k1c1) (by decide +kernel) rfl rfl rfl (by decide +kernel)
set_option maxRecDepth 65536 in
theorem w_c29 : (Jvm.Cond.code ({ cls := "java/lang/StringUTF16", name := "compress", desc := "([CII)[B" } : Jvm.MethodName) jdk_52_method_16_code (6 : Nat) (Option.some (Jvm.ClassFile.FieldType.array Jvm.ClassFile.FieldType.byte))).before args0 about1 = true := code_word (m := ⟨21, 2⟩) (meth := k21m2) (c := k21c2) (by decide +kernel) rfl rfl rfl (by decide +kernel)
set_option maxRecDepth 65536 in
theorem w_c30 : (Jvm.Cond.code ({ cls := "java/lang/StringUTF16", name := "compress", desc := "([CI[BII)I" } : Jvm.MethodName) jdk_52_method_21_code (7 : Nat) (Option.some Jvm.ClassFile.FieldType.int)).before args0 about1 = true := code_word (m := ⟨21, 3⟩) (meth := k21m3) (c := k21c3) (by decide +kernel) rfl rfl rfl (by decide +kernel)
set_option maxRecDepth 65536 in
theorem w_c31 : (Jvm.Cond.code ({ cls := "java/lang/StringUTF16", name := "coderFromArrayLen", desc := "([BI)B" } : Jvm.MethodName) jdk_52_method_15_code (2 : Nat) (Option.some Jvm.ClassFile.FieldType.byte)).before args0 about1 = true := code_word (m := ⟨21, 1⟩) (meth := k21m1) (c := k21c1) (by decide +kernel) rfl rfl rfl (by decide +kernel)
set_option maxRecDepth 65536 in
theorem w_c32 : (Jvm.Cond.code ({ cls := "java/util/Arrays", name := "copyOfRange", desc := "([BII)[B" } : Jvm.MethodName) jdk_65_method_132_code (3 : Nat) (Option.some (Jvm.ClassFile.FieldType.array Jvm.ClassFile.FieldType.byte))).before args0 about1 = true := code_word (m := ⟨22, 1⟩) (meth := k22m1) (c := k22c1) (by decide +kernel) rfl rfl rfl (by decide +kernel)
set_option maxRecDepth 65536 in
theorem w_c33 : (Jvm.Cond.code ({ cls := "java/util/Base64$Decoder", name := "decodeBlock", desc := "([BII[BIZZ)I" } : Jvm.MethodName) jdk_2450_method_8_code (16 : Nat) (Option.some Jvm.ClassFile.FieldType.int)).before args0 about1 = true := code_word (m := ⟨10, 3⟩) (meth := k10m3) (c := k10c3) (by decide +kernel) rfl rfl rfl (by decide +kernel)
set_option maxRecDepth 65536 in
theorem w_c34 : (Jvm.Cond.code ({ cls := "java/lang/Math", name := "min", desc := "(II)I" } : Jvm.MethodName) jdk_29_method_69_code (2 : Nat) (Option.some Jvm.ClassFile.FieldType.int)).before args0 about1 = true := code_word (m := ⟨18, 3⟩) (meth := k18m3) (c := k18c3) (by decide +kernel) rfl rfl rfl (by decide +kernel)
set_option maxRecDepth 65536 in
theorem w_c35 : (Jvm.Cond.code ({ cls := "java/util/Base64$Encoder", name := "encodeBlock", desc := "([BII[BIZ)V" } : Jvm.MethodName) jdk_2452_method_9_code (11 : Nat) (Option.none : Option Jvm.ClassFile.FieldType)).before args0 about1 = true := code_word (m := ⟨17, 3⟩) (meth := k17m3) (c := k17c3) (by decide +kernel) rfl rfl rfl (by decide +kernel)
def codes1 : List Jvm.Cond := [Jvm.Cond.code x code maxLocals ret, Jvm.Cond.code ({ cls := "java/lang/String", name := "<init>", desc := "([C)V" } : Jvm.MethodName) jdk_42_method_3_code (2 : Nat) (Option.none : Option Jvm.ClassFile.FieldType), Jvm.Cond.code ({ cls := "java/lang/String", name := "<init>", desc := "([CIILjava/lang/Void;)V" } : Jvm.MethodName) jdk_42_method_149_code (6 : Nat) (Option.none : Option Jvm.ClassFile.FieldType), Jvm.Cond.code ({ cls := "java/lang/Object", name := "<init>", desc := "()V" } : Jvm.MethodName) object_method_1_code (1 : Nat) (Option.none : Option Jvm.ClassFile.FieldType), Jvm.Cond.code ({ cls := "java/util/Base64", name := "getDecoder", desc := "()Ljava/util/Base64$Decoder;" } : Jvm.MethodName) jdk_2448_method_6_code (0 : Nat) (Option.some (Jvm.ClassFile.FieldType.object "java/util/Base64$Decoder")), Jvm.Cond.code ({ cls := "java/util/Base64$Decoder", name := "decode", desc := "(Ljava/lang/String;)[B" } : Jvm.MethodName) jdk_2450_method_3_code (2 : Nat) (Option.some (Jvm.ClassFile.FieldType.array Jvm.ClassFile.FieldType.byte)), Jvm.Cond.code ({ cls := "java/lang/String", name := "getBytes", desc := "(Ljava/nio/charset/Charset;)[B" } : Jvm.MethodName) jdk_42_method_64_code (2 : Nat) (Option.some (Jvm.ClassFile.FieldType.array Jvm.ClassFile.FieldType.byte)), Jvm.Cond.code ({ cls := "java/lang/String", name := "coder", desc := "()B" } : Jvm.MethodName) jdk_42_method_152_code (1 : Nat) (Option.some Jvm.ClassFile.FieldType.byte), Jvm.Cond.code ({ cls := "java/lang/String", name := "encode", desc := "(Ljava/nio/charset/Charset;B[B)[B" } : Jvm.MethodName) jdk_42_method_18_code (3 : Nat) (Option.some (Jvm.ClassFile.FieldType.array Jvm.ClassFile.FieldType.byte)), Jvm.Cond.code ({ cls := "java/lang/String", name := "encode8859_1", desc := "(B[B)[B" } : Jvm.MethodName) jdk_42_method_26_code (2 : Nat) (Option.some (Jvm.ClassFile.FieldType.array Jvm.ClassFile.FieldType.byte)), Jvm.Cond.code ({ cls := "java/lang/String", name := "encode8859_1", desc := "(B[BZ)[B" } : Jvm.MethodName) jdk_42_method_27_code (10 : Nat) (Option.some (Jvm.ClassFile.FieldType.array Jvm.ClassFile.FieldType.byte)), Jvm.Cond.code ({ cls := "java/util/Base64$Decoder", name := "decode", desc := "([B)[B" } : Jvm.MethodName) jdk_2450_method_2_code (4 : Nat) (Option.some (Jvm.ClassFile.FieldType.array Jvm.ClassFile.FieldType.byte)), Jvm.Cond.code ({ cls := "java/util/Base64$Decoder", name := "decodedOutLength", desc := "([BII)I" } : Jvm.MethodName) jdk_2450_method_7_code (9 : Nat) (Option.some Jvm.ClassFile.FieldType.int), Jvm.Cond.code ({ cls := "java/util/Base64$Decoder", name := "decode0", desc := "([BII[B)I" } : Jvm.MethodName) jdk_2450_method_9_code (11 : Nat) (Option.some Jvm.ClassFile.FieldType.int), Jvm.Cond.code ({ cls := "com/example/cardea/cardea/Base64Text", name := "encode", desc := "([B)Ljava/lang/String;" } : Jvm.MethodName) prog_2_method_2_code (1 : Nat) (Option.some (Jvm.ClassFile.FieldType.object "java/lang/String")), Jvm.Cond.code ({ cls := "java/util/Base64", name := "getEncoder", desc := "()Ljava/util/Base64$Encoder;" } : Jvm.MethodName) jdk_2448_method_2_code (0 : Nat) (Option.some (Jvm.ClassFile.FieldType.object "java/util/Base64$Encoder")), Jvm.Cond.code ({ cls := "java/util/Base64$Encoder", name := "encodeToString", desc := "([B)Ljava/lang/String;" } : Jvm.MethodName) jdk_2452_method_5_code (3 : Nat) (Option.some (Jvm.ClassFile.FieldType.object "java/lang/String")), Jvm.Cond.code ({ cls := "java/util/Base64$Encoder", name := "encode", desc := "([B)[B" } : Jvm.MethodName) jdk_2452_method_3_code (5 : Nat) (Option.some (Jvm.ClassFile.FieldType.array Jvm.ClassFile.FieldType.byte)), Jvm.Cond.code ({ cls := "java/lang/Math", name := "addExact", desc := "(II)I" } : Jvm.MethodName) jdk_29_method_24_code (3 : Nat) (Option.some Jvm.ClassFile.FieldType.int), Jvm.Cond.code ({ cls := "java/lang/Math", name := "multiplyExact", desc := "(II)I" } : Jvm.MethodName) jdk_29_method_28_code (4 : Nat) (Option.some Jvm.ClassFile.FieldType.int), Jvm.Cond.code ({ cls := "java/util/Base64$Encoder", name := "encode0", desc := "([BII[B)I" } : Jvm.MethodName) jdk_2452_method_10_code (16 : Nat) (Option.some Jvm.ClassFile.FieldType.int), Jvm.Cond.code ({ cls := "java/lang/String", name := "<init>", desc := "([BIII)V" } : Jvm.MethodName) jdk_42_method_7_code (7 : Nat) (Option.none : Option Jvm.ClassFile.FieldType), Jvm.Cond.code ({ cls := "java/lang/String", name := "checkBoundsOffCount", desc := "(III)I" } : Jvm.MethodName) jdk_42_method_157_code (3 : Nat) (Option.some Jvm.ClassFile.FieldType.int), Jvm.Cond.code ({ cls := "jdk/internal/util/Preconditions", name := "checkFromIndexSize", desc := "(IIILjava/util/function/BiFunction;)I" } : Jvm.MethodName) jdk_41_method_13_code (4 : Nat) (Option.some Jvm.ClassFile.FieldType.int), Jvm.Cond.code ({ cls := "java/lang/String", name := "equals", desc := "(Ljava/lang/Object;)Z" } : Jvm.MethodName) jdk_42_method_66_code (3 : Nat) (Option.some Jvm.ClassFile.FieldType.boolean), Jvm.Cond.code ({ cls := "java/lang/StringLatin1", name := "equals", desc := "([B[B)Z" } : Jvm.MethodName) jdk_43_method_13_code (3 : Nat) (Option.some Jvm.ClassFile.FieldType.boolean), Jvm.Cond.code ({ cls := "com/example/cardea/cardea/Base64TextDecodePinLaw", name := "at", desc := "([B[III)Z" } : Jvm.MethodName) method_4_code (4 : Nat) (Option.some Jvm.ClassFile.FieldType.boolean), Jvm.Cond.code ({ cls := "com/example/cardea/cardea/Base64TextDecodePinLaw", name := "quad", desc := "([III[CI)V" } : Jvm.MethodName) method_3_code (9 : Nat) (Option.none : Option Jvm.ClassFile.FieldType), Jvm.Cond.code ({ cls := "com/example/cardea/cardea/Base64TextDecodePinLaw", name := "sym", desc := "(I)C" } : Jvm.MethodName) method_2_code (2 : Nat) (Option.some Jvm.ClassFile.FieldType.char), Jvm.Cond.code ({ cls := "java/lang/StringUTF16", name := "compress", desc := "([CII)[B" } : Jvm.MethodName) jdk_52_method_16_code (6 : Nat) (Option.some (Jvm.ClassFile.FieldType.array Jvm.ClassFile.FieldType.byte)), Jvm.Cond.code ({ cls := "java/lang/StringUTF16", name := "compress", desc := "([CI[BII)I" } : Jvm.MethodName) jdk_52_method_21_code (7 : Nat) (Option.some Jvm.ClassFile.FieldType.int), Jvm.Cond.code ({ cls := "java/lang/StringUTF16", name := "coderFromArrayLen", desc := "([BI)B" } : Jvm.MethodName) jdk_52_method_15_code (2 : Nat) (Option.some Jvm.ClassFile.FieldType.byte), Jvm.Cond.code ({ cls := "java/util/Arrays", name := "copyOfRange", desc := "([BII)[B" } : Jvm.MethodName) jdk_65_method_132_code (3 : Nat) (Option.some (Jvm.ClassFile.FieldType.array Jvm.ClassFile.FieldType.byte)), Jvm.Cond.code ({ cls := "java/util/Base64$Decoder", name := "decodeBlock", desc := "([BII[BIZZ)I" } : Jvm.MethodName) jdk_2450_method_8_code (16 : Nat) (Option.some Jvm.ClassFile.FieldType.int), Jvm.Cond.code ({ cls := "java/lang/Math", name := "min", desc := "(II)I" } : Jvm.MethodName) jdk_29_method_69_code (2 : Nat) (Option.some Jvm.ClassFile.FieldType.int), Jvm.Cond.code ({ cls := "java/util/Base64$Encoder", name := "encodeBlock", desc := "([BII[BIZ)V" } : Jvm.MethodName) jdk_2452_method_9_code (11 : Nat) (Option.none : Option Jvm.ClassFile.FieldType)]
set_option maxRecDepth 65536 in
theorem codes_eq : words1.filter isCode = codes1 := rfl
theorem w_codes : ∀ c ∈ words1.filter isCode, c.before args0 about1 = true := by
  rw [codes_eq]
  intro c hc
  simp only [codes1, List.mem_cons, List.not_mem_nil, or_false] at hc
  rcases hc with rfl | rfl | rfl | rfl | rfl | rfl | rfl | rfl | rfl | rfl | rfl | rfl | rfl | rfl | rfl | rfl | rfl | rfl | rfl | rfl | rfl | rfl | rfl | rfl | rfl | rfl | rfl | rfl | rfl | rfl | rfl | rfl | rfl | rfl | rfl | rfl
  · exact w_c0
  · exact w_c1
  · exact w_c2
  · exact w_c3
  · exact w_c4
  · exact w_c5
  · exact w_c6
  · exact w_c7
  · exact w_c8
  · exact w_c9
  · exact w_c10
  · exact w_c11
  · exact w_c12
  · exact w_c13
  · exact w_c14
  · exact w_c15
  · exact w_c16
  · exact w_c17
  · exact w_c18
  · exact w_c19
  · exact w_c20
  · exact w_c21
  · exact w_c22
  · exact w_c23
  · exact w_c24
  · exact w_c25
  · exact w_c26
  · exact w_c27
  · exact w_c28
  · exact w_c29
  · exact w_c30
  · exact w_c31
  · exact w_c32
  · exact w_c33
  · exact w_c34
  · exact w_c35
set_option maxRecDepth 65536 in
theorem w_t1 : (words1.take 24).all (fun c => isCode c || c.before args0 about1) = true := by decide +kernel
set_option maxRecDepth 65536 in
theorem w_t2 : ((words1.drop 24).take 24).all (fun c => isCode c || c.before args0 about1) = true := by decide +kernel
set_option maxRecDepth 65536 in
theorem w_t3 : (((words1.drop 24).drop 24).take 24).all (fun c => isCode c || c.before args0 about1) = true := by decide +kernel
set_option maxRecDepth 65536 in
theorem w_t4 : ((((words1.drop 24).drop 24).drop 24).take 24).all (fun c => isCode c || c.before args0 about1) = true := by decide +kernel
set_option maxRecDepth 65536 in
theorem w_t5 : (((((words1.drop 24).drop 24).drop 24).drop 24).take 24).all (fun c => isCode c || c.before args0 about1) = true := by decide +kernel
set_option maxRecDepth 65536 in
theorem w_t6 : ((((((words1.drop 24).drop 24).drop 24).drop 24).drop 24).take 24).all (fun c => isCode c || c.before args0 about1) = true := by decide +kernel
set_option maxRecDepth 65536 in
theorem w_t7 : (((((((words1.drop 24).drop 24).drop 24).drop 24).drop 24).drop 24).take 24).all (fun c => isCode c || c.before args0 about1) = true := by decide +kernel
set_option maxRecDepth 65536 in
theorem w_t8 : ((((((((words1.drop 24).drop 24).drop 24).drop 24).drop 24).drop 24).drop 24).take 24).all (fun c => isCode c || c.before args0 about1) = true := by decide +kernel
set_option maxRecDepth 65536 in
theorem w_t9 : ((((((((words1.drop 24).drop 24).drop 24).drop 24).drop 24).drop 24).drop 24).drop 24).all (fun c => isCode c || c.before args0 about1) = true := by decide +kernel
theorem w_tables : (allAtoms (Jvm.Cond.code x code maxLocals ret :: tables_1)).before args0 about1 = true := by
  rw [allAtoms_all]
  show words1.all (fun c => c.before args0 about1) = true
  refine all_split ?_ w_codes
  rw [← List.take_append_drop 24 words1, List.all_append, w_t1, ← List.take_append_drop 24 (words1.drop 24), List.all_append, w_t2, ← List.take_append_drop 24 ((words1.drop 24).drop 24), List.all_append, w_t3, ← List.take_append_drop 24 (((words1.drop 24).drop 24).drop 24), List.all_append, w_t4, ← List.take_append_drop 24 ((((words1.drop 24).drop 24).drop 24).drop 24), List.all_append, w_t5, ← List.take_append_drop 24 (((((words1.drop 24).drop 24).drop 24).drop 24).drop 24), List.all_append, w_t6, ← List.take_append_drop 24 ((((((words1.drop 24).drop 24).drop 24).drop 24).drop 24).drop 24), List.all_append, w_t7, ← List.take_append_drop 24 (((((((words1.drop 24).drop 24).drop 24).drop 24).drop 24).drop 24).drop 24), List.all_append, w_t8, w_t9]
  rfl
set_option maxRecDepth 65536 in
theorem w_rest : rest_1_c.before args0 about1 = true := by decide +kernel
set_option maxRecDepth 65536 in
theorem w_case : (Jvm.Cond.and given_1 narrow_1).before args0 about1 = true := by decide +kernel
set_option maxRecDepth 65536 in
theorem w_consts : constsHeld consts_1 about1 := Jvm.Lit.constsHeldB_iff.mp (by decide +kernel)
theorem w_applies : (headSpec (Jvm.Cond.code x code maxLocals ret :: tables_1) room_1).applies x e0.platform about1 = true :=
  (Spec.applies_iff w_frames).mpr ⟨w_running, w_runnable, w_alone, w_named, w_hears, w_ripe, w_room, w_tables⟩
theorem atStart : AtStart classFile x code maxLocals ret World_1 tables_1 room_1 Calls_1 rest_1 Pre_1 launch0 p0 e0 about1 theMethod args0 below0 :=
  ⟨lists_1, trivial, launch0.admits_env _ _ _, launch0.least_env, fairChoices_fair.cas, fairChoices_fair.clock, w_frames, w_args, w_heap, w_applies, ⟨w_consts, trivial⟩, w_rest, w_case⟩
end start1
theorem witness_1 : WitnessClaimed_1 := ⟨start1.p0, start1.e0, start1.about1, start1.theMethod, start1.args0, start1.below0, start1.atStart⟩
end Jvm.Pilot.@@N@@
