import JvmDerived
import JvmDerived.Pilot.@@N@@Statement
import JvmDerived.Pilot.@@N@@Code
set_option linter.unusedVariables false
set_option linter.unusedSimpArgs false
namespace Jvm.Pilot.@@N@@
open Jvm Jvm.ClassFile Sem Op Lib Jvm.Free Jvm.Stand Jvm.LawKit Jvm.RoadKit Bundle Jvm.Pilot.@@N@@.Jvm.D
/-- cells made since the law began, none of them a booked literal's -/
def OwnL (Z : State) (EL : List (String × Nat)) (n0 : Nat) (vm : Vm) (h : Heap) (sf : List Addr) : Prop := ∀ x ∈ sf, x < h.size ∧ n0 ≤ x ∧ Safe Z EL vm h x
/-- all that a walk bears at one point -/
def Wk (l : Launch) (Z : State) (a0 : Array Value) (EL : List (String × Nat)) (n0 : Nat) (R : Room) (own : String) (bytes : ByteArray) (maxL : Nat) (ret : Option FieldType) (nm : String) (h : Heap) (sf : List Addr) (ce sl : Nat)
    (p : Program) (e : Env) (s : State) (m : MethodId) (args : Array Value) (below : List Frame) (meth : Method) (c : Code) (T : State) : Prop :=
  (p.tables.exec = Jvm.exec ∧ c.code = bytes ∧ c.maxLocals = maxL ∧ meth.sig.returnType = ret ∧ meth.name = nm ∧ meth.locks = false ∧ EW Z a0 EL ∧ Old Z n0 h) ∧
    ∃ (vm0 : Vm) (locs : List Loc) (k0 : Nat), Stand p l e R (s.setVm vm0) m args below meth c T locs ce sl ∧ T.heap = h ∧ s.Since vm0 k0 ∧ k0 ≤ h.size ∧ Z.Warmed39 vm0 ∧ vm0.findClass own = some m.cls ∧ Fr n0 locs ∧ CHr Z EL s.vm s.heap vm0 h ∧ OwnL Z EL n0 vm0 h sf
/-- the run from here ends as Q says -/
def Fin1 (Z : State) (EL : List (String × Nat)) (n0 : Nat) (R : Room) (Q : Option Value → Heap → List Addr → Prop) (p : Program) (e : Env) (s : State) (below : List Frame) (U : State) : Prop :=
  ∃ t o, Steps p.tables e below U t ∧ t.status = .running ∧ Ended t below o ∧ ∃ v L sf, o = .returned v ∧ Q v t.heap sf ∧ Fr n0 L ∧ CHr Z EL s.vm s.heap t.vm t.heap ∧ OwnL Z EL n0 t.vm t.heap sf ∧ Old Z n0 t.heap ∧ ReturnedEndW s o t L R.cells R.slots
/-- from every such point, with this frame on top, the run ends as Q says -/
def Go (l : Launch) (Z : State) (a0 : Array Value) (EL : List (String × Nat)) (n0 : Nat) (R : Room) (own : String) (bytes : ByteArray) (maxL : Nat) (ret : Option FieldType) (nm : String) (Q : Option Value → Heap → List Addr → Prop)
    (h : Heap) (sf : List Addr) (ce sl pc : Nat) (ls : Array Slot) (st : List Value) : Prop :=
  ∀ p e s m args below meth c T, Wk l Z a0 EL n0 R own bytes maxL ret nm h sf ce sl p e s m args below meth c T → Fin1 Z EL n0 R Q p e s below (T.setTop (mkF m pc ls st))
/-- a body's contract -/
def Con (l : Launch) (Z : State) (EL : List (String × Nat)) (n0 : Nat) (y : MethodName) (bytes : ByteArray) (maxL : Nat) (ret : Option FieldType) (ws : List Jvm.Cond) (R : Room) (as : Array Value) (h : Heap) (sf : List Addr) (Q : Option Value → Heap → List Addr → Prop) : Prop :=
  MetFree l y (head1 (Jvm.Cond.code y bytes maxL ret :: ws) R) (fun a U => a = as ∧ Z.Warmed39 U.vm ∧ U.heap = h ∧ CHv Z EL U.vm h ∧ OwnL Z EL n0 U.vm h sf ∧ Old Z n0 h) (fun _ _ _ _ _ => True)
    (fun _ U o U' => ∃ v L sf', o = .returned v ∧ Q v U'.heap sf' ∧ Fr n0 L ∧ CHr Z EL U.vm U.heap U'.vm U'.heap ∧ OwnL Z EL n0 U'.vm U'.heap sf' ∧ Old Z n0 U'.heap ∧ ReturnedEndW U o U' L R.cells R.slots)
section Walk
variable {l : Launch} {Z : State} {a0 : Array Value} {EL : List (String × Nat)} {n0 : Nat} {R : Room} {own : String} {bytes : ByteArray} {maxL : Nat} {ret : Option FieldType} {nm : String} {Q : Option Value → Heap → List Addr → Prop}
  {h : Heap} {sf : List Addr} {ce sl pc pc' pt : Nat} {ls ls' : Array Slot} {st rest : List Value}
theorem OwnL.nil {vm : Vm} : OwnL Z EL n0 vm h [] := fun _ q => nomatch q
theorem OwnL.cons {vm : Vm} {x : Addr} (h1 : x < h.size) (h2 : n0 ≤ x) (h3 : Safe Z EL vm h x) (O : OwnL Z EL n0 vm h sf) : OwnL Z EL n0 vm h (x :: sf) := fun y q => by
  rcases List.mem_cons.mp q with rfl | q
  · exact ⟨h1, h2, h3⟩
  · exact O y q
theorem OwnL.app {vm : Vm} {sf' : List Addr} (A : OwnL Z EL n0 vm h sf') (B : OwnL Z EL n0 vm h sf) : OwnL Z EL n0 vm h (sf' ++ sf) := fun y q => (List.mem_append.mp q).elim (A y) (B y)
theorem OwnL.sub {vm : Vm} {sf' : List Addr} (B : OwnL Z EL n0 vm h sf) (q : ∀ x ∈ sf', x ∈ sf) : OwnL Z EL n0 vm h sf' := fun y r => B y (q y r)
theorem OwnL.mv {vm vm1 : Vm} {h' : Heap} (A : CHr Z EL vm h vm1 h') (B : OwnL Z EL n0 vm h sf) : OwnL Z EL n0 vm1 h' sf := fun y r => by
  obtain ⟨q1, q2, q3⟩ := B y r
  exact ⟨Nat.lt_of_lt_of_le q1 A.2.1, q2, A.safe q1 q3⟩
/-- fewer owned cells, the same walk -/
theorem Go.sub {sf' : List Addr} (hr : Go l Z a0 EL n0 R own bytes maxL ret nm Q h sf' ce sl pc ls st) (q : ∀ x ∈ sf', x ∈ sf) : Go l Z a0 EL n0 R own bytes maxL ret nm Q h sf ce sl pc ls st := by
  intro p e s m args below meth c T W
  obtain ⟨W1, vm0, locs, k0, X, eT, hS, hk, hZ, hown, N, C, O⟩ := W
  exact hr p e s m args below meth c T ⟨W1, vm0, locs, k0, X, eT, hS, hk, hZ, hown, N, C, O.sub q⟩
theorem Go.old (hr : Old Z n0 h → Go l Z a0 EL n0 R own bytes maxL ret nm Q h sf ce sl pc ls st) : Go l Z a0 EL n0 R own bytes maxL ret nm Q h sf ce sl pc ls st := by
  intro p e s m args below meth c T W
  exact hr W.1.2.2.2.2.2.2.2 p e s m args below meth c T W
theorem Go.owned (hr : (∀ x ∈ sf, x < h.size ∧ n0 ≤ x) → Go l Z a0 EL n0 R own bytes maxL ret nm Q h sf ce sl pc ls st) : Go l Z a0 EL n0 R own bytes maxL ret nm Q h sf ce sl pc ls st := by
  intro p e s m args below meth c T W
  refine hr (fun x q => ?_) p e s m args below meth c T W
  obtain ⟨W1, vm0, locs, k0, X, eT, hS, hk, hZ, hown, N, C, O⟩ := W
  exact ⟨(O x q).1, (O x q).2.1⟩
theorem Go.more {ce' sl' : Nat} (hr : Go l Z a0 EL n0 R own bytes maxL ret nm Q h sf ce' sl' pc ls st) (q1 : ce ≤ ce') (q2 : sl ≤ sl') : Go l Z a0 EL n0 R own bytes maxL ret nm Q h sf ce sl pc ls st := by
  intro p e s m args below meth c T W
  obtain ⟨W1, vm0, locs, k0, X, r⟩ := W
  exact hr p e s m args below meth c T ⟨W1, vm0, locs, k0, ⟨X.admits, X.cas, X.clock, X.frames, X.room, X.hears, X.method, X.code, X.here, X.tail, X.warmed, X.limits, X.bytes, X.same.mono q1 q2⟩, r⟩
theorem Go.mono {Q' : Option Value → Heap → List Addr → Prop} (hr : Go l Z a0 EL n0 R own bytes maxL ret nm Q' h sf ce sl pc ls st) (q : ∀ v h' sf', Q' v h' sf' → Q v h' sf') : Go l Z a0 EL n0 R own bytes maxL ret nm Q h sf ce sl pc ls st := by
  intro p e s m args below meth c T W
  obtain ⟨t, o, h1, h2, h3, v, L, sf', e1, h4, h5⟩ := hr p e s m args below meth c T W
  exact ⟨t, o, h1, h2, h3, v, L, sf', e1, q _ _ _ h4, h5⟩
/-- one step that moves the frame alone -/
theorem go_step (hr : Go l Z a0 EL n0 R own bytes maxL ret nm Q h sf ce sl pc' ls' rest)
    (k : ∀ {p : Program} {e : Env} {m : MethodId} {below : List Frame} {c : Code} {T t : State}, At T m c below → p.tables.exec = Jvm.exec → c.code = bytes → Steps p.tables e below (T.setTop (mkF m pc' ls' rest)) t → Steps p.tables e below (T.setTop (mkF m pc ls st)) t) :
    Go l Z a0 EL n0 R own bytes maxL ret nm Q h sf ce sl pc ls st := by
  intro p e s m args below meth c T W
  obtain ⟨t, o, h1, h2⟩ := hr p e s m args below meth c T W
  obtain ⟨⟨hx, hby, -⟩, vm0, locs, k0, X, -⟩ := W
  exact ⟨t, o, k X.here hx hby h1, h2⟩
/-- one step that may resolve an entry: the heap as it was -/
theorem go_move (hr : Go l Z a0 EL n0 R own bytes maxL ret nm Q h sf ce sl pc' ls' rest)
    (k : ∀ {p : Program} {e : Env} {s : State} {m : MethodId} {args : Array Value} {below : List Frame} {meth : Method} {c : Code} {T : State} {locs : List Loc}, Stand p l e R s m args below meth c T locs ce sl → p.tables.exec = Jvm.exec → c.code = bytes → c.maxLocals = maxL → T.heap = h → Z.Warmed39 s.vm → s.vm.findClass own = some m.cls → Old Z n0 h →
      ∃ T', Stand p l e R s m args below meth c T' locs ce sl ∧ T'.heap = h ∧ ∀ t, Steps p.tables e below (T'.setTop (mkF m pc' ls' rest)) t → Steps p.tables e below (T.setTop (mkF m pc ls st)) t) :
    Go l Z a0 EL n0 R own bytes maxL ret nm Q h sf ce sl pc ls st := by
  intro p e s m args below meth c T W
  obtain ⟨⟨hx, hby, hml, hret, hnm, hlk, hEL, hOld⟩, vm0, locs, k0, X, eT, hS, hk, hZ, hown, N, C, O⟩ := W
  obtain ⟨T', X', eT', st'⟩ := k (s := s.setVm vm0) X hx hby hml eT hZ hown hOld
  obtain ⟨t, o, h1, h2⟩ := hr p e s m args below meth c T' ⟨⟨hx, hby, hml, hret, hnm, hlk, hEL, hOld⟩, vm0, locs, k0, X', eT', hS, hk, hZ, hown, N, C, O⟩
  exact ⟨t, o, st' _ h1, h2⟩
/-- one step that makes cells -/
theorem go_make {P : Heap → Addr → Prop} {ce' sl' : Nat}
    (k : ∀ {p : Program} {e : Env} {s : State} {m : MethodId} {args : Array Value} {below : List Frame} {meth : Method} {c : Code} {T : State} {locs : List Loc}, Stand p l e R s m args below meth c T locs ce sl → p.tables.exec = Jvm.exec → c.code = bytes → c.maxLocals = maxL → T.heap = h → Z.Warmed39 s.vm → s.vm.findClass own = some m.cls →
      ∃ T' h', Stand p l e R s m args below meth c T' locs ce' sl' ∧ T'.heap = h' ∧ Ext h h' ∧ h.size < h'.size ∧ P h' h.size ∧ ∀ t, Steps p.tables e below (T'.setTop (mkF m pc' ls' (.ref h.size :: rest))) t → Steps p.tables e below (T.setTop (mkF m pc ls st)) t)
    (hr : ∀ h' x, x = h.size → Ext h h' → P h' x → Go l Z a0 EL n0 R own bytes maxL ret nm Q h' (x :: sf) ce' sl' pc' ls' (.ref x :: rest)) :
    Go l Z a0 EL n0 R own bytes maxL ret nm Q h sf ce sl pc ls st := by
  intro p e s m args below meth c T W
  obtain ⟨⟨hx, hby, hml, hret, hnm, hlk, hEL, hOld⟩, vm0, locs, k0, X, eT, hS, hk, hZ, hown, N, C, O⟩ := W
  obtain ⟨T', h', X', eT', E, hlt, hP, st'⟩ := k (s := s.setVm vm0) X hx hby hml eT hZ hown
  have A := CHr.ext E C.1
  have hn : n0 ≤ h.size := by have := hOld.1; have := hOld.2.1; omega
  obtain ⟨t, o, h1, h2⟩ := hr h' h.size rfl E hP p e s m args below meth c T' ⟨⟨hx, hby, hml, hret, hnm, hlk, hEL, hOld.ext E⟩, vm0, locs, k0, X', eT', hS, Nat.le_trans hk E.1, hZ, hown, N, C.trans A,
    OwnL.cons hlt hn (Safe.ext E C.1 (Safe.new (Nat.le_refl _))) (O.mv A)⟩
  exact ⟨t, o, st' _ h1, h2⟩
/-- one step that writes one place of an owned cell -/
theorem go_write {x : Addr} {k1 : Nat} {v1 : Value} (hm : x ∈ sf)
    (k : ∀ {p : Program} {e : Env} {s : State} {m : MethodId} {args : Array Value} {below : List Frame} {meth : Method} {c : Code} {T : State} {locs : List Loc}, Stand p l e R s m args below meth c T locs ce sl → p.tables.exec = Jvm.exec → c.code = bytes → meth.name = nm → T.heap = h → Z.Warmed39 s.vm → s.vm.findClass own = some m.cls →
      ∃ T' h', Stand p l e R s m args below meth c T' (locs ++ [⟨x, k1⟩]) ce sl ∧ T'.heap = h' ∧ Wr h h' x k1 v1 ∧ ∀ t, Steps p.tables e below (T'.setTop (mkF m pc' ls' rest)) t → Steps p.tables e below (T.setTop (mkF m pc ls st)) t)
    (hr : ∀ h', Wr h h' x k1 v1 → Go l Z a0 EL n0 R own bytes maxL ret nm Q h' sf ce sl pc' ls' rest) :
    Go l Z a0 EL n0 R own bytes maxL ret nm Q h sf ce sl pc ls st := by
  intro p e s m args below meth c T W
  obtain ⟨⟨hx, hby, hml, hret, hnm, hlk, hEL, hOld⟩, vm0, locs, k0, X, eT, hS, hk, hZ, hown, N, C, O⟩ := W
  obtain ⟨T', h', X', eT', Ww, st'⟩ := k (s := s.setVm vm0) X hx hby hnm eT hZ hown
  obtain ⟨q1, q2, q3⟩ := O x hm
  have A := CHr.wr Ww q3 C.1
  obtain ⟨t, o, h1, h2⟩ := hr h' Ww p e s m args below meth c T' ⟨⟨hx, hby, hml, hret, hnm, hlk, hEL, hOld.wr Ww q2⟩, vm0, _, k0, X', eT', hS, by rw [Ww.size]; exact hk, hZ, hown, N.snoc X' q2, C.trans A, O.mv A⟩
  exact ⟨t, o, st' _ h1, h2⟩
/-- the end -/
theorem go_out {v : Option Value} {sf' : List Addr} (hv : ret = none → v = none) (hc : ce ≤ R.cells) (hs : sl ≤ R.slots) (hsub : ∀ x ∈ sf', x ∈ sf)
    (k : ∀ {p : Program} {e : Env} {s : State} {m : MethodId} {args : Array Value} {below : List Frame} {meth : Method} {c : Code} {T : State} {locs : List Loc} {fs : List Frame}, Stand p l e R s m args below meth c T locs ce sl → p.tables.exec = Jvm.exec → c.code = bytes → meth.sig.returnType = ret →
      (∀ (f : JFrame) (acts : List Action), f.method = m → f.locked = none → f.entered = [] → (doReturn e (T.setTop f) acts v).1 = T.setFrames fs) → Steps p.tables e below (T.setTop (mkF m pc ls st)) (T.setFrames fs))
    (hq : Q v h sf') : Go l Z a0 EL n0 R own bytes maxL ret nm Q h sf ce sl pc ls st := by
  intro p e s m args below meth c T W
  obtain ⟨⟨hx, hby, hml, hret, hnm, hlk, hEL, hOld⟩, vm0, locs, k0, X, eT, hS, hk, hZ, hown, N, C, O⟩ := W
  obtain ⟨fs, hl, hrun, hend, hR⟩ := X.leaveW (v := v) hS (by rw [eT]; exact hk) (by rw [hret]; exact hv) hlk
  have A := CHv.at X hZ hEL C.1
  subst eT
  refine ⟨_, _, k (s := s.setVm vm0) X hx hby hret hl, hrun, hend, v, locs, sf', rfl, hq, N, C.trans A, (O.mv A).sub hsub, hOld, hR.1, hR.2.1, hR.2.2.1, hR.2.2.2.mono hc hs⟩
/-- into a body -/
theorem con_of {y : MethodName} {ws : List Jvm.Cond} {as : Array Value} (hpl : plainFor y = true) (hEW : EW Z a0 EL) (hE : ∀ m, entryFrame m as maxL = mkF m 0 ls [])
    (hr : Go l Z a0 EL n0 R y.cls bytes maxL ret y.name Q h sf 0 0 0 ls []) : Con l Z EL n0 y bytes maxL ret ws R as h sf Q := by
  refine MetFree.of_bodySF hpl hisR ?_
  intro p e s m args below meth c s₁ Bd hml0 hP hK
  obtain ⟨rfl, hZ, hh, hC, hO, hOld⟩ := hP
  have X0 : Stand p l e R s m args below meth c s₁ [] 0 0 := Stand.of_body Bd
  have e0 : s₁.heap = h := by rw [← hh, Bd.state]; rfl
  subst hh
  obtain ⟨t, o, h1, h2⟩ := hr p e s m args below meth c s₁ ⟨⟨Bd.exec, Bd.bytes, hml0, Bd.returns, (name_of_methodNamed Bd.named Bd.method).1, Bd.notSynchronized, hEW, hOld⟩, s.vm, [], 0, X0, e0, (State.WarmedH.refl s).since 0, Nat.zero_le _, hZ, findClass_of_methodNamed Bd.named, Fr.nil n0, CHr.refl hC, hO⟩
  exact ⟨t, o, castTop (hE m) h1, h2⟩
/-- a contract as a payer -/
theorem back_of {p : Program} {e : Env} {s : State} {args : Array Value} {below : List Frame} {vm0 : Vm} {R' : Room} {y : MethodName} {as : Array Value} {len W : Nat}
    (hM : Con l Z EL n0 y bytes maxL ret [] R' as h sf Q) (hZ : Z.Warmed39 vm0) (wc : (Jvm.Cond.code y bytes maxL ret).before a0 Z = true) (wz : (Jvm.Cond.initialized y.cls).before a0 Z = true) (hf : R'.frames + 1 ≤ R.frames) (hl : W + (maxL + 11) + R'.locals ≤ R.locals) (hEL : EW Z a0 EL) (H : CHv Z EL vm0 h) (O : OwnL Z EL n0 vm0 h sf) (hOld : Old Z n0 h) :
    BackS l R p e below (s.setVm vm0) args y len W (fun A a => a = as ∧ A.U.heap = h ∧ A.cells + R'.cells ≤ R.cells ∧ A.slots + R'.slots ≤ R.slots)
      (fun A _ v B => ∃ L sf', Q v B.U.heap sf' ∧ Fr n0 L ∧ OwnL Z EL n0 B.U.vm B.U.heap sf' ∧ Old Z n0 B.U.heap ∧ B.locs = A.locs ++ L ∧ B.cells = A.cells + R'.cells ∧ B.slots = A.slots + R'.slots ∧ CHr Z EL vm0 h B.U.vm B.U.heap) :=
  BackS.of_freeW (bytes := bytes) (maxL := maxL) (ret := ret) (E := fun _ first o t L k n => k = R'.cells ∧ n = R'.slots ∧ Fr n0 L ∧ (∃ v sf', o = .returned v ∧ Q v t.heap sf' ∧ OwnL Z EL n0 t.vm t.heap sf' ∧ Old Z n0 t.heap) ∧ CHr Z EL first.vm first.heap t.vm t.heap) hM hf hl
    (fun m meth c A a Y hp => have hU : Z.Warmed39 A.U.vm := wtrans (s := s.setVm vm0) hZ Y.warmed
      ⟨by show (Jvm.Cond.and _ .tt).before a A.U = true; rw [Cond.before_and, RoadKit.mv hU wc]; rfl, RoadKit.mv hU wc, RoadKit.mv hU wz, hp.2.2.1, hp.2.2.2⟩)
    (fun m meth c A a g mk Y hp => ⟨hp.1, wtrans (s := s.setVm vm0) hZ Y.warmed, hp.2.1, (CHv.at Y hZ hEL H).1, show OwnL Z EL n0 A.U.vm h sf from O.mv (CHv.at Y hZ hEL H), hOld⟩) (fun _ _ _ _ _ _ _ _ _ => trivial)
    (fun _ _ _ _ ⟨v, L, sf', h1, h2, h3, h4, h5, h6, h7⟩ => ⟨L, _, _, h7, rfl, rfl, h3, ⟨v, sf', h1, h2, h5, h6⟩, h4⟩)
    (fun m meth c A a g mk v t L k n Y hp _ _ ⟨e1, e2, e3, ⟨v', sf', e4, e5, e6, e7⟩, e8⟩ => by
      cases e4; subst e1 e2
      refine ⟨L, sf', e5, e3, e6, e7, rfl, rfl, rfl, (CHv.at Y hZ hEL H).trans ?_⟩
      rw [← hp.2.1]; exact e8)
theorem go_aloadN {k : Fin 4} {v : Value} (hd : decode bytes pc = .ok (.aload_n k, 1)) (hp : pc + 1 = pc') (hl : ls[k.val]? = some (.val v)) (hv : v.isRef = true) (hr : Go l Z a0 EL n0 R own bytes maxL ret nm Q h sf ce sl pc' ls (v :: st)) : Go l Z a0 EL n0 R own bytes maxL ret nm Q h sf ce sl pc ls st := by
  subst hp
  exact go_step hr fun A hx hb kk => XS.aloadN A hx rfl (Jvm.hb hb hd) hl hv kk
theorem go_aload {k : Nat} {v : Value} (hd : decode bytes pc = .ok (.aload k, 2)) (hp : pc + 2 = pc') (hl : ls[k]? = some (.val v)) (hv : v.isRef = true) (hr : Go l Z a0 EL n0 R own bytes maxL ret nm Q h sf ce sl pc' ls (v :: st)) : Go l Z a0 EL n0 R own bytes maxL ret nm Q h sf ce sl pc ls st := by
  subst hp
  exact go_step hr fun A hx hb kk => XS.aload A hx rfl (Jvm.hb hb hd) hl hv kk
theorem go_iloadN {k : Fin 4} {v : Int32} (hd : decode bytes pc = .ok (.iload_n k, 1)) (hp : pc + 1 = pc') (hl : ls[k.val]? = some (.val (.int v))) (hr : Go l Z a0 EL n0 R own bytes maxL ret nm Q h sf ce sl pc' ls (.int v :: st)) : Go l Z a0 EL n0 R own bytes maxL ret nm Q h sf ce sl pc ls st := by
  subst hp
  exact go_step hr fun A hx hb kk => XS.iloadN A hx rfl (Jvm.hb hb hd) hl kk
theorem go_iload {k : Nat} {v : Int32} (hd : decode bytes pc = .ok (.iload k, 2)) (hp : pc + 2 = pc') (hl : ls[k]? = some (.val (.int v))) (hr : Go l Z a0 EL n0 R own bytes maxL ret nm Q h sf ce sl pc' ls (.int v :: st)) : Go l Z a0 EL n0 R own bytes maxL ret nm Q h sf ce sl pc ls st := by
  subst hp
  exact go_step hr fun A hx hb kk => XS.iload A hx rfl (Jvm.hb hb hd) hl kk
theorem go_lloadN {k : Fin 4} {v : Int64} (hd : decode bytes pc = .ok (.lload_n k, 1)) (hp : pc + 1 = pc') (hl : ls[k.val]? = some (.val (.long v))) (hr : Go l Z a0 EL n0 R own bytes maxL ret nm Q h sf ce sl pc' ls (.long v :: st)) : Go l Z a0 EL n0 R own bytes maxL ret nm Q h sf ce sl pc ls st := by
  subst hp
  exact go_step hr fun A hx hb kk => XT.lloadN A hx rfl (Jvm.hb hb hd) hl kk
theorem go_lload {k : Nat} {v : Int64} (hd : decode bytes pc = .ok (.lload k, 2)) (hp : pc + 2 = pc') (hl : ls[k]? = some (.val (.long v))) (hr : Go l Z a0 EL n0 R own bytes maxL ret nm Q h sf ce sl pc' ls (.long v :: st)) : Go l Z a0 EL n0 R own bytes maxL ret nm Q h sf ce sl pc ls st := by
  subst hp
  exact go_step hr fun A hx hb kk => XT.lload A hx rfl (Jvm.hb hb hd) hl kk
theorem go_iconst {i : Int} (v : Int32) (hd : decode bytes pc = .ok (.iconst i, 1)) (hp : pc + 1 = pc') (hv : Int32.ofInt i = v) (hr : Go l Z a0 EL n0 R own bytes maxL ret nm Q h sf ce sl pc' ls (.int v :: st)) : Go l Z a0 EL n0 R own bytes maxL ret nm Q h sf ce sl pc ls st := by
  subst hp
  exact go_step hr fun A hx hb kk => XT.iconstV A hx rfl v (Jvm.hb hb hd) hv kk
theorem go_bipush {i : Int} (v : Int32) (hd : decode bytes pc = .ok (.bipush i, 2)) (hp : pc + 2 = pc') (hv : (Int8.ofInt i).toInt32 = v) (hr : Go l Z a0 EL n0 R own bytes maxL ret nm Q h sf ce sl pc' ls (.int v :: st)) : Go l Z a0 EL n0 R own bytes maxL ret nm Q h sf ce sl pc ls st := by
  subst hp
  exact go_step hr fun A hx hb kk => XT.bipushV A hx rfl v (Jvm.hb hb hd) hv kk
theorem go_sipush {i : Int} (v : Int32) (hd : decode bytes pc = .ok (.sipush i, 3)) (hp : pc + 3 = pc') (hv : (Int16.ofInt i).toInt32 = v) (hr : Go l Z a0 EL n0 R own bytes maxL ret nm Q h sf ce sl pc' ls (.int v :: st)) : Go l Z a0 EL n0 R own bytes maxL ret nm Q h sf ce sl pc ls st := by
  subst hp
  exact go_step hr fun A hx hb kk => XT.sipushV A hx rfl v (Jvm.hb hb hd) hv kk
theorem go_lconst {k : Fin 2} (v : Int64) (hd : decode bytes pc = .ok (.lconst k, 1)) (hp : pc + 1 = pc') (hv : Int64.ofNat k = v) (hr : Go l Z a0 EL n0 R own bytes maxL ret nm Q h sf ce sl pc' ls (.long v :: st)) : Go l Z a0 EL n0 R own bytes maxL ret nm Q h sf ce sl pc ls st := by
  subst hp
  exact go_step hr fun A hx hb kk => XT.lconstV A hx rfl v (Jvm.hb hb hd) hv kk
theorem go_aconstNull (hd : decode bytes pc = .ok (.aconst_null, 1)) (hp : pc + 1 = pc') (hr : Go l Z a0 EL n0 R own bytes maxL ret nm Q h sf ce sl pc' ls (.null :: st)) : Go l Z a0 EL n0 R own bytes maxL ret nm Q h sf ce sl pc ls st := by
  subst hp
  exact go_step hr fun A hx hb kk => XS.aconstNull A hx rfl (Jvm.hb hb hd) kk
theorem go_iadd {x y : Int32} (hd : decode bytes pc = .ok (.iadd, 1)) (hp : pc + 1 = pc') (hr : Go l Z a0 EL n0 R own bytes maxL ret nm Q h sf ce sl pc' ls (.int (x + y) :: st)) : Go l Z a0 EL n0 R own bytes maxL ret nm Q h sf ce sl pc ls (.int y :: .int x :: st) := by
  subst hp
  exact go_step hr fun A hx hb kk => XS.iadd A hx rfl (Jvm.hb hb hd) rfl kk
theorem go_isub {x y : Int32} (hd : decode bytes pc = .ok (.isub, 1)) (hp : pc + 1 = pc') (hr : Go l Z a0 EL n0 R own bytes maxL ret nm Q h sf ce sl pc' ls (.int (x - y) :: st)) : Go l Z a0 EL n0 R own bytes maxL ret nm Q h sf ce sl pc ls (.int y :: .int x :: st) := by
  subst hp
  exact go_step hr fun A hx hb kk => XS.isub A hx rfl (Jvm.hb hb hd) rfl kk
theorem go_imul {x y : Int32} (hd : decode bytes pc = .ok (.imul, 1)) (hp : pc + 1 = pc') (hr : Go l Z a0 EL n0 R own bytes maxL ret nm Q h sf ce sl pc' ls (.int (x * y) :: st)) : Go l Z a0 EL n0 R own bytes maxL ret nm Q h sf ce sl pc ls (.int y :: .int x :: st) := by
  subst hp
  exact go_step hr fun A hx hb kk => XS.imul A hx rfl (Jvm.hb hb hd) rfl kk
theorem go_iand {x y : Int32} (hd : decode bytes pc = .ok (.iand, 1)) (hp : pc + 1 = pc') (hr : Go l Z a0 EL n0 R own bytes maxL ret nm Q h sf ce sl pc' ls (.int (x &&& y) :: st)) : Go l Z a0 EL n0 R own bytes maxL ret nm Q h sf ce sl pc ls (.int y :: .int x :: st) := by
  subst hp
  exact go_step hr fun A hx hb kk => XS.iand A hx rfl (Jvm.hb hb hd) rfl kk
theorem go_ior {x y : Int32} (hd : decode bytes pc = .ok (.ior, 1)) (hp : pc + 1 = pc') (hr : Go l Z a0 EL n0 R own bytes maxL ret nm Q h sf ce sl pc' ls (.int (x ||| y) :: st)) : Go l Z a0 EL n0 R own bytes maxL ret nm Q h sf ce sl pc ls (.int y :: .int x :: st) := by
  subst hp
  exact go_step hr fun A hx hb kk => XT.ior A hx rfl (Jvm.hb hb hd) rfl kk
theorem go_ixor {x y : Int32} (hd : decode bytes pc = .ok (.ixor, 1)) (hp : pc + 1 = pc') (hr : Go l Z a0 EL n0 R own bytes maxL ret nm Q h sf ce sl pc' ls (.int (x ^^^ y) :: st)) : Go l Z a0 EL n0 R own bytes maxL ret nm Q h sf ce sl pc ls (.int y :: .int x :: st) := by
  subst hp
  exact go_step hr fun A hx hb kk => XT.ixor A hx rfl (Jvm.hb hb hd) rfl kk
theorem go_iushr {x y : Int32} (hd : decode bytes pc = .ok (.iushr, 1)) (hp : pc + 1 = pc') (hr : Go l Z a0 EL n0 R own bytes maxL ret nm Q h sf ce sl pc' ls (.int (XT.ushr x y) :: st)) : Go l Z a0 EL n0 R own bytes maxL ret nm Q h sf ce sl pc ls (.int y :: .int x :: st) := by
  subst hp
  exact go_step hr fun A hx hb kk => XT.iushr A hx rfl (Jvm.hb hb hd) rfl kk
theorem go_ishl {x y : Int32} (hd : decode bytes pc = .ok (.ishl, 1)) (hp : pc + 1 = pc') (hr : Go l Z a0 EL n0 R own bytes maxL ret nm Q h sf ce sl pc' ls (.int (x <<< (y &&& 31)) :: st)) : Go l Z a0 EL n0 R own bytes maxL ret nm Q h sf ce sl pc ls (.int y :: .int x :: st) := by
  subst hp
  exact go_step hr fun A hx hb kk => XT.ishl A hx rfl (Jvm.hb hb hd) rfl kk
theorem go_ishr {x y : Int32} (hd : decode bytes pc = .ok (.ishr, 1)) (hp : pc + 1 = pc') (hr : Go l Z a0 EL n0 R own bytes maxL ret nm Q h sf ce sl pc' ls (.int (x >>> (y &&& 31)) :: st)) : Go l Z a0 EL n0 R own bytes maxL ret nm Q h sf ce sl pc ls (.int y :: .int x :: st) := by
  subst hp
  exact go_step hr fun A hx hb kk => XT.ishr A hx rfl (Jvm.hb hb hd) rfl kk
theorem go_ineg {x : Int32} (hd : decode bytes pc = .ok (.ineg, 1)) (hp : pc + 1 = pc') (hr : Go l Z a0 EL n0 R own bytes maxL ret nm Q h sf ce sl pc' ls (.int (-x) :: st)) : Go l Z a0 EL n0 R own bytes maxL ret nm Q h sf ce sl pc ls (.int x :: st) := by
  subst hp
  exact go_step hr fun A hx hb kk => XS.ineg A hx rfl (Jvm.hb hb hd) rfl kk
theorem go_i2b {x : Int32} (hd : decode bytes pc = .ok (.i2b, 1)) (hp : pc + 1 = pc') (hr : Go l Z a0 EL n0 R own bytes maxL ret nm Q h sf ce sl pc' ls (.int x.toInt8.toInt32 :: st)) : Go l Z a0 EL n0 R own bytes maxL ret nm Q h sf ce sl pc ls (.int x :: st) := by
  subst hp
  exact go_step hr fun A hx hb kk => XT.i2b A hx rfl (Jvm.hb hb hd) rfl kk
theorem go_i2c {x : Int32} (hd : decode bytes pc = .ok (.i2c, 1)) (hp : pc + 1 = pc') (hr : Go l Z a0 EL n0 R own bytes maxL ret nm Q h sf ce sl pc' ls (.int x.toUInt32.toUInt16.toUInt32.toInt32 :: st)) : Go l Z a0 EL n0 R own bytes maxL ret nm Q h sf ce sl pc ls (.int x :: st) := by
  subst hp
  exact go_step hr fun A hx hb kk => XT.i2c A hx rfl (Jvm.hb hb hd) rfl kk
theorem go_i2l {x : Int32} (hd : decode bytes pc = .ok (.i2l, 1)) (hp : pc + 1 = pc') (hr : Go l Z a0 EL n0 R own bytes maxL ret nm Q h sf ce sl pc' ls (.long x.toInt64 :: st)) : Go l Z a0 EL n0 R own bytes maxL ret nm Q h sf ce sl pc ls (.int x :: st) := by
  subst hp
  exact go_step hr fun A hx hb kk => XT.i2l A hx rfl (Jvm.hb hb hd) rfl kk
theorem go_l2i {x : Int64} (hd : decode bytes pc = .ok (.l2i, 1)) (hp : pc + 1 = pc') (hr : Go l Z a0 EL n0 R own bytes maxL ret nm Q h sf ce sl pc' ls (.int x.toInt32 :: st)) : Go l Z a0 EL n0 R own bytes maxL ret nm Q h sf ce sl pc ls (.long x :: st) := by
  subst hp
  exact go_step hr fun A hx hb kk => XT.l2i A hx rfl (Jvm.hb hb hd) rfl kk
theorem go_land {x y : Int64} (hd : decode bytes pc = .ok (.land, 1)) (hp : pc + 1 = pc') (hr : Go l Z a0 EL n0 R own bytes maxL ret nm Q h sf ce sl pc' ls (.long (x &&& y) :: st)) : Go l Z a0 EL n0 R own bytes maxL ret nm Q h sf ce sl pc ls (.long y :: .long x :: st) := by
  subst hp
  exact go_step hr fun A hx hb kk => XT.land A hx rfl (Jvm.hb hb hd) rfl kk
theorem go_lushr {x : Int64} {y : Int32} (hd : decode bytes pc = .ok (.lushr, 1)) (hp : pc + 1 = pc') (hr : Go l Z a0 EL n0 R own bytes maxL ret nm Q h sf ce sl pc' ls (.long (XT.ushrL x y) :: st)) : Go l Z a0 EL n0 R own bytes maxL ret nm Q h sf ce sl pc ls (.int y :: .long x :: st) := by
  subst hp
  exact go_step hr fun A hx hb kk => XT.lushr A hx rfl (Jvm.hb hb hd) rfl kk
theorem go_dup {x : Value} (hd : decode bytes pc = .ok (.dup, 1)) (hp : pc + 1 = pc') (hc : x.category = 1) (hr : Go l Z a0 EL n0 R own bytes maxL ret nm Q h sf ce sl pc' ls (x :: x :: st)) : Go l Z a0 EL n0 R own bytes maxL ret nm Q h sf ce sl pc ls (x :: st) := by
  subst hp
  exact go_step hr fun A hx hb kk => XS.dup A hx rfl (Jvm.hb hb hd) rfl hc kk
theorem go_pop {x : Value} (hd : decode bytes pc = .ok (.pop, 1)) (hp : pc + 1 = pc') (hc : x.category = 1) (hr : Go l Z a0 EL n0 R own bytes maxL ret nm Q h sf ce sl pc' ls st) : Go l Z a0 EL n0 R own bytes maxL ret nm Q h sf ce sl pc ls (x :: st) := by
  subst hp
  exact go_step hr fun A hx hb kk => XT.pop A hx rfl (Jvm.hb hb hd) rfl hc kk
theorem go_dupX1 {x y : Value} (hd : decode bytes pc = .ok (.dup_x1, 1)) (hp : pc + 1 = pc') (hc : x.category = 1) (hc' : y.category = 1) (hr : Go l Z a0 EL n0 R own bytes maxL ret nm Q h sf ce sl pc' ls (x :: y :: x :: st)) : Go l Z a0 EL n0 R own bytes maxL ret nm Q h sf ce sl pc ls (x :: y :: st) := by
  subst hp
  exact go_step hr fun A hx hb kk => XT.dupX1 A hx rfl (Jvm.hb hb hd) rfl hc hc' kk
theorem go_dup2 {x y : Value} (hd : decode bytes pc = .ok (.dup2, 1)) (hp : pc + 1 = pc') (hc : x.category = 1) (hc' : y.category = 1) (hr : Go l Z a0 EL n0 R own bytes maxL ret nm Q h sf ce sl pc' ls (x :: y :: x :: y :: st)) : Go l Z a0 EL n0 R own bytes maxL ret nm Q h sf ce sl pc ls (x :: y :: st) := by
  subst hp
  exact go_step hr fun A hx hb kk => XT.dup2 A hx rfl (Jvm.hb hb hd) rfl hc hc' kk
theorem go_istoreN {k : Fin 4} {x : Int32} (hd : decode bytes pc = .ok (.istore_n k, 1)) (hp : pc + 1 = pc') (ls' : Array Slot) (hl : storeLocals ls k.val (.int x) = some ls') (hr : Go l Z a0 EL n0 R own bytes maxL ret nm Q h sf ce sl pc' ls' st) : Go l Z a0 EL n0 R own bytes maxL ret nm Q h sf ce sl pc ls (.int x :: st) := by
  subst hp
  exact go_step hr fun A hx hb kk => XS.istoreN A hx rfl (Jvm.hb hb hd) rfl hl kk
theorem go_istore {k : Nat} {x : Int32} (hd : decode bytes pc = .ok (.istore k, 2)) (hp : pc + 2 = pc') (ls' : Array Slot) (hl : storeLocals ls k (.int x) = some ls') (hr : Go l Z a0 EL n0 R own bytes maxL ret nm Q h sf ce sl pc' ls' st) : Go l Z a0 EL n0 R own bytes maxL ret nm Q h sf ce sl pc ls (.int x :: st) := by
  subst hp
  exact go_step hr fun A hx hb kk => XS.istore A hx rfl (Jvm.hb hb hd) rfl hl kk
theorem go_astoreN {k : Fin 4} {x : Value} (hd : decode bytes pc = .ok (.astore_n k, 1)) (hp : pc + 1 = pc') (ls' : Array Slot) (hv : x.isRef = true) (hl : storeLocals ls k.val x = some ls') (hr : Go l Z a0 EL n0 R own bytes maxL ret nm Q h sf ce sl pc' ls' st) : Go l Z a0 EL n0 R own bytes maxL ret nm Q h sf ce sl pc ls (x :: st) := by
  subst hp
  exact go_step hr fun A hx hb kk => XS.astoreN A hx rfl (Jvm.hb hb hd) rfl hv hl kk
theorem go_astore {k : Nat} {x : Value} (hd : decode bytes pc = .ok (.astore k, 2)) (hp : pc + 2 = pc') (ls' : Array Slot) (hv : x.isRef = true) (hl : storeLocals ls k x = some ls') (hr : Go l Z a0 EL n0 R own bytes maxL ret nm Q h sf ce sl pc' ls' st) : Go l Z a0 EL n0 R own bytes maxL ret nm Q h sf ce sl pc ls (x :: st) := by
  subst hp
  exact go_step hr fun A hx hb kk => XS.astore A hx rfl (Jvm.hb hb hd) rfl hv hl kk
theorem go_lstoreN {k : Fin 4} {x : Int64} (hd : decode bytes pc = .ok (.lstore_n k, 1)) (hp : pc + 1 = pc') (ls' : Array Slot) (hl : storeLocals ls k.val (.long x) = some ls') (hr : Go l Z a0 EL n0 R own bytes maxL ret nm Q h sf ce sl pc' ls' st) : Go l Z a0 EL n0 R own bytes maxL ret nm Q h sf ce sl pc ls (.long x :: st) := by
  subst hp
  exact go_step hr fun A hx hb kk => XT.lstoreN A hx rfl (Jvm.hb hb hd) rfl hl kk
theorem go_lstore {k : Nat} {x : Int64} (hd : decode bytes pc = .ok (.lstore k, 2)) (hp : pc + 2 = pc') (ls' : Array Slot) (hl : storeLocals ls k (.long x) = some ls') (hr : Go l Z a0 EL n0 R own bytes maxL ret nm Q h sf ce sl pc' ls' st) : Go l Z a0 EL n0 R own bytes maxL ret nm Q h sf ce sl pc ls (.long x :: st) := by
  subst hp
  exact go_step hr fun A hx hb kk => XT.lstore A hx rfl (Jvm.hb hb hd) rfl hl kk
theorem go_iinc {k : Nat} {cst : Int} {x : Int32} (v : Int32) (hd : decode bytes pc = .ok (.iinc k cst, 3)) (hp : pc + 3 = pc') (ls' : Array Slot) (hv : Int32.ofInt cst = v) (hl : ls[k]? = some (.val (.int x))) (hl' : storeLocals ls k (.int (x + v)) = some ls') (hr : Go l Z a0 EL n0 R own bytes maxL ret nm Q h sf ce sl pc' ls' st) : Go l Z a0 EL n0 R own bytes maxL ret nm Q h sf ce sl pc ls st := by
  subst hp
  exact go_step hr fun A hx hb kk => XT.iincV A hx rfl v (Jvm.hb hb hd) hv hl hl' kk
theorem go_goto {o : Int} (hd : decode bytes pc = .ok (.goto o, 3)) (ho : 0 ≤ (pc : Int) + o) (ht : ((pc : Int) + o).toNat = pt) (hr : Go l Z a0 EL n0 R own bytes maxL ret nm Q h sf ce sl pt ls st) : Go l Z a0 EL n0 R own bytes maxL ret nm Q h sf ce sl pc ls st := go_step hr fun A hx hb kk => XS.goto A hx rfl rfl (Jvm.hb hb hd) ho ht kk
theorem go_icmp_eq_t {o : Int} {x y : Int32} (hd : decode bytes pc = .ok (.if_icmp .eq o, 3)) (ho : 0 ≤ (pc : Int) + o) (ht : ((pc : Int) + o).toNat = pt) (hc : x = y) (hr : Go l Z a0 EL n0 R own bytes maxL ret nm Q h sf ce sl pt ls st) : Go l Z a0 EL n0 R own bytes maxL ret nm Q h sf ce sl pc ls (.int y :: .int x :: st) := go_step hr fun A hx hb kk => XS.icmpYes A hx rfl rfl (Jvm.hb hb hd) rfl (XT.ii_eq_t hc) ho ht kk
theorem go_icmp_eq_f {o : Int} {x y : Int32} (hd : decode bytes pc = .ok (.if_icmp .eq o, 3)) (hp : pc + 3 = pc') (hc : ¬ x = y) (hr : Go l Z a0 EL n0 R own bytes maxL ret nm Q h sf ce sl pc' ls st) : Go l Z a0 EL n0 R own bytes maxL ret nm Q h sf ce sl pc ls (.int y :: .int x :: st) := by
  subst hp
  exact go_step hr fun A hx hb kk => XS.icmpNo A hx rfl (Jvm.hb hb hd) rfl (XT.ii_eq_f hc) kk
theorem go_if_eq_t {o : Int} {x : Int32} (hd : decode bytes pc = .ok (.ifCond .eq o, 3)) (ho : 0 ≤ (pc : Int) + o) (ht : ((pc : Int) + o).toNat = pt) (hc : x = 0) (hr : Go l Z a0 EL n0 R own bytes maxL ret nm Q h sf ce sl pt ls st) : Go l Z a0 EL n0 R own bytes maxL ret nm Q h sf ce sl pc ls (.int x :: st) := go_step hr fun A hx hb kk => XS.ifYes A hx rfl rfl (Jvm.hb hb hd) rfl (XT.i0_eq_t hc) ho ht kk
theorem go_if_eq_f {o : Int} {x : Int32} (hd : decode bytes pc = .ok (.ifCond .eq o, 3)) (hp : pc + 3 = pc') (hc : ¬ x = 0) (hr : Go l Z a0 EL n0 R own bytes maxL ret nm Q h sf ce sl pc' ls st) : Go l Z a0 EL n0 R own bytes maxL ret nm Q h sf ce sl pc ls (.int x :: st) := by
  subst hp
  exact go_step hr fun A hx hb kk => XS.ifNo A hx rfl (Jvm.hb hb hd) rfl (XT.i0_eq_f hc) kk
theorem go_icmp_ne_t {o : Int} {x y : Int32} (hd : decode bytes pc = .ok (.if_icmp .ne o, 3)) (ho : 0 ≤ (pc : Int) + o) (ht : ((pc : Int) + o).toNat = pt) (hc : ¬ x = y) (hr : Go l Z a0 EL n0 R own bytes maxL ret nm Q h sf ce sl pt ls st) : Go l Z a0 EL n0 R own bytes maxL ret nm Q h sf ce sl pc ls (.int y :: .int x :: st) := go_step hr fun A hx hb kk => XS.icmpYes A hx rfl rfl (Jvm.hb hb hd) rfl (XT.ii_ne_t hc) ho ht kk
theorem go_icmp_ne_f {o : Int} {x y : Int32} (hd : decode bytes pc = .ok (.if_icmp .ne o, 3)) (hp : pc + 3 = pc') (hc : x = y) (hr : Go l Z a0 EL n0 R own bytes maxL ret nm Q h sf ce sl pc' ls st) : Go l Z a0 EL n0 R own bytes maxL ret nm Q h sf ce sl pc ls (.int y :: .int x :: st) := by
  subst hp
  exact go_step hr fun A hx hb kk => XS.icmpNo A hx rfl (Jvm.hb hb hd) rfl (XT.ii_ne_f hc) kk
theorem go_if_ne_t {o : Int} {x : Int32} (hd : decode bytes pc = .ok (.ifCond .ne o, 3)) (ho : 0 ≤ (pc : Int) + o) (ht : ((pc : Int) + o).toNat = pt) (hc : ¬ x = 0) (hr : Go l Z a0 EL n0 R own bytes maxL ret nm Q h sf ce sl pt ls st) : Go l Z a0 EL n0 R own bytes maxL ret nm Q h sf ce sl pc ls (.int x :: st) := go_step hr fun A hx hb kk => XS.ifYes A hx rfl rfl (Jvm.hb hb hd) rfl (XT.i0_ne_t hc) ho ht kk
theorem go_if_ne_f {o : Int} {x : Int32} (hd : decode bytes pc = .ok (.ifCond .ne o, 3)) (hp : pc + 3 = pc') (hc : x = 0) (hr : Go l Z a0 EL n0 R own bytes maxL ret nm Q h sf ce sl pc' ls st) : Go l Z a0 EL n0 R own bytes maxL ret nm Q h sf ce sl pc ls (.int x :: st) := by
  subst hp
  exact go_step hr fun A hx hb kk => XS.ifNo A hx rfl (Jvm.hb hb hd) rfl (XT.i0_ne_f hc) kk
theorem go_icmp_lt_t {o : Int} {x y : Int32} (hd : decode bytes pc = .ok (.if_icmp .lt o, 3)) (ho : 0 ≤ (pc : Int) + o) (ht : ((pc : Int) + o).toNat = pt) (hc : x < y) (hr : Go l Z a0 EL n0 R own bytes maxL ret nm Q h sf ce sl pt ls st) : Go l Z a0 EL n0 R own bytes maxL ret nm Q h sf ce sl pc ls (.int y :: .int x :: st) := go_step hr fun A hx hb kk => XS.icmpYes A hx rfl rfl (Jvm.hb hb hd) rfl (XT.ii_lt_t hc) ho ht kk
theorem go_icmp_lt_f {o : Int} {x y : Int32} (hd : decode bytes pc = .ok (.if_icmp .lt o, 3)) (hp : pc + 3 = pc') (hc : ¬ x < y) (hr : Go l Z a0 EL n0 R own bytes maxL ret nm Q h sf ce sl pc' ls st) : Go l Z a0 EL n0 R own bytes maxL ret nm Q h sf ce sl pc ls (.int y :: .int x :: st) := by
  subst hp
  exact go_step hr fun A hx hb kk => XS.icmpNo A hx rfl (Jvm.hb hb hd) rfl (XT.ii_lt_f hc) kk
theorem go_if_lt_t {o : Int} {x : Int32} (hd : decode bytes pc = .ok (.ifCond .lt o, 3)) (ho : 0 ≤ (pc : Int) + o) (ht : ((pc : Int) + o).toNat = pt) (hc : x < 0) (hr : Go l Z a0 EL n0 R own bytes maxL ret nm Q h sf ce sl pt ls st) : Go l Z a0 EL n0 R own bytes maxL ret nm Q h sf ce sl pc ls (.int x :: st) := go_step hr fun A hx hb kk => XS.ifYes A hx rfl rfl (Jvm.hb hb hd) rfl (XT.i0_lt_t hc) ho ht kk
theorem go_if_lt_f {o : Int} {x : Int32} (hd : decode bytes pc = .ok (.ifCond .lt o, 3)) (hp : pc + 3 = pc') (hc : ¬ x < 0) (hr : Go l Z a0 EL n0 R own bytes maxL ret nm Q h sf ce sl pc' ls st) : Go l Z a0 EL n0 R own bytes maxL ret nm Q h sf ce sl pc ls (.int x :: st) := by
  subst hp
  exact go_step hr fun A hx hb kk => XS.ifNo A hx rfl (Jvm.hb hb hd) rfl (XT.i0_lt_f hc) kk
theorem go_icmp_ge_t {o : Int} {x y : Int32} (hd : decode bytes pc = .ok (.if_icmp .ge o, 3)) (ho : 0 ≤ (pc : Int) + o) (ht : ((pc : Int) + o).toNat = pt) (hc : ¬ x < y) (hr : Go l Z a0 EL n0 R own bytes maxL ret nm Q h sf ce sl pt ls st) : Go l Z a0 EL n0 R own bytes maxL ret nm Q h sf ce sl pc ls (.int y :: .int x :: st) := go_step hr fun A hx hb kk => XS.icmpYes A hx rfl rfl (Jvm.hb hb hd) rfl (XT.ii_ge_t hc) ho ht kk
theorem go_icmp_ge_f {o : Int} {x y : Int32} (hd : decode bytes pc = .ok (.if_icmp .ge o, 3)) (hp : pc + 3 = pc') (hc : x < y) (hr : Go l Z a0 EL n0 R own bytes maxL ret nm Q h sf ce sl pc' ls st) : Go l Z a0 EL n0 R own bytes maxL ret nm Q h sf ce sl pc ls (.int y :: .int x :: st) := by
  subst hp
  exact go_step hr fun A hx hb kk => XS.icmpNo A hx rfl (Jvm.hb hb hd) rfl (XT.ii_ge_f hc) kk
theorem go_if_ge_t {o : Int} {x : Int32} (hd : decode bytes pc = .ok (.ifCond .ge o, 3)) (ho : 0 ≤ (pc : Int) + o) (ht : ((pc : Int) + o).toNat = pt) (hc : ¬ x < 0) (hr : Go l Z a0 EL n0 R own bytes maxL ret nm Q h sf ce sl pt ls st) : Go l Z a0 EL n0 R own bytes maxL ret nm Q h sf ce sl pc ls (.int x :: st) := go_step hr fun A hx hb kk => XS.ifYes A hx rfl rfl (Jvm.hb hb hd) rfl (XT.i0_ge_t hc) ho ht kk
theorem go_if_ge_f {o : Int} {x : Int32} (hd : decode bytes pc = .ok (.ifCond .ge o, 3)) (hp : pc + 3 = pc') (hc : x < 0) (hr : Go l Z a0 EL n0 R own bytes maxL ret nm Q h sf ce sl pc' ls st) : Go l Z a0 EL n0 R own bytes maxL ret nm Q h sf ce sl pc ls (.int x :: st) := by
  subst hp
  exact go_step hr fun A hx hb kk => XS.ifNo A hx rfl (Jvm.hb hb hd) rfl (XT.i0_ge_f hc) kk
theorem go_icmp_gt_t {o : Int} {x y : Int32} (hd : decode bytes pc = .ok (.if_icmp .gt o, 3)) (ho : 0 ≤ (pc : Int) + o) (ht : ((pc : Int) + o).toNat = pt) (hc : y < x) (hr : Go l Z a0 EL n0 R own bytes maxL ret nm Q h sf ce sl pt ls st) : Go l Z a0 EL n0 R own bytes maxL ret nm Q h sf ce sl pc ls (.int y :: .int x :: st) := go_step hr fun A hx hb kk => XS.icmpYes A hx rfl rfl (Jvm.hb hb hd) rfl (XT.ii_gt_t hc) ho ht kk
theorem go_icmp_gt_f {o : Int} {x y : Int32} (hd : decode bytes pc = .ok (.if_icmp .gt o, 3)) (hp : pc + 3 = pc') (hc : ¬ y < x) (hr : Go l Z a0 EL n0 R own bytes maxL ret nm Q h sf ce sl pc' ls st) : Go l Z a0 EL n0 R own bytes maxL ret nm Q h sf ce sl pc ls (.int y :: .int x :: st) := by
  subst hp
  exact go_step hr fun A hx hb kk => XS.icmpNo A hx rfl (Jvm.hb hb hd) rfl (XT.ii_gt_f hc) kk
theorem go_if_gt_t {o : Int} {x : Int32} (hd : decode bytes pc = .ok (.ifCond .gt o, 3)) (ho : 0 ≤ (pc : Int) + o) (ht : ((pc : Int) + o).toNat = pt) (hc : 0 < x) (hr : Go l Z a0 EL n0 R own bytes maxL ret nm Q h sf ce sl pt ls st) : Go l Z a0 EL n0 R own bytes maxL ret nm Q h sf ce sl pc ls (.int x :: st) := go_step hr fun A hx hb kk => XS.ifYes A hx rfl rfl (Jvm.hb hb hd) rfl (XT.i0_gt_t hc) ho ht kk
theorem go_if_gt_f {o : Int} {x : Int32} (hd : decode bytes pc = .ok (.ifCond .gt o, 3)) (hp : pc + 3 = pc') (hc : ¬ 0 < x) (hr : Go l Z a0 EL n0 R own bytes maxL ret nm Q h sf ce sl pc' ls st) : Go l Z a0 EL n0 R own bytes maxL ret nm Q h sf ce sl pc ls (.int x :: st) := by
  subst hp
  exact go_step hr fun A hx hb kk => XS.ifNo A hx rfl (Jvm.hb hb hd) rfl (XT.i0_gt_f hc) kk
theorem go_icmp_le_t {o : Int} {x y : Int32} (hd : decode bytes pc = .ok (.if_icmp .le o, 3)) (ho : 0 ≤ (pc : Int) + o) (ht : ((pc : Int) + o).toNat = pt) (hc : ¬ y < x) (hr : Go l Z a0 EL n0 R own bytes maxL ret nm Q h sf ce sl pt ls st) : Go l Z a0 EL n0 R own bytes maxL ret nm Q h sf ce sl pc ls (.int y :: .int x :: st) := go_step hr fun A hx hb kk => XS.icmpYes A hx rfl rfl (Jvm.hb hb hd) rfl (XT.ii_le_t hc) ho ht kk
theorem go_icmp_le_f {o : Int} {x y : Int32} (hd : decode bytes pc = .ok (.if_icmp .le o, 3)) (hp : pc + 3 = pc') (hc : y < x) (hr : Go l Z a0 EL n0 R own bytes maxL ret nm Q h sf ce sl pc' ls st) : Go l Z a0 EL n0 R own bytes maxL ret nm Q h sf ce sl pc ls (.int y :: .int x :: st) := by
  subst hp
  exact go_step hr fun A hx hb kk => XS.icmpNo A hx rfl (Jvm.hb hb hd) rfl (XT.ii_le_f hc) kk
theorem go_if_le_t {o : Int} {x : Int32} (hd : decode bytes pc = .ok (.ifCond .le o, 3)) (ho : 0 ≤ (pc : Int) + o) (ht : ((pc : Int) + o).toNat = pt) (hc : ¬ 0 < x) (hr : Go l Z a0 EL n0 R own bytes maxL ret nm Q h sf ce sl pt ls st) : Go l Z a0 EL n0 R own bytes maxL ret nm Q h sf ce sl pc ls (.int x :: st) := go_step hr fun A hx hb kk => XS.ifYes A hx rfl rfl (Jvm.hb hb hd) rfl (XT.i0_le_t hc) ho ht kk
theorem go_if_le_f {o : Int} {x : Int32} (hd : decode bytes pc = .ok (.ifCond .le o, 3)) (hp : pc + 3 = pc') (hc : 0 < x) (hr : Go l Z a0 EL n0 R own bytes maxL ret nm Q h sf ce sl pc' ls st) : Go l Z a0 EL n0 R own bytes maxL ret nm Q h sf ce sl pc ls (.int x :: st) := by
  subst hp
  exact go_step hr fun A hx hb kk => XS.ifNo A hx rfl (Jvm.hb hb hd) rfl (XT.i0_le_f hc) kk
theorem go_ifnull_t {o : Int} (hd : decode bytes pc = .ok (.ifnull o, 3)) (ho : 0 ≤ (pc : Int) + o) (ht : ((pc : Int) + o).toNat = pt) (hr : Go l Z a0 EL n0 R own bytes maxL ret nm Q h sf ce sl pt ls st) : Go l Z a0 EL n0 R own bytes maxL ret nm Q h sf ce sl pc ls (.null :: st) := go_step hr fun A hx hb kk => XS.ifnullYes A hx rfl rfl (Jvm.hb hb hd) rfl ho ht kk
theorem go_ifnull_f {o : Int} {b : Addr} (hd : decode bytes pc = .ok (.ifnull o, 3)) (hp : pc + 3 = pc') (hr : Go l Z a0 EL n0 R own bytes maxL ret nm Q h sf ce sl pc' ls st) : Go l Z a0 EL n0 R own bytes maxL ret nm Q h sf ce sl pc ls (.ref b :: st) := by
  subst hp
  exact go_step hr fun A hx hb kk => XS.ifnullNo A hx rfl (Jvm.hb hb hd) rfl kk
theorem go_ifnonnull_t {o : Int} {b : Addr} (hd : decode bytes pc = .ok (.ifnonnull o, 3)) (ho : 0 ≤ (pc : Int) + o) (ht : ((pc : Int) + o).toNat = pt) (hr : Go l Z a0 EL n0 R own bytes maxL ret nm Q h sf ce sl pt ls st) : Go l Z a0 EL n0 R own bytes maxL ret nm Q h sf ce sl pc ls (.ref b :: st) := go_step hr fun A hx hb kk => XT.ifnonnullYes A hx rfl rfl (Jvm.hb hb hd) rfl ho ht kk
theorem go_ifnonnull_f {o : Int} (hd : decode bytes pc = .ok (.ifnonnull o, 3)) (hp : pc + 3 = pc') (hr : Go l Z a0 EL n0 R own bytes maxL ret nm Q h sf ce sl pc' ls st) : Go l Z a0 EL n0 R own bytes maxL ret nm Q h sf ce sl pc ls (.null :: st) := by
  subst hp
  exact go_step hr fun A hx hb kk => XT.ifnonnullNo A hx rfl (Jvm.hb hb hd) rfl kk
theorem go_irem {x y : Int32} (hd : decode bytes pc = .ok (.irem, 1)) (hp : pc + 1 = pc') (hy : y ≠ 0) (hr : Go l Z a0 EL n0 R own bytes maxL ret nm Q h sf ce sl pc' ls (.int (x % y) :: st)) : Go l Z a0 EL n0 R own bytes maxL ret nm Q h sf ce sl pc ls (.int y :: .int x :: st) := by
  subst hp
  exact go_move hr fun {p e s m args below meth c T locs} X hx hby hml eT hZ ho hOld => ⟨T, X, eT, fun t kk => iremM X hx (g := mkF m pc ls (.int y :: .int x :: st)) rfl (Jvm.hb hby hd) rfl hy kk⟩
theorem go_acmp {cd : ACond} {x y : Value} {o : Int} (same : Bool) (hd : decode bytes pc = .ok (.if_acmp cd o, 3)) (h1 : x.isRef = true) (h2 : y.isRef = true) (hq : decide (x = y) = same) (ho : 0 ≤ (pc : Int) + o) (ht : pt = if acV cd same = true then ((pc : Int) + o).toNat else pc + 3) (hr : Go l Z a0 EL n0 R own bytes maxL ret nm Q h sf ce sl pt ls st) : Go l Z a0 EL n0 R own bytes maxL ret nm Q h sf ce sl pc ls (y :: x :: st) :=
  go_move hr fun {p e s m args below meth c T locs} X hx hby hml eT hZ ho' hOld => ⟨T, X, eT, fun t kk => RoadKit.acmp X hx (g := mkF m pc ls (y :: x :: st)) rfl h1 h2 rfl (Jvm.hb hby hd) rfl hq ho ht kk⟩
/-- a call by its contract -/
theorem go_call {R' : Room} {y : MethodName} {bY : ByteArray} {mY : Nat} {rY : Option FieldType} {as : List Value} {sfY : List Addr} {QY : Option Value → Heap → List Addr → Prop} {len W : Nat}
    (hC : Con l Z EL n0 y bY mY rY [] R' as.toArray h sfY QY) (hsf : ∀ x ∈ sfY, x ∈ sf) (wc : (Jvm.Cond.code y bY mY rY).before a0 Z = true) (wz : (Jvm.Cond.initialized y.cls).before a0 Z = true)
    (hf : R'.frames + 1 ≤ R.frames) (hl : W + (mY + 11) + R'.locals ≤ R.locals) (hc : ce + R'.cells ≤ R.cells) (hs : sl + R'.slots ≤ R.slots)
    (k : ∀ {p : Program} {e : Env} {s : State} {m : MethodId} {args : Array Value} {below : List Frame} {meth : Method} {c : Code} {T : State} {locs : List Loc} {Pre : Free.Pt → Array Value → Prop} {Post : Free.Pt → Array Value → Option Value → Free.Pt → Prop}, Stand p l e R s m args below meth c T locs ce sl → p.tables.exec = Jvm.exec → c.code = bytes → c.maxLocals = maxL → T.heap = h → Z.Warmed39 s.vm → s.vm.findClass own = some m.cls →
      BackS l R p e below s args y len W Pre Post → (∀ vm₁, s.WarmedH vm₁ → Pre ⟨T.setVm vm₁, locs, ce, sl⟩ as.toArray) →
      ∃ (v : Option Value) (vm₁ : Vm) (B : Free.Pt), s.WarmedH vm₁ ∧ Stand p l e R (s.setVm B.U.vm) m args below meth c B.U B.locs B.cells B.slots ∧ s.Since B.U.vm B.U.heap.size ∧ T.heap.size ≤ B.U.heap.size ∧ Post ⟨T.setVm vm₁, locs, ce, sl⟩ as.toArray v B ∧
        Steps p.tables e below (T.setTop (mkF m pc ls st)) (B.U.setTop (mkF m pc' ls (v.toList ++ rest))))
    (hr : ∀ v h' sf', QY v h' sf' → Go l Z a0 EL n0 R own bytes maxL ret nm Q h' (sf' ++ sf) (ce + R'.cells) (sl + R'.slots) pc' ls (v.toList ++ rest)) :
    Go l Z a0 EL n0 R own bytes maxL ret nm Q h sf ce sl pc ls st := by
  intro p e s m args below meth c T W'
  obtain ⟨⟨hx, hby, hml, hret, hnm, hlk, hEL, hOld⟩, vm0, locs, k0, X, eT, hS, hk, hZ, hown, N, C, O⟩ := W'
  have hB := back_of (p := p) (e := e) (s := s) (args := args) (below := below) (R := R) (W := W) (len := len) hC hZ wc wz hf hl hEL C.1 (O.sub hsf) hOld
  obtain ⟨v, vm₁, ⟨U, Lc, kc, nc⟩, -, X', hS', hg, ⟨L, sf', q, fr, ow, ol, e1, e2, e3, ch⟩, st'⟩ := k (s := s.setVm vm0) X hx hby hml eT hZ hown hB (fun vm₁ _ => ⟨rfl, eT, hc, hs⟩)
  obtain ⟨X2, hS2, hZ2, hown2⟩ := rebS (own := own) (Z := Z) hS (Nat.le_trans hk (Nat.le_of_eq (by rw [eT]))) X' hS' hg hZ hown
  dsimp only [Free.Pt.U, Free.Pt.locs, Free.Pt.cells, Free.Pt.slots] at X2 hS2 hZ2 hown2 q ow ol e1 e2 e3 ch st'
  subst e1 e2 e3
  obtain ⟨t, o, h1, h2⟩ := hr v U.heap sf' q p e s m args below meth c U ⟨⟨hx, hby, hml, hret, hnm, hlk, hEL, ol⟩, U.vm, locs ++ L, U.heap.size, X2, rfl, hS2, Nat.le_refl _, hZ2, hown2, N.app fr, C.trans ch, ow.app (O.mv ch)⟩
  exact ⟨t, o, st'.trans h1, h2⟩
theorem go_static {R' : Room} {y : MethodName} {bY : ByteArray} {mY : Nat} {rY : Option FieldType} {sfY : List Addr} {QY : Option Value → Heap → List Addr → Prop} {idx : Nat} (as rest : List Value) (W : Nat)
    (hd : decode bytes pc = .ok (.invokestatic idx, 3)) (hp : pc + 3 = pc') (w1 : (Jvm.Cond.methodLink own idx y).before a0 Z = true) (w2 : (Jvm.Cond.static y).before a0 Z = true) (wz : (Jvm.Cond.initialized y.cls).before a0 Z = true) (wc : (Jvm.Cond.code y bY mY rY).before a0 Z = true)
    (hC : Con l Z EL n0 y bY mY rY [] R' as.toArray h sfY QY) (hsf : ∀ x ∈ sfY, x ∈ sf) (hlen : ∀ sig, parseMethodDescriptor y.desc = some sig → as.length = sig.parameters.length) (hst : st = as.reverse ++ rest) (hsz : ls.size = maxL) (hW : (rest.map fun v => v.category).sum = W)
    (hy : y.cls ≠ "java/lang/invoke/MethodHandle" ∧ y.cls ≠ "java/lang/invoke/VarHandle")
    (hf : R'.frames + 1 ≤ R.frames) (hl : W + (mY + 11) + R'.locals ≤ R.locals) (hc : ce + R'.cells ≤ R.cells) (hs : sl + R'.slots ≤ R.slots)
    (hr : ∀ v h' sf', QY v h' sf' → Go l Z a0 EL n0 R own bytes maxL ret nm Q h' (sf' ++ sf) (ce + R'.cells) (sl + R'.slots) pc' ls (v.toList ++ rest)) :
    Go l Z a0 EL n0 R own bytes maxL ret nm Q h sf ce sl pc ls st := by
  subst hp hst
  exact go_call (len := 3) (W := W) hC hsf wc wz hf hl hc hs (fun {p e s m args below meth c T locs Pre Post} X hx hby hml eT hZ ho hK hpre =>
    callSS X hx ho (mvT hZ w1) (mvT hZ w2) (mvT hZ wz) (mvT hZ wc) hy hK (g := mkF m pc ls (as.reverse ++ rest)) rfl (by rw [hml]; exact hsz) hlen rfl (by show 2 * 0 + (rest.map fun v => v.category).sum ≤ W; omega) (Jvm.hb hby hd) hpre) hr
theorem go_special {R' : Room} {y : MethodName} {bY : ByteArray} {mY : Nat} {sfY : List Addr} {QY : Option Value → Heap → List Addr → Prop} {idx : Nat} (a : Addr) (as rest : List Value) (W : Nat)
    (hd : decode bytes pc = .ok (.invokespecial idx, 3)) (hp : pc + 3 = pc') (hy1 : y.name = "<init>") (w1 : (Jvm.Cond.methodLink own idx y).before a0 Z = true) (w2 : (Jvm.Cond.instanceMethod y).before a0 Z = true) (wz : (Jvm.Cond.initialized y.cls).before a0 Z = true) (wc : (Jvm.Cond.code y bY mY none).before a0 Z = true)
    (hC : Con l Z EL n0 y bY mY none [] R' (.ref a :: as).toArray h sfY QY) (hsf : ∀ x ∈ sfY, x ∈ sf) (hlen : ∀ sig, parseMethodDescriptor y.desc = some sig → as.length = sig.parameters.length) (hst : st = as.reverse ++ .ref a :: rest) (hsz : ls.size = maxL) (hW : (rest.map fun v => v.category).sum = W)
    (hy : y.cls ≠ "java/lang/invoke/MethodHandle" ∧ y.cls ≠ "java/lang/invoke/VarHandle")
    (hf : R'.frames + 1 ≤ R.frames) (hl : W + (mY + 11) + R'.locals ≤ R.locals) (hc : ce + R'.cells ≤ R.cells) (hs : sl + R'.slots ≤ R.slots)
    (hr : ∀ v h' sf', QY v h' sf' → Go l Z a0 EL n0 R own bytes maxL ret nm Q h' (sf' ++ sf) (ce + R'.cells) (sl + R'.slots) pc' ls (v.toList ++ rest)) :
    Go l Z a0 EL n0 R own bytes maxL ret nm Q h sf ce sl pc ls st := by
  subst hp hst
  exact go_call (len := 3) (W := W) hC hsf wc wz hf hl hc hs (fun {p e s m args below meth c T locs Pre Post} X hx hby hml eT hZ ho hK hpre =>
    Stand.specialBackS X hx hy1 ho (mvT hZ w1) (mvT hZ w2) (mvT hZ wc) hy hK (g := mkF m pc ls (as.reverse ++ .ref a :: rest)) rfl (by rw [hml]; exact hsz) (Steps.refl _) hlen rfl (by show 2 * 0 + (rest.map fun v => v.category).sum ≤ W; omega) (Jvm.hb hby hd) hpre) hr
theorem go_virtual {R' : Room} {y z : MethodName} {bY : ByteArray} {mY : Nat} {rY : Option FieldType} {sfY : List Addr} {QY : Option Value → Heap → List Addr → Prop} {idx : Nat} {C : String} (a : Addr) (as rest : List Value) (W : Nat)
    (hd : decode bytes pc = .ok (.invokevirtual idx, 3)) (hp : pc + 3 = pc') (E : Exa Z h a C) (w1 : (Jvm.Cond.methodLink own idx y).before a0 Z = true) (w2 : (Jvm.Cond.declares y).before a0 Z = true) (hnf : ∀ {s : State}, Z.Warmed39 s.vm → NotFace s y) (w3 : (Jvm.Cond.selects C y z).before a0 Z = true) (w4 : (Jvm.Cond.instanceMethod z).before a0 Z = true) (wz : (Jvm.Cond.initialized z.cls).before a0 Z = true) (wc : (Jvm.Cond.code z bY mY rY).before a0 Z = true)
    (hC : Con l Z EL n0 z bY mY rY [] R' (.ref a :: as).toArray h sfY QY) (hsf : ∀ x ∈ sfY, x ∈ sf) (hlen : ∀ sig, parseMethodDescriptor y.desc = some sig → as.length = sig.parameters.length) (hst : st = as.reverse ++ .ref a :: rest) (hsz : ls.size = maxL) (hW : (rest.map fun v => v.category).sum = W)
    (hy : y.cls ≠ "java/lang/invoke/MethodHandle" ∧ y.cls ≠ "java/lang/invoke/VarHandle")
    (hf : R'.frames + 1 ≤ R.frames) (hl : W + (mY + 11) + R'.locals ≤ R.locals) (hc : ce + R'.cells ≤ R.cells) (hs : sl + R'.slots ≤ R.slots)
    (hr : ∀ v h' sf', QY v h' sf' → Go l Z a0 EL n0 R own bytes maxL ret nm Q h' (sf' ++ sf) (ce + R'.cells) (sl + R'.slots) pc' ls (v.toList ++ rest)) :
    Go l Z a0 EL n0 R own bytes maxL ret nm Q h sf ce sl pc ls st := by
  subst hp hst
  exact go_call (len := 3) (W := W) hC hsf wc wz hf hl hc hs (fun {p e s m args below meth c T locs Pre Post} X hx hby hml eT hZ ho hK hpre => by
    obtain ⟨cB, kB, q1, q2, q3⟩ := isOf hZ eT E
    exact Stand.virtualBackS X hx ho (mvT hZ w1) (mvT hZ w2) (hnf hZ) (mvT hZ w3) (mvT hZ w4) hy hK q1 q3 (g := mkF m pc ls (as.reverse ++ .ref a :: rest)) rfl (by rw [hml]; exact hsz) (Steps.refl _) hlen rfl (by show 2 * 0 + (rest.map fun v => v.category).sum ≤ W; omega) (Jvm.hb hby hd) hpre) hr
theorem nf_of {y : MethodName} {C : String} (w : (Jvm.Cond.selects C y y).before a0 Z = true) : ∀ {s : State}, Z.Warmed39 s.vm → NotFace s y := fun hZ => notFace_of_selects (args := #[]) (mvT hZ w)
theorem go_iface {R' : Room} {y xi : MethodName} {bY : ByteArray} {mY : Nat} {rY : Option FieldType} {sfY : List Addr} {QY : Option Value → Heap → List Addr → Prop} {idx cnt : Nat} {C : String} (a : Addr) (as rest : List Value) (W : Nat)
    (hd : decode bytes pc = .ok (.invokeinterface idx cnt, 5)) (hp : pc + 5 = pc') (E : Exa Z h a C) (w1 : (Jvm.Cond.methodLink own idx xi).before a0 Z = true) (w2 : (Jvm.Cond.declares xi).before a0 Z = true) (w3 : (Jvm.Cond.interfaceMethod xi.cls xi.cls xi.name xi.desc).before a0 Z = true) (w3k : ((Jvm.Cond.interfaceMethod xi.cls xi.cls xi.name xi.desc).onTables && (Jvm.Cond.interfaceMethod xi.cls xi.cls xi.name xi.desc).keepsFace) = true) (w4 : (Jvm.Cond.selects C xi y).before a0 Z = true) (w5 : (Jvm.Cond.instanceMethod y).before a0 Z = true) (w6 : (Jvm.Cond.publicMethod y).before a0 Z = true) (w7 : (Jvm.Cond.unhidden C xi.name xi.desc).before a0 Z = true) (w8 : (Jvm.Cond.castable C xi.cls).before a0 Z = true) (wz : (Jvm.Cond.initialized y.cls).before a0 Z = true) (wc : (Jvm.Cond.code y bY mY rY).before a0 Z = true)
    (hC : Con l Z EL n0 y bY mY rY [] R' (.ref a :: as).toArray h sfY QY) (hsf : ∀ x ∈ sfY, x ∈ sf) (hlen : ∀ sig, parseMethodDescriptor xi.desc = some sig → as.length = sig.parameters.length) (hst : st = as.reverse ++ .ref a :: rest) (hsz : ls.size = maxL) (hW : (rest.map fun v => v.category).sum = W)
    (hy : xi.cls ≠ "java/lang/invoke/MethodHandle" ∧ xi.cls ≠ "java/lang/invoke/VarHandle")
    (hf : R'.frames + 1 ≤ R.frames) (hl : W + (mY + 11) + R'.locals ≤ R.locals) (hc : ce + R'.cells ≤ R.cells) (hs : sl + R'.slots ≤ R.slots)
    (hr : ∀ v h' sf', QY v h' sf' → Go l Z a0 EL n0 R own bytes maxL ret nm Q h' (sf' ++ sf) (ce + R'.cells) (sl + R'.slots) pc' ls (v.toList ++ rest)) :
    Go l Z a0 EL n0 R own bytes maxL ret nm Q h sf ce sl pc ls st := by
  subst hp hst
  exact go_call (len := 5) (W := W) hC hsf wc wz hf hl hc hs (fun {p e s m args below meth c T locs Pre Post} X hx hby hml eT hZ ho hK hpre => by
    obtain ⟨cB, kB, q1, q2, q3⟩ := isOf hZ eT E
    exact Stand.interfaceBackS X hx ho (mvT hZ w1) (mvT hZ w2) (mvT hZ w3 w3k) (mvT hZ w4) (mvT hZ w5) (mvT hZ w6) (mvT hZ w7) (mvT hZ w8) hy hK q1 q2 q3 (g := mkF m pc ls (as.reverse ++ .ref a :: rest)) rfl (by rw [hml]; exact hsz) (Steps.refl _) hlen rfl (by show 2 * 0 + (rest.map fun v => v.category).sum ≤ W; omega) (Jvm.hb hby hd) hpre) hr
theorem go_initO {idx : Nat} {a : Addr} (hd : decode bytes pc = .ok (.invokespecial idx, 3)) (hp : pc + 3 = pc') (w1 : (Jvm.Cond.methodLink own idx Lib.objectInit).before a0 Z = true) (w2 : (Jvm.Cond.instanceMethod Lib.objectInit).before a0 Z = true) (w3 : (Jvm.Cond.code Lib.objectInit ⟨#[0xb1]⟩ 1 none).before a0 Z = true)
    (hsz : ls.size = maxL) (hf : 1 ≤ R.frames) (W : Nat) (hW : (st.map fun v => v.category).sum = W) (hl : W + 12 ≤ R.locals) (hr : Go l Z a0 EL n0 R own bytes maxL ret nm Q h sf ce sl pc' ls st) :
    Go l Z a0 EL n0 R own bytes maxL ret nm Q h sf ce sl pc ls (.ref a :: st) := by
  subst hp
  exact go_move hr fun {p e s m args below meth c T locs} X hx hby hml eT hZ ho hOld => initO X hx hZ ho w1 w2 w3 eT (g := mkF m pc ls (.ref a :: st)) rfl (by rw [hml]; exact hsz) rfl (Jvm.hb hby hd) hf (W := W) (by show 2 * 0 + (st.map fun v => v.category).sum ≤ W; omega) hl
theorem go_getfield {idx : Nat} {R0 O f d : String} {a : Addr} {v : Value} (hd : decode bytes pc = .ok (.getfield idx, 3)) (hp : pc + 3 = pc') (w : (Jvm.Cond.fieldLink own idx R0 f d).before a0 Z = true) (via : Via Z R0 O f d) (F : Fld Z h a O f d v)
    (hr : Go l Z a0 EL n0 R own bytes maxL ret nm Q h sf ce sl pc' ls (v :: st)) : Go l Z a0 EL n0 R own bytes maxL ret nm Q h sf ce sl pc ls (.ref a :: st) := by
  subst hp
  exact go_move hr fun {p e s m args below meth c T locs} X hx hby hml eT hZ ho hOld => getF X hx hZ ho (host := "") (Or.inl w) via eT F (g := mkF m pc ls (.ref a :: st)) rfl rfl (Jvm.hb hby hd)
theorem go_getfieldN {idx : Nat} {R0 O f d host : String} {a : Addr} {v : Value} (hd : decode bytes pc = .ok (.getfield idx, 3)) (hp : pc + 3 = pc') (w : (Jvm.Cond.fieldLinkNest own idx R0 f d host).before a0 Z = true) (via : Via Z R0 O f d) (F : Fld Z h a O f d v)
    (hr : Go l Z a0 EL n0 R own bytes maxL ret nm Q h sf ce sl pc' ls (v :: st)) : Go l Z a0 EL n0 R own bytes maxL ret nm Q h sf ce sl pc ls (.ref a :: st) := by
  subst hp
  exact go_move hr fun {p e s m args below meth c T locs} X hx hby hml eT hZ ho hOld => getF X hx hZ ho (Or.inr w) via eT F (g := mkF m pc ls (.ref a :: st)) rfl rfl (Jvm.hb hby hd)
theorem go_getstatic {idx : Nat} {R0 O f d : String} {v : Value} (hd : decode bytes pc = .ok (.getstatic idx, 3)) (hp : pc + 3 = pc') (w : (Jvm.Cond.fieldLink own idx R0 f d).before a0 Z = true) (via : Via Z R0 O f d) (F : Sta Z Z.heap O f d v)
    (hr : Go l Z a0 EL n0 R own bytes maxL ret nm Q h sf ce sl pc' ls (v :: st)) : Go l Z a0 EL n0 R own bytes maxL ret nm Q h sf ce sl pc ls st := by
  subst hp
  exact go_move hr fun {p e s m args below meth c T locs} X hx hby hml eT hZ ho hOld => getS X hx hZ ho (host := "") w via eT (F.ext hOld.2) (g := mkF m pc ls st) rfl (Jvm.hb hby hd)
theorem go_checkcast {idx : Nat} {K : String} {a : Addr} (hd : decode bytes pc = .ok (.checkcast idx, 3)) (hp : pc + 3 = pc') (w : (Jvm.Cond.classLink own idx K).before a0 Z = true) (F : Ins Z h a K true)
    (hr : Go l Z a0 EL n0 R own bytes maxL ret nm Q h sf ce sl pc' ls (.ref a :: st)) : Go l Z a0 EL n0 R own bytes maxL ret nm Q h sf ce sl pc ls (.ref a :: st) := by
  subst hp
  exact go_move hr fun {p e s m args below meth c T locs} X hx hby hml eT hZ ho hOld => castY X hx hZ ho w eT F (g := mkF m pc ls (.ref a :: st)) rfl rfl (Jvm.hb hby hd)
theorem go_instY {idx : Nat} {K : String} {a : Addr} (hd : decode bytes pc = .ok (.instanceof idx, 3)) (hp : pc + 3 = pc') (w : (Jvm.Cond.classLink own idx K).before a0 Z = true) (F : Ins Z h a K true)
    (hr : Go l Z a0 EL n0 R own bytes maxL ret nm Q h sf ce sl pc' ls (.int 1 :: st)) : Go l Z a0 EL n0 R own bytes maxL ret nm Q h sf ce sl pc ls (.ref a :: st) := by
  subst hp
  exact go_move hr fun {p e s m args below meth c T locs} X hx hby hml eT hZ ho hOld => instY X hx hZ ho w eT F (g := mkF m pc ls (.ref a :: st)) rfl rfl (Jvm.hb hby hd)
theorem go_instNo {idx : Nat} {K C : String} {a : Addr} (hd : decode bytes pc = .ok (.instanceof idx, 3)) (hp : pc + 3 = pc') (w : (Jvm.Cond.classLink own idx K).before a0 Z = true) (E : Exa Z h a C) (F : ∃ c t, Z.vm.findClass C = some c ∧ Z.vm.findClass K = some t ∧ Z.vm.assignable c t = false)
    (hr : Go l Z a0 EL n0 R own bytes maxL ret nm Q h sf ce sl pc' ls (.int 0 :: st)) : Go l Z a0 EL n0 R own bytes maxL ret nm Q h sf ce sl pc ls (.ref a :: st) := by
  subst hp
  exact go_move hr fun {p e s m args below meth c T locs} X hx hby hml eT hZ ho hOld => instNo X hx hZ ho w eT E F (g := mkF m pc ls (.ref a :: st)) rfl rfl (Jvm.hb hby hd)
theorem go_ldcI {idx : Nat} {v : Int32} (hd : decode bytes pc = .ok (.ldc idx, 2)) (hp : pc + 2 = pc') (w : (Jvm.Cond.constant own idx v).before a0 Z = true)
    (hr : Go l Z a0 EL n0 R own bytes maxL ret nm Q h sf ce sl pc' ls (.int v :: st)) : Go l Z a0 EL n0 R own bytes maxL ret nm Q h sf ce sl pc ls st := by
  subst hp
  exact go_move hr fun {p e s m args below meth c T locs} X hx hby hml eT hZ ho hOld => ⟨T, X, eT, fun t k => Stand.ldcI X hx ho (mvT hZ w) (g := mkF m pc ls st) rfl (Jvm.hb hby hd) k⟩
theorem go_ldc2J {idx : Nat} {v : Int64} (hd : decode bytes pc = .ok (.ldc2_w idx, 3)) (hp : pc + 3 = pc') (w : (Jvm.Cond.constantLong own idx v).before a0 Z = true)
    (hr : Go l Z a0 EL n0 R own bytes maxL ret nm Q h sf ce sl pc' ls (.long v :: st)) : Go l Z a0 EL n0 R own bytes maxL ret nm Q h sf ce sl pc ls st := by
  subst hp
  exact go_move hr fun {p e s m args below meth c T locs} X hx hby hml eT hZ ho hOld => ⟨T, X, eT, fun t k => Stand.ldc2J X hx ho (mvT hZ w) (g := mkF m pc ls st) rfl (Jvm.hb hby hd) k⟩
/-- ldc of a String constant, opaque -/
theorem go_ldcO {idx : Nat} {text : String} (n : Nat) (hd : decode bytes pc = .ok (.ldc idx, 2)) (hp : pc + 2 = pc') (w : (Jvm.Cond.stringLink own idx text).before a0 Z = true) (wS : ∀ a ∈ Bundle.stringAtoms, a.before a0 Z = true) (hn : 4 * text.toList.length ≤ n) (hbig : n ≤ 536870912) (hc : ce + 2 ≤ R.cells) (hs : sl + (n + 4) ≤ R.slots)
    (hr : ∀ h' a, Ext h h' → Go l Z a0 EL n0 R own bytes maxL ret nm Q h' sf (ce + 2) (sl + (n + 4)) pc' ls (.ref a :: st)) : Go l Z a0 EL n0 R own bytes maxL ret nm Q h sf ce sl pc ls st := by
  subst hp
  intro p e s m args below meth c T W'
  obtain ⟨⟨hx, hby, hml, hret, hnm, hlk, hEL, hOld⟩, vm0, locs, k0, X, eT, hS, hk, hZ, hown, N, C, O⟩ := W'
  obtain ⟨a, T', h', k1, X', e', E, hS', hk', hZ', hown', ch, -, st'⟩ := ldcOH X hx hZ hown w wS eT hS hk hEL C.1 (g := mkF m pc ls st) rfl (Jvm.hb hby hd) hn hbig hc hs
  obtain ⟨t, o, h1, h2⟩ := hr h' a E p e s m args below meth c T' ⟨⟨hx, hby, hml, hret, hnm, hlk, hEL, hOld.ext E⟩, T'.vm, locs, k1, X', e', hS', hk', hZ', hown', N, C.trans ch, O.mv ch⟩
  exact ⟨t, o, st' _ h1, h2⟩
/-- ldc of a String constant of EL, read -/
theorem go_ldcT {idx : Nat} {text : String} (n : Nat) (z : Int32) (vs : List Value) (hd : decode bytes pc = .ok (.ldc idx, 2)) (hp : pc + 2 = pc') (w : (Jvm.Cond.stringLink own idx text).before a0 Z = true) (wS : ∀ a ∈ Bundle.stringAtoms, a.before a0 Z = true) (hmem : (own, idx) ∈ EL)
    (ht : (∀ c ∈ text.toList, c.toNat < 256) ∧ text.toList.map (fun c => Value.int (Jvm.Lit.byteI c.toNat.toUInt16)) = vs) (hz : ¬ z < 0) (hl : z.toNatClampNeg = vs.length) (hn : 4 * text.toList.length ≤ n) (hbig : n ≤ 536870912) (hc : ce + 2 ≤ R.cells) (hs : sl + (n + 4) ≤ R.slots)
    (hr : ∀ h' a b k, Ext h h' → Exa Z h' a "java/lang/String" → Fld Z h' a "java/lang/String" "coder" "B" (.int 0) → Fld Z h' a "java/lang/String" "value" "[B" (.ref b) → Arv Z h' b k .byte z vs (.int 0) → (∀ x ∈ sf, x ≠ a ∧ x ≠ b) →
      Go l Z a0 EL n0 R own bytes maxL ret nm Q h' sf (ce + 2) (sl + (n + 4)) pc' ls (.ref a :: st)) : Go l Z a0 EL n0 R own bytes maxL ret nm Q h sf ce sl pc ls st := by
  subst hp
  intro p e s m args below meth c T W'
  obtain ⟨⟨hx, hby, hml, hret, hnm, hlk, hEL, hOld⟩, vm0, locs, k0, X, eT, hS, hk, hZ, hown, N, C, O⟩ := W'
  obtain ⟨a, T', h', k1, b, k, X', e', E, hS', hk', hZ', hown', f1, f2, f3, f4, -, -, ch, -, hne, st'⟩ := ldcCH X hx hZ hown w wS eT hS hk hEL hmem C.1 ht hz hl (g := mkF m pc ls st) rfl (Jvm.hb hby hd) hn hbig hc hs
  have O' := O.mv ch
  obtain ⟨t, o, h1, h2⟩ := hr h' a b k E f1 f2 f3 f4 (fun x q => hne x (O' x q).2.2) p e s m args below meth c T' ⟨⟨hx, hby, hml, hret, hnm, hlk, hEL, hOld.ext E⟩, T'.vm, locs, k1, X', e', hS', hk', hZ', hown', N, C.trans ch, O'⟩
  exact ⟨t, o, st' _ h1, h2⟩
theorem go_new {idx n : Nat} {C : String} (hd : decode bytes pc = .ok (.new idx, 3)) (hp : pc + 3 = pc') (w : (Jvm.Cond.classLink own idx C).before a0 Z = true) (wi : (Jvm.Cond.instantiable C n).before a0 Z = true) (wz : (Jvm.Cond.initialized C).before a0 Z = true) (hc : ce + 1 ≤ R.cells) (hs : sl + n ≤ R.slots)
    (hr : ∀ h' x, x = h.size → Ext h h' → (Exa Z h' x C ∧ ∀ {O f d : String} {ty : FieldType}, Laid Z a0 C O f d → parseFieldDescriptor d = some ty → Fld Z h' x O f d (defaultValue ty)) →
      Go l Z a0 EL n0 R own bytes maxL ret nm Q h' (x :: sf) (ce + 1) (sl + n) pc' ls (.ref x :: st)) : Go l Z a0 EL n0 R own bytes maxL ret nm Q h sf ce sl pc ls st := by
  subst hp
  refine go_make (P := fun h' x => Exa Z h' x C ∧ ∀ {O f d : String} {ty : FieldType}, Laid Z a0 C O f d → parseFieldDescriptor d = some ty → Fld Z h' x O f d (defaultValue ty)) (fun {p e s m args below meth c T locs} X hx hby hml eT hZ ho => ?_) hr
  obtain ⟨T', h', X', e', E, A, D, -, st'⟩ := newO X hx hZ ho w wi wz eT (g := mkF m pc ls st) rfl (Jvm.hb hby hd) hc hs
  exact ⟨T', h', X', e', E, A.lt, ⟨A, D⟩, st'⟩
theorem go_newarr {aty : ArrayType} {n : Int32} {ty : FieldType} {ad : String} (cap : Nat) (hd : decode bytes pc = .ok (.newarray aty, 2)) (hp : pc + 2 = pc') (hty : newarray.typeOf aty = ty) (w : (Jvm.Cond.arrayClass ty).before a0 Z = true) (hn : ¬ n < 0) (hcap : n.toNatClampNeg ≤ cap) (hb : cap * 8 ≤ 536870912) (had : "[" ++ ty.toString = ad) (hc : ce + 1 ≤ R.cells) (hs : sl + cap ≤ R.slots)
    (hr : ∀ h' x, x = h.size → Ext h h' → (Exa Z h' x ad ∧ ∃ k, Arv Z h' x k ty n [] (defaultValue ty)) → Go l Z a0 EL n0 R own bytes maxL ret nm Q h' (x :: sf) (ce + 1) (sl + cap) pc' ls (.ref x :: st)) :
    Go l Z a0 EL n0 R own bytes maxL ret nm Q h sf ce sl pc ls (.int n :: st) := by
  subst hp hty
  refine go_make (P := fun h' x => Exa Z h' x ad ∧ ∃ k, Arv Z h' x k (newarray.typeOf aty) n [] (defaultValue (newarray.typeOf aty))) (fun {p e s m args below meth c T locs} X hx hby hml eT hZ ho => ?_) hr
  obtain ⟨T', h', cA, X', e', E, A, F, st'⟩ := newPE X hx hZ w eT (g := mkF m pc ls (.int n :: st)) rfl (Jvm.hb hby hd) rfl hn hcap hb hc hs had
  exact ⟨T', h', X', e', E, A.lt, ⟨F, cA, Arv.new A hn⟩, st'⟩
theorem go_putfield {idx kk : Nat} {R0 O f d C : String} {a : Addr} {v old : Value} {ty : FieldType} (hd : decode bytes pc = .ok (.putfield idx, 3)) (hp : pc + 3 = pc') (w : (Jvm.Cond.fieldLink own idx R0 f d).before a0 Z = true) (via : Via Z R0 O f d) (F : Fld Z h a O f d old) (E : Exa Z h a C)
    (L : (Jvm.Cond.lays C O f d).before a0 Z = true ∨ ((Jvm.Cond.laysFinal C O f d).before a0 Z = true ∧ own = O ∧ nm = "<init>")) (wi : (Jvm.Cond.instantiable C kk).before a0 Z = true) (hty : parseFieldDescriptor d = some ty) (hn : narrow ty v = v) (hfit : fits ty v = true) (hm : a ∈ sf)
    (hr : ∀ h', Wr h h' a (RoadKit.slotOf Z O f d) v → Go l Z a0 EL n0 R own bytes maxL ret nm Q h' sf ce sl pc' ls st) : Go l Z a0 EL n0 R own bytes maxL ret nm Q h sf ce sl pc ls (v :: .ref a :: st) := by
  subst hp
  exact go_write hm (fun {p e s m args below meth c T locs} X hx hby hnm eT hZ ho => putF X hx hZ ho (host := "") (Or.inl w) via eT F E (L.imp id fun q => ⟨q.1, q.2.1, by rw [hnm]; exact q.2.2⟩) wi hty hn hfit (g := mkF m pc ls (v :: .ref a :: st)) rfl rfl (Jvm.hb hby hd)) hr
/-- a char, byte, int or boolean into an array at hand -/
theorem go_castore {a : Addr} {k : ClassId} {z j v : Int32} {vs : List Value} {dv : Value} (i : Nat) (v' : Int32) (hd : decode bytes pc = .ok (.castore, 1)) (hp : pc + 1 = pc') (hnv : nar .char v = v') (F : Arv Z h a k .char z vs dv) (hj : ¬ j < 0 ∧ j < z) (hi : j.toNatClampNeg = i) (hl : i < vs.length) (hm : a ∈ sf)
    (hr : ∀ h', Wr h h' a j.toNatClampNeg (.int v') → Arv Z h' a k .char z (vs.set i (.int v')) dv → Go l Z a0 EL n0 R own bytes maxL ret nm Q h' sf ce sl pc' ls st) : Go l Z a0 EL n0 R own bytes maxL ret nm Q h sf ce sl pc ls (.int v :: .int j :: .ref a :: st) := by
  subst hp hnv
  obtain ⟨cl, A, q1, S, q3, H, G⟩ := F
  exact go_write hm (fun {p e s m args below meth c T locs} X hx hby hnm eT hZ ho => stC X hx hZ eT A (inb_of S hj) (g := mkF m pc ls (.int v :: .int j :: .ref a :: st)) rfl rfl (Jvm.hb hby hd)) (fun h' W => hr h' W (Arv.set A q1 S q3 H G (fits_nar_char v) W i hi hl))
theorem go_bastore {a : Addr} {k : ClassId} {z j v : Int32} {vs : List Value} {dv : Value} (i : Nat) (hd : decode bytes pc = .ok (.bastore, 1)) (hp : pc + 1 = pc') (F : Arv Z h a k .byte z vs dv) (hj : ¬ j < 0 ∧ j < z) (hi : j.toNatClampNeg = i) (hl : i < vs.length) (hm : a ∈ sf)
    (hr : ∀ h', Wr h h' a j.toNatClampNeg (.int v.toInt8.toInt32) → Arv Z h' a k .byte z (vs.set i (.int v.toInt8.toInt32)) dv → Go l Z a0 EL n0 R own bytes maxL ret nm Q h' sf ce sl pc' ls st) : Go l Z a0 EL n0 R own bytes maxL ret nm Q h sf ce sl pc ls (.int v :: .int j :: .ref a :: st) := by
  subst hp
  obtain ⟨cl, A, q1, S, q3, H, G⟩ := F
  exact go_write hm (fun {p e s m args below meth c T locs} X hx hby hnm eT hZ ho => stB X hx hZ eT A (inb_of S hj) (g := mkF m pc ls (.int v :: .int j :: .ref a :: st)) rfl rfl (Jvm.hb hby hd)) (fun h' W => hr h' W (Arv.set A q1 S q3 H G (fits_nar_byte v) W i hi hl))
theorem go_iastore {a : Addr} {k : ClassId} {z j v : Int32} {vs : List Value} {dv : Value} (i : Nat) (hd : decode bytes pc = .ok (.iastore, 1)) (hp : pc + 1 = pc') (F : Arv Z h a k .int z vs dv) (hj : ¬ j < 0 ∧ j < z) (hi : j.toNatClampNeg = i) (hl : i < vs.length) (hm : a ∈ sf)
    (hr : ∀ h', Wr h h' a j.toNatClampNeg (.int v) → Arv Z h' a k .int z (vs.set i (.int v)) dv → Go l Z a0 EL n0 R own bytes maxL ret nm Q h' sf ce sl pc' ls st) : Go l Z a0 EL n0 R own bytes maxL ret nm Q h sf ce sl pc ls (.int v :: .int j :: .ref a :: st) := by
  subst hp
  obtain ⟨cl, A, q1, S, q3, H, G⟩ := F
  exact go_write hm (fun {p e s m args below meth c T locs} X hx hby hnm eT hZ ho => stI X hx hZ eT A (inb_of S hj) (g := mkF m pc ls (.int v :: .int j :: .ref a :: st)) rfl rfl (Jvm.hb hby hd)) (fun h' W => hr h' W (Arv.set A q1 S q3 H G rfl W i hi hl))
theorem go_alen {a : Addr} {k : ClassId} {ty : FieldType} {z : Int32} {vs : List Value} {dv : Value} (hd : decode bytes pc = .ok (.arraylength, 1)) (hp : pc + 1 = pc') (F : Arv Z h a k ty z vs dv)
    (hr : Go l Z a0 EL n0 R own bytes maxL ret nm Q h sf ce sl pc' ls (.int z :: st)) : Go l Z a0 EL n0 R own bytes maxL ret nm Q h sf ce sl pc ls (.ref a :: st) := by
  subst hp
  obtain ⟨cl, A, q1, S, q3, H, G⟩ := F
  refine go_move hr fun {p e s m args below meth c T locs} X hx hby hml eT hZ ho hOld => ⟨T, X, eT, fun t kk => ?_⟩
  refine X.arraylength hx (by rw [eT]; exact A.1) (State.isArrayOf_alike hZ.alike A.2.1) (g := mkF m pc ls (.ref a :: st)) rfl rfl (Jvm.hb hby hd) t ?_
  rw [len_of S q3]
  exact kk
theorem go_caload {a : Addr} {k : ClassId} {z j : Int32} {vs : List Value} {dv v : Value} (i : Nat) (hd : decode bytes pc = .ok (.caload, 1)) (hp : pc + 1 = pc') (F : Arv Z h a k .char z vs dv) (hj : ¬ j < 0 ∧ j < z) (hi : j.toNatClampNeg = i) (hv : vs.getD i dv = v)
    (hr : Go l Z a0 EL n0 R own bytes maxL ret nm Q h sf ce sl pc' ls (v :: st)) : Go l Z a0 EL n0 R own bytes maxL ret nm Q h sf ce sl pc ls (.int j :: .ref a :: st) := by
  subst hp
  obtain ⟨cl, A, q1, S, q3, H, G⟩ := F
  exact go_move hr fun {p e s m args below meth c T locs} X hx hby hml eT hZ ho hOld => ⟨T, X, eT, fun t kk =>
    X.caload hx (by rw [eT]; exact A.1) (State.isArrayOf_alike hZ.alike A.2.1) A.2.2 (inb_of S hj) (H.at (inb_of S hj) (by rw [hi]; exact hv)) (g := mkF m pc ls (.int j :: .ref a :: st)) rfl rfl (Jvm.hb hby hd) t kk⟩
theorem go_iaload {a : Addr} {k : ClassId} {z j : Int32} {vs : List Value} {dv v : Value} (i : Nat) (hd : decode bytes pc = .ok (.iaload, 1)) (hp : pc + 1 = pc') (F : Arv Z h a k .int z vs dv) (hj : ¬ j < 0 ∧ j < z) (hi : j.toNatClampNeg = i) (hv : vs.getD i dv = v)
    (hr : Go l Z a0 EL n0 R own bytes maxL ret nm Q h sf ce sl pc' ls (v :: st)) : Go l Z a0 EL n0 R own bytes maxL ret nm Q h sf ce sl pc ls (.int j :: .ref a :: st) := by
  subst hp
  obtain ⟨cl, A, q1, S, q3, H, G⟩ := F
  exact go_move hr fun {p e s m args below meth c T locs} X hx hby hml eT hZ ho hOld => ⟨T, X, eT, fun t kk =>
    X.iaload hx (by rw [eT]; exact A.1) (State.isArrayOf_alike hZ.alike A.2.1) A.2.2 (inb_of S hj) (H.at (inb_of S hj) (by rw [hi]; exact hv)) (g := mkF m pc ls (.int j :: .ref a :: st)) rfl rfl (Jvm.hb hby hd) t kk⟩
theorem go_baload {a : Addr} {k : ClassId} {z j : Int32} {vs : List Value} {dv v : Value} (i : Nat) (hd : decode bytes pc = .ok (.baload, 1)) (hp : pc + 1 = pc') (F : Arv Z h a k .byte z vs dv) (hj : ¬ j < 0 ∧ j < z) (hi : j.toNatClampNeg = i) (hv : vs.getD i dv = v)
    (hr : Go l Z a0 EL n0 R own bytes maxL ret nm Q h sf ce sl pc' ls (v :: st)) : Go l Z a0 EL n0 R own bytes maxL ret nm Q h sf ce sl pc ls (.int j :: .ref a :: st) := by
  subst hp
  obtain ⟨cl, A, q1, S, q3, H, G⟩ := F
  exact go_move hr fun {p e s m args below meth c T locs} X hx hby hml eT hZ ho hOld => ⟨T, X, eT, fun t kk =>
    X.baloadBytes hx (by rw [eT]; exact A.1) (State.isArrayOf_alike hZ.alike A.2.1) A.2.2 (inb_of S hj) (H.at (inb_of S hj) (by rw [hi]; exact hv)) (g := mkF m pc ls (.int j :: .ref a :: st)) rfl rfl (Jvm.hb hby hd) t kk⟩
/-- returns -/
theorem go_ret (hd : decode bytes pc = .ok (.return_, 1)) (sf' : List Addr) (hret : ret = none) (hc : ce ≤ R.cells) (hs : sl ≤ R.slots) (hsub : ∀ x ∈ sf', x ∈ sf) (hq : Q none h sf') : Go l Z a0 EL n0 R own bytes maxL ret nm Q h sf ce sl pc ls [] :=
  go_out (fun _ => rfl) hc hs hsub (fun X hx hby hr hl => X.returnOut hx (hr.trans hret) (Jvm.hb hby hd) hl) hq
theorem go_retN {z : Int32} {t : FieldType} (hd : decode bytes pc = .ok (.ireturn, 1)) (sf' : List Addr) (hret : ret = some t) (ht : t = .boolean ∨ t = .byte ∨ t = .char ∨ t = .short) (hc : ce ≤ R.cells) (hs : sl ≤ R.slots) (hsub : ∀ x ∈ sf', x ∈ sf) (hq : Q (some (.int (nar t z))) h sf') : Go l Z a0 EL n0 R own bytes maxL ret nm Q h sf ce sl pc ls (.int z :: st) :=
  go_out (fun q => by rw [hret] at q; cases q) hc hs hsub (fun X hx hby hr hl => retN X hx (t := t) (hr.trans hret) ht (Jvm.hb hby hd) hl) hq
theorem go_retI {z : Int32} (hd : decode bytes pc = .ok (.ireturn, 1)) (sf' : List Addr) (hret : ret = some .int) (hc : ce ≤ R.cells) (hs : sl ≤ R.slots) (hsub : ∀ x ∈ sf', x ∈ sf) (hq : Q (some (.int z)) h sf') : Go l Z a0 EL n0 R own bytes maxL ret nm Q h sf ce sl pc ls (.int z :: st) :=
  go_out (fun q => by rw [hret] at q; cases q) hc hs hsub (fun X hx hby hr hl => retOut X hx (hr.trans hret) rfl (Or.inl ⟨rfl, Or.inl rfl, _, rfl⟩) (Jvm.hb hby hd) hl) hq
theorem go_retA {v : Value} {t : FieldType} (hd : decode bytes pc = .ok (.areturn, 1)) (sf' : List Addr) (hret : ret = some t) (ht : t.isReference = true) (hv : v.isRef = true) (hn : narrow t v = v) (hc : ce ≤ R.cells) (hs : sl ≤ R.slots) (hsub : ∀ x ∈ sf', x ∈ sf) (hq : Q (some v) h sf') : Go l Z a0 EL n0 R own bytes maxL ret nm Q h sf ce sl pc ls (v :: st) :=
  go_out (fun q => by rw [hret] at q; cases q) hc hs hsub (fun X hx hby hr hl => retOut X hx (hr.trans hret) hn (Or.inr (Or.inr (Or.inr (Or.inr ⟨rfl, ht, hv⟩)))) (Jvm.hb hby hd) hl) hq
theorem ext_of_keep {h0 h1 : Heap} (K : Keep h0 h1 []) : Ext h0 h1 := ⟨K.1, fun a c q => K.2.1 a c q nin0⟩
theorem keep_of_ext {h0 h1 : Heap} (E : Ext h0 h1) (ws : List Addr) : Keep h0 h1 ws := (Keep.refl h0 ws).ext E
theorem go_instNull {idx : Nat} (hd : decode bytes pc = .ok (.instanceof idx, 3)) (hp : pc + 3 = pc') (hr : Go l Z a0 EL n0 R own bytes maxL ret nm Q h sf ce sl pc' ls (.int 0 :: st)) : Go l Z a0 EL n0 R own bytes maxL ret nm Q h sf ce sl pc ls (.null :: st) := by
  subst hp
  exact go_move hr fun {p e s m args below meth c T locs} X hx hby hml eT hZ ho hOld => ⟨T, X, eT, X.instanceofNull hx (g := mkF m pc ls (.null :: st)) rfl rfl (Jvm.hb hby hd)⟩
theorem go_castNull {idx : Nat} (hd : decode bytes pc = .ok (.checkcast idx, 3)) (hp : pc + 3 = pc') (hr : Go l Z a0 EL n0 R own bytes maxL ret nm Q h sf ce sl pc' ls (.null :: st)) : Go l Z a0 EL n0 R own bytes maxL ret nm Q h sf ce sl pc ls (.null :: st) := by
  subst hp
  exact go_move hr fun {p e s m args below meth c T locs} X hx hby hml eT hZ ho hOld => ⟨T, X, eT, X.checkcastNull hx (g := mkF m pc ls (.null :: st)) rfl rfl (Jvm.hb hby hd)⟩
/-- System.arraycopy of numbers into an owned array -/
theorem go_acopy {idx : Nat} {a b : Addr} {k k' : ClassId} {ty : FieldType} {z z' sp dp nn : Int32} {vs vd us : List Value} {dv dd : Value} (hd : decode bytes pc = .ok (.invokestatic idx, 3)) (hp : pc + 3 = pc') (w1 : (Jvm.Cond.methodLink own idx Jvm.Stand.acN).before a0 Z = true) (w2 : (Jvm.Cond.native Jvm.Stand.acN).before a0 Z = true) (w3 : (Jvm.Cond.static Jvm.Stand.acN).before a0 Z = true) (w4 : (Jvm.Cond.initialized "java/lang/System").before a0 Z = true)
    (A : Arv Z h a k ty z vs dv) (B : Arv Z h b k' ty z' vd dd) (hty : refKind ty = false) (h1 : ¬ sp < 0) (h2 : ¬ dp < 0) (h3 : ¬ nn < 0) (h4 : sp.toNatClampNeg + nn.toNatClampNeg ≤ z.toNatClampNeg) (h5 : dp.toNatClampNeg + nn.toNatClampNeg ≤ z'.toNatClampNeg)
    (hus : us = (List.range nn.toNatClampNeg).map fun i => vs.getD (sp.toNatClampNeg + i) dv) (hl : dp.toNatClampNeg + nn.toNatClampNeg ≤ vd.length) (hm : b ∈ sf) (hsz : ls.size = maxL) (hf : 1 ≤ R.frames) (W : Nat) (hW : (st.map fun v => v.category).sum = W) (hlo : W + (nativeFrameWords "java/lang/System" "arraycopy" 5 + 11) ≤ R.locals)
    (hr : ∀ h', Keep h h' [b] → Arv Z h' b k' ty z' (vd.take dp.toNatClampNeg ++ us ++ vd.drop (dp.toNatClampNeg + nn.toNatClampNeg)) dd → Go l Z a0 EL n0 R own bytes maxL ret nm Q h' sf ce sl pc' ls st) :
    Go l Z a0 EL n0 R own bytes maxL ret nm Q h sf ce sl pc ls (.int nn :: .int dp :: .ref b :: .int sp :: .ref a :: st) := by
  subst hp
  intro p e s m args below meth c T W'
  obtain ⟨⟨hx, hby, hml, hret, hnm, hlk, hEL, hOld⟩, vm0, locs, k0, X, eT, hS, hk, hZ, hown, N, C, O⟩ := W'
  obtain ⟨q1, q2, q3⟩ := O b hm
  obtain ⟨T', h', L, X', e', N', K, B', st'⟩ := cpA (s := s.setVm vm0) X hx hZ hown w1 w2 w3 w4 eT A B (Or.inl ⟨rfl, hty⟩) h1 h2 h3 h4 h5 hus hl N q2 (g := mkF m pc ls (.int nn :: .int dp :: .ref b :: .int sp :: .ref a :: st)) rfl (by rw [hml]; exact hsz) rfl (Jvm.hb hby hd) hf (W := W) (by show 2 * 0 + (st.map fun v => v.category).sum ≤ W; omega) hlo
  have A' := CHr.keep K (allS q3 all0) C.1
  obtain ⟨t, o, h1', h2'⟩ := hr h' K B' p e s m args below meth c T' ⟨⟨hx, hby, hml, hret, hnm, hlk, hEL, hOld.keep K (allS q2 all0)⟩, vm0, L, k0, X', e', hS, Nat.le_trans hk K.1, hZ, hown, N', C.trans A', O.mv A'⟩
  exact ⟨t, o, st' _ h1', h2'⟩
end Walk
def ELc : List (String × Nat) := [("java/lang/String", 7), ("java/lang/StringLatin1", 151)]
def Base (Z : State) (a0 : Array Value) : Prop := (∀ d ∈ tables_1, d.before a0 Z = true) ∧ EW Z a0 ELc ∧ (∃ cz, Sta Z Z.heap "java/lang/String" "COMPACT_STRINGS" "Z" (.int cz) ∧ ¬ cz = 0) ∧ (∃ fv, Sta Z Z.heap "jdk/internal/util/Preconditions" "SIOOBE_FORMATTER" "Ljava/util/function/BiFunction;" fv ∧ fv.isRef = true) ∧ True
theorem wd {Z : State} {a0 : Array Value} {d : Jvm.Cond} (hB : Base Z a0) (k : Nat) (hk : tables_1[k]? = some d) : d.before a0 Z = true := hB.1 d (List.mem_of_getElem? hk)
theorem stA {Z : State} {a0 : Array Value} (hB : Base Z a0) : ∀ a ∈ Bundle.stringAtoms, a.before a0 Z = true := fun d hd => by
  simp only [Bundle.stringAtoms, List.mem_cons, List.not_mem_nil, or_false] at hd
  rcases hd with rfl | rfl | rfl | rfl | rfl | rfl | rfl
  · exact (wd hB 7 rfl)
  · exact (wd hB 6 rfl)
  · exact (wd hB 19 rfl)
  · exact (wd hB 20 rfl)
  · exact (wd hB 21 rfl)
  · exact (wd hB 22 rfl)
  · exact (wd hB 23 rfl)
theorem ofN_int {i : Nat} (h : i < 2147483648) : (Int32.ofNat i).toInt = i := Int32.toInt_ofNat_of_lt h
theorem ofN_lt {i n : Nat} (hi : i < n) (hn : n < 2147483648) : Int32.ofNat i < Int32.ofNat n := by
  rw [Int32.lt_iff_toInt_lt, ofN_int (by omega), ofN_int hn]; omega
theorem ofN_nlt {i n : Nat} (hi : n ≤ i) (hn : i < 2147483648) : ¬ Int32.ofNat i < Int32.ofNat n := by
  rw [Int32.lt_iff_toInt_lt, ofN_int hn, ofN_int (i := n) (by omega)]; omega
theorem ofN_nneg {i : Nat} (h : i < 2147483648) : ¬ Int32.ofNat i < 0 := by
  rw [Int32.lt_iff_toInt_lt, ofN_int h]; show ¬ (i : Int) < 0; omega
theorem ofN_cl {i : Nat} (h : i < 2147483648) : (Int32.ofNat i).toNatClampNeg = i := by
  have := ofN_int h; show (Int32.ofNat i).toInt.toNat = i; omega
theorem ofN_succ (i : Nat) : Int32.ofNat i + 1 = Int32.ofNat (i + 1) := by rw [Int32.ofNat_add]; rfl
theorem ofN_pos {i : Nat} (h0 : 0 < i) (h : i < 2147483648) : ¬ Int32.ofNat i = 0 := fun q => by
  have := ofN_int h; rw [q] at this; have h2 : (0 : Int32).toInt = 0 := rfl; omega
def lo8s (cs : List Int32) : List Value := cs.map fun c => Value.int c.toInt8.toInt32
theorem lo8s_len (cs : List Int32) : (lo8s cs).length = cs.length := by simp [lo8s]
theorem lo8s_set {cs : List Int32} {i j : Nat} {c : Int32} (hc : cs[i]? = some c) (hi : i + (j + 1) = cs.length) : (lo8s (cs.take i) ++ List.replicate (j + 1) (Value.int 0)).set i (Value.int c.toInt8.toInt32) = lo8s (cs.take (i + 1)) ++ List.replicate j (Value.int 0) := by
  have hl : (lo8s (cs.take i)).length = i := by rw [lo8s_len, List.length_take]; omega
  rw [List.set_append_right _ _ (by omega), hl, Nat.sub_self, List.replicate_succ, List.set_cons_zero, List.take_add_one, hc]
  simp [lo8s]
theorem map_at {cs : List Int32} {i : Nat} {c : Int32} (hc : cs[i]? = some c) : (cs.map Value.int).getD i (.int 0) = .int c := by simp [List.getD_eq_getElem?_getD, hc]
theorem at_of {cs : List Int32} {i : Nat} (h : i < cs.length) : ∃ c, cs[i]? = some c ∧ c ∈ cs := ⟨cs[i], List.getElem?_eq_getElem h, List.getElem_mem h⟩
theorem toBV_i8 (x : Int32) : x.toInt8.toInt32.toBitVec = (x.toBitVec.setWidth 8).signExtend 32 := by
  simp only [Int8.toBitVec_toInt32, Int32.toBitVec_toInt8]
  first | rw [BitVec.signExtend_eq_setWidth_of_le x.toBitVec (by omega)] | rw [BitVec.signExtend_eq_setWidth_of_lt x.toBitVec (by omega)] 
theorem sx8 (y : BitVec 8) : (y.signExtend 32).toNat % 256 = y.toNat := by
  rw [BitVec.toNat_signExtend]
  split <;> simp <;> omega
theorem lo8_and (x : Int32) : (x.toInt8.toInt32 &&& 255).toBitVec.toNat = x.toBitVec.toNat % 256 := by
  rw [Int32.toBitVec_and, BitVec.toNat_and]
  have e : (255 : Int32).toBitVec.toNat = 2 ^ 8 - 1 := by decide
  rw [e, Nat.and_two_pow_sub_one_eq_mod, toBV_i8]
  have := sx8 (x.toBitVec.setWidth 8)
  rw [BitVec.toNat_setWidth] at this
  exact this
theorem shl1 {i : Nat} (h : 2 * i < 2147483648) : Int32.ofNat i <<< ((1 : Int32) &&& 31) = Int32.ofNat (2 * i) := by
  have e : ((1 : Int32) &&& 31) = 1 := by decide
  rw [e]
  apply Int32.toBitVec_inj.mp
  apply BitVec.eq_of_toNat_eq
  have a1 : (Int32.ofNat i).toBitVec.toNat = i := by show (BitVec.ofNat 32 i).toNat = i; rw [BitVec.toNat_ofNat]; omega
  have a2 : (Int32.ofNat (2 * i)).toBitVec.toNat = 2 * i := by show (BitVec.ofNat 32 (2 * i)).toNat = 2 * i; rw [BitVec.toNat_ofNat]; omega
  rw [a2, Int32.toBitVec_shiftLeft]
  have e1 : ((1 : Int32).toBitVec.smod 32) = 1#32 := by decide
  rw [e1]
  show ((Int32.ofNat i).toBitVec <<< (1#32).toNat).toNat = 2 * i
  rw [BitVec.toNat_shiftLeft, a1]
  show (i <<< 1) % 2 ^ 32 = 2 * i
  rw [Nat.shiftLeft_eq]; omega
theorem shr0 (c : Int32) : c >>> ((0 : Int32) &&& 31) = c := by
  have e : ((0 : Int32) &&& 31) = 0 := by decide
  rw [e]
  apply Int32.toBitVec_inj.mp
  rw [Int32.toBitVec_shiftRight]
  have e1 : ((0 : Int32).toBitVec.smod 32) = 0#32 := by decide
  rw [e1]
  show c.toBitVec.sshiftRight (0#32).toNat = _
  simp
theorem shl0 (c : Int32) : c <<< ((0 : Int32) &&& 31) = c := by
  have e : ((0 : Int32) &&& 31) = 0 := by decide
  rw [e]
  apply Int32.toBitVec_inj.mp
  rw [Int32.toBitVec_shiftLeft]
  have e1 : ((0 : Int32).toBitVec.smod 32) = 0#32 := by decide
  rw [e1]
  show c.toBitVec <<< (0#32).toNat = _
  simp
theorem shl8_nat {x : Int32} (h : x.toBitVec.toNat < 256) : (x <<< ((8 : Int32) &&& 31)).toBitVec.toNat = x.toBitVec.toNat * 256 := by
  have e : ((8 : Int32) &&& 31) = 8 := by decide
  rw [e, Int32.toBitVec_shiftLeft]
  have e1 : ((8 : Int32).toBitVec.smod 32) = 8#32 := by decide
  rw [e1]
  show (x.toBitVec <<< (8#32).toNat).toNat = _
  rw [BitVec.toNat_shiftLeft]
  show (x.toBitVec.toNat <<< 8) % 2 ^ 32 = _
  rw [Nat.shiftLeft_eq]; omega
theorem shr1 {n : Nat} (h : 2 * n < 2147483648) : Int32.ofNat (2 * n) >>> ((1 : Int32) &&& 31) = Int32.ofNat n := by
  have e : ((1 : Int32) &&& 31) = 1 := by decide
  rw [e]
  apply Int32.toBitVec_inj.mp
  rw [Int32.toBitVec_shiftRight]
  have e1 : ((1 : Int32).toBitVec.smod 32) = 1#32 := by decide
  have a1 : (Int32.ofNat (2 * n)).toBitVec.toNat = 2 * n := by show (BitVec.ofNat 32 (2 * n)).toNat = 2 * n; rw [BitVec.toNat_ofNat]; omega
  have a2 : (Int32.ofNat n).toBitVec.toNat = n := by show (BitVec.ofNat 32 n).toNat = n; rw [BitVec.toNat_ofNat]; omega
  have hm : (Int32.ofNat (2 * n)).toBitVec.msb = false := by rw [BitVec.msb_eq_decide, a1]; simp; omega
  apply BitVec.eq_of_toNat_eq
  rw [e1]
  show ((Int32.ofNat (2 * n)).toBitVec.sshiftRight (1#32).toNat).toNat = _
  rw [BitVec.sshiftRight_eq_of_msb_false hm, BitVec.toNat_ushiftRight, a1, a2]
  show (2 * n) >>> 1 = n
  rw [Nat.shiftRight_eq_div_pow]; omega
theorem nat_of_int {c : Int32} (h : 0 ≤ c.toInt) : c.toInt = (c.toBitVec.toNat : Int) := by
  have h1 : 0 ≤ c.toBitVec.toInt := h
  show c.toBitVec.toInt = _
  rw [BitVec.toInt_eq_toNat_cond] at h1 ⊢
  split at h1
  · rw [if_pos (by assumption)]
  · have := c.toBitVec.isLt; omega
theorem and_rng (x : Int32) {m : Int32} (hm : 0 ≤ m.toInt) : 0 ≤ (x &&& m).toInt ∧ (x &&& m).toInt ≤ m.toInt := by
  have h1 : (x &&& m).toBitVec.toNat ≤ m.toBitVec.toNat := by rw [Int32.toBitVec_and, BitVec.toNat_and]; exact Nat.and_le_right
  have h4 := nat_of_int hm
  have hb : m.toInt < 2147483648 := m.toInt_lt
  have h3 : (x &&& m).toInt = ((x &&& m).toBitVec.toNat : Int) := BitVec.toInt_eq_toNat_of_lt (by omega)
  omega
theorem rem_rng {x m : Int32} (hx : 0 ≤ x.toInt) (hm : 0 < m.toInt) : 0 ≤ (x % m).toInt ∧ (x % m).toInt < m.toInt := by
  rw [Int32.toInt_mod]
  exact ⟨Int.tmod_nonneg _ hx, Int.tmod_lt_of_pos _ hm⟩
theorem ushr_rng (x : Int32) : 0 ≤ (XT.ushr x 16).toInt := by
  have h1 : (XT.ushr x 16).toBitVec.toNat < 65536 := by
    show (x.toUInt32 >>> ((16 : Int32) &&& 31).toUInt32).toNat < 65536
    have : (((16 : Int32) &&& 31).toUInt32) = 16 := by decide
    rw [this, UInt32.toNat_shiftRight]
    have := x.toUInt32.toNat_lt; show x.toUInt32.toNat >>> (16 % 32) < _; rw [Nat.shiftRight_eq_div_pow]
    show x.toUInt32.toNat / 65536 < 65536
    omega
  have h3 : (XT.ushr x 16).toInt = ((XT.ushr x 16).toBitVec.toNat : Int) := BitVec.toInt_eq_toNat_of_lt (by omega)
  omega
theorem ofN_sub {a b : Nat} (h : b ≤ a) (ha : a < 2147483648) : Int32.ofNat a - Int32.ofNat b = Int32.ofNat (a - b) := by
  apply Int32.toInt_inj.mp
  rw [Int32.toInt_sub, ofN_int ha, ofN_int (i := b) (by omega), ofN_int (i := a - b) (by omega)]
  rw [Int.bmod_eq_of_le (by omega) (by omega)]; omega
theorem ofN_add (a b : Nat) : Int32.ofNat a + Int32.ofNat b = Int32.ofNat (a + b) := by rw [Int32.ofNat_add]
def ob (p : Prop) [Decidable p] : Int32 := if p then 1 else 0
theorem ob_t {p : Prop} [Decidable p] (h : p) : ob p = 1 := if_pos h
theorem ob_f {p : Prop} [Decidable p] (h : ¬ p) : ob p = 0 := if_neg h
theorem pd_0 : parseMethodDescriptor "([CI[BII)I" = some ⟨[(.array .char), .int, (.array .byte), .int, .int], (some .int)⟩ := by decide +kernel
theorem pd_1 : parseMethodDescriptor "([CII)[B" = some ⟨[(.array .char), .int, .int], (some (.array .byte))⟩ := by decide +kernel
theorem pd_2 : parseMethodDescriptor "([BI)B" = some ⟨[(.array .byte), .int], (some .byte)⟩ := by decide +kernel
theorem pd_3 : parseMethodDescriptor "([CIILjava/lang/Void;)V" = some ⟨[(.array .char), .int, .int, (.object "java/lang/Void")], none⟩ := by decide +kernel
theorem pd_4 : parseMethodDescriptor "()B" = some ⟨[], (some .byte)⟩ := by decide +kernel
theorem pd_5 : parseMethodDescriptor "(IILjava/util/function/BiFunction;)I" = some ⟨[.int, .int, (.object "java/util/function/BiFunction")], (some .int)⟩ := by decide +kernel
theorem pd_6 : parseMethodDescriptor "(II)V" = some ⟨[.int, .int], none⟩ := by decide +kernel
theorem pd_7 : parseMethodDescriptor "()Z" = some ⟨[], (some .boolean)⟩ := by decide +kernel
theorem pd_8 : parseMethodDescriptor "([BI)C" = some ⟨[(.array .byte), .int], (some .char)⟩ := by decide +kernel
theorem pd_9 : parseMethodDescriptor "(IIILjava/util/function/BiFunction;)I" = some ⟨[.int, .int, .int, (.object "java/util/function/BiFunction")], (some .int)⟩ := by decide +kernel
theorem pd_10 : parseMethodDescriptor "(II)I" = some ⟨[.int, .int], (some .int)⟩ := by decide +kernel
theorem pd_11 : parseMethodDescriptor "([BII)[B" = some ⟨[(.array .byte), .int, .int], (some (.array .byte))⟩ := by decide +kernel
theorem pd_12 : parseMethodDescriptor "([BB)V" = some ⟨[(.array .byte), .byte], none⟩ := by decide +kernel
theorem pd_13 : parseMethodDescriptor "()I" = some ⟨[], (some .int)⟩ := by decide +kernel
theorem pd_14 : parseMethodDescriptor "(III)V" = some ⟨[.int, .int, .int], none⟩ := by decide +kernel
theorem pd_15 : parseMethodDescriptor "([BII)Ljava/lang/String;" = some ⟨[(.array .byte), .int, .int], (some (.object "java/lang/String"))⟩ := by decide +kernel
theorem pd_16 : parseMethodDescriptor "(II)Ljava/lang/String;" = some ⟨[.int, .int], (some (.object "java/lang/String"))⟩ := by decide +kernel
theorem pd_17 : parseMethodDescriptor "(I)C" = some ⟨[.int], (some .char)⟩ := by decide +kernel
theorem pd_18 : parseMethodDescriptor "(Ljava/lang/String;)Ljava/lang/String;" = some ⟨[(.object "java/lang/String")], (some (.object "java/lang/String"))⟩ := by decide +kernel
theorem pd_19 : parseMethodDescriptor "(Ljava/lang/String;II[CI)Z" = some ⟨[(.object "java/lang/String"), .int, .int, (.array .char), .int], (some .boolean)⟩ := by decide +kernel
theorem pd_20 : parseMethodDescriptor "([C)V" = some ⟨[(.array .char)], none⟩ := by decide +kernel
theorem d_b13_0 : decode jdk_52_method_21_code 0 = .ok (.iconst 0, 1) := by decide +kernel
theorem d_b13_1 : decode jdk_52_method_21_code 1 = .ok (.istore 5, 2) := by decide +kernel
theorem d_b13_3 : decode jdk_52_method_21_code 3 = .ok (.iload 5, 2) := by decide +kernel
theorem d_b13_5 : decode jdk_52_method_21_code 5 = .ok (.iload 4, 2) := by decide +kernel
theorem d_b13_7 : decode jdk_52_method_21_code 7 = .ok (.if_icmp .ge 37, 3) := by decide +kernel
theorem d_b13_10 : decode jdk_52_method_21_code 10 = .ok (.aload_n 0, 1) := by decide +kernel
theorem d_b13_11 : decode jdk_52_method_21_code 11 = .ok (.iload_n 1, 1) := by decide +kernel
theorem d_b13_12 : decode jdk_52_method_21_code 12 = .ok (.caload, 1) := by decide +kernel
theorem d_b13_13 : decode jdk_52_method_21_code 13 = .ok (.istore 6, 2) := by decide +kernel
theorem d_b13_15 : decode jdk_52_method_21_code 15 = .ok (.iload 6, 2) := by decide +kernel
theorem d_b13_17 : decode jdk_52_method_21_code 17 = .ok (.sipush 255, 3) := by decide +kernel
theorem d_b13_20 : decode jdk_52_method_21_code 20 = .ok (.if_icmp .le 6, 3) := by decide +kernel
theorem d_b13_26 : decode jdk_52_method_21_code 26 = .ok (.aload_n 2, 1) := by decide +kernel
theorem d_b13_27 : decode jdk_52_method_21_code 27 = .ok (.iload_n 3, 1) := by decide +kernel
theorem d_b13_28 : decode jdk_52_method_21_code 28 = .ok (.iload 6, 2) := by decide +kernel
theorem d_b13_30 : decode jdk_52_method_21_code 30 = .ok (.i2b, 1) := by decide +kernel
theorem d_b13_31 : decode jdk_52_method_21_code 31 = .ok (.bastore, 1) := by decide +kernel
theorem d_b13_32 : decode jdk_52_method_21_code 32 = .ok (.iinc 1 1, 3) := by decide +kernel
theorem d_b13_35 : decode jdk_52_method_21_code 35 = .ok (.iinc 3 1, 3) := by decide +kernel
theorem d_b13_38 : decode jdk_52_method_21_code 38 = .ok (.iinc 5 1, 3) := by decide +kernel
theorem d_b13_41 : decode jdk_52_method_21_code 41 = .ok (.goto (-38), 3) := by decide +kernel
theorem d_b13_44 : decode jdk_52_method_21_code 44 = .ok (.iload 4, 2) := by decide +kernel
theorem d_b13_46 : decode jdk_52_method_21_code 46 = .ok (.ireturn, 1) := by decide +kernel
theorem d_b14_0 : decode jdk_52_method_15_code 0 = .ok (.iload_n 1, 1) := by decide +kernel
theorem d_b14_1 : decode jdk_52_method_15_code 1 = .ok (.aload_n 0, 1) := by decide +kernel
theorem d_b14_2 : decode jdk_52_method_15_code 2 = .ok (.arraylength, 1) := by decide +kernel
theorem d_b14_3 : decode jdk_52_method_15_code 3 = .ok (.isub, 1) := by decide +kernel
theorem d_b14_4 : decode jdk_52_method_15_code 4 = .ok (.bipush 31, 2) := by decide +kernel
theorem d_b14_6 : decode jdk_52_method_15_code 6 = .ok (.iushr, 1) := by decide +kernel
theorem d_b14_7 : decode jdk_52_method_15_code 7 = .ok (.i2b, 1) := by decide +kernel
theorem d_b14_8 : decode jdk_52_method_15_code 8 = .ok (.ireturn, 1) := by decide +kernel
theorem d_b12_0 : decode jdk_52_method_16_code 0 = .ok (.iload_n 2, 1) := by decide +kernel
theorem d_b12_1 : decode jdk_52_method_16_code 1 = .ok (.newarray .byte, 2) := by decide +kernel
theorem d_b12_3 : decode jdk_52_method_16_code 3 = .ok (.astore_n 3, 1) := by decide +kernel
theorem d_b12_4 : decode jdk_52_method_16_code 4 = .ok (.aload_n 0, 1) := by decide +kernel
theorem d_b12_5 : decode jdk_52_method_16_code 5 = .ok (.iload_n 1, 1) := by decide +kernel
theorem d_b12_6 : decode jdk_52_method_16_code 6 = .ok (.aload_n 3, 1) := by decide +kernel
theorem d_b12_7 : decode jdk_52_method_16_code 7 = .ok (.iconst 0, 1) := by decide +kernel
theorem d_b12_8 : decode jdk_52_method_16_code 8 = .ok (.iload_n 2, 1) := by decide +kernel
theorem d_b12_9 : decode jdk_52_method_16_code 9 = .ok (.invokestatic 115, 3) := by decide +kernel
theorem d_b12_12 : decode jdk_52_method_16_code 12 = .ok (.istore 4, 2) := by decide +kernel
theorem d_b12_14 : decode jdk_52_method_16_code 14 = .ok (.iload 4, 2) := by decide +kernel
theorem d_b12_16 : decode jdk_52_method_16_code 16 = .ok (.iload_n 2, 1) := by decide +kernel
theorem d_b12_17 : decode jdk_52_method_16_code 17 = .ok (.if_icmp .eq 40, 3) := by decide +kernel
theorem d_b12_57 : decode jdk_52_method_16_code 57 = .ok (.aload_n 3, 1) := by decide +kernel
theorem d_b12_58 : decode jdk_52_method_16_code 58 = .ok (.areturn, 1) := by decide +kernel
theorem d_b3_0 : decode jdk_42_method_149_code 0 = .ok (.aload_n 0, 1) := by decide +kernel
theorem d_b3_1 : decode jdk_42_method_149_code 1 = .ok (.invokespecial 1, 3) := by decide +kernel
theorem d_b3_4 : decode jdk_42_method_149_code 4 = .ok (.iload_n 3, 1) := by decide +kernel
theorem d_b3_5 : decode jdk_42_method_149_code 5 = .ok (.ifCond .ne 22, 3) := by decide +kernel
theorem d_b3_8 : decode jdk_42_method_149_code 8 = .ok (.aload_n 0, 1) := by decide +kernel
theorem d_b3_9 : decode jdk_42_method_149_code 9 = .ok (.ldc 7, 2) := by decide +kernel
theorem d_b3_11 : decode jdk_42_method_149_code 11 = .ok (.getfield 9, 3) := by decide +kernel
theorem d_b3_14 : decode jdk_42_method_149_code 14 = .ok (.putfield 9, 3) := by decide +kernel
theorem d_b3_17 : decode jdk_42_method_149_code 17 = .ok (.aload_n 0, 1) := by decide +kernel
theorem d_b3_18 : decode jdk_42_method_149_code 18 = .ok (.ldc 7, 2) := by decide +kernel
theorem d_b3_20 : decode jdk_42_method_149_code 20 = .ok (.getfield 15, 3) := by decide +kernel
theorem d_b3_23 : decode jdk_42_method_149_code 23 = .ok (.putfield 15, 3) := by decide +kernel
theorem d_b3_26 : decode jdk_42_method_149_code 26 = .ok (.return_, 1) := by decide +kernel
theorem d_b3_27 : decode jdk_42_method_149_code 27 = .ok (.getstatic 38, 3) := by decide +kernel
theorem d_b3_30 : decode jdk_42_method_149_code 30 = .ok (.ifCond .eq 28, 3) := by decide +kernel
theorem d_b3_33 : decode jdk_42_method_149_code 33 = .ok (.aload_n 1, 1) := by decide +kernel
theorem d_b3_34 : decode jdk_42_method_149_code 34 = .ok (.iload_n 2, 1) := by decide +kernel
theorem d_b3_35 : decode jdk_42_method_149_code 35 = .ok (.iload_n 3, 1) := by decide +kernel
theorem d_b3_36 : decode jdk_42_method_149_code 36 = .ok (.invokestatic 177, 3) := by decide +kernel
theorem d_b3_39 : decode jdk_42_method_149_code 39 = .ok (.astore 5, 2) := by decide +kernel
theorem d_b3_41 : decode jdk_42_method_149_code 41 = .ok (.aload_n 0, 1) := by decide +kernel
theorem d_b3_42 : decode jdk_42_method_149_code 42 = .ok (.aload 5, 2) := by decide +kernel
theorem d_b3_44 : decode jdk_42_method_149_code 44 = .ok (.iload_n 3, 1) := by decide +kernel
theorem d_b3_45 : decode jdk_42_method_149_code 45 = .ok (.invokestatic 47, 3) := by decide +kernel
theorem d_b3_48 : decode jdk_42_method_149_code 48 = .ok (.putfield 15, 3) := by decide +kernel
theorem d_b3_51 : decode jdk_42_method_149_code 51 = .ok (.aload_n 0, 1) := by decide +kernel
theorem d_b3_52 : decode jdk_42_method_149_code 52 = .ok (.aload 5, 2) := by decide +kernel
theorem d_b3_54 : decode jdk_42_method_149_code 54 = .ok (.putfield 9, 3) := by decide +kernel
theorem d_b3_57 : decode jdk_42_method_149_code 57 = .ok (.return_, 1) := by decide +kernel
theorem d_b2_0 : decode jdk_42_method_3_code 0 = .ok (.aload_n 0, 1) := by decide +kernel
theorem d_b2_1 : decode jdk_42_method_3_code 1 = .ok (.aload_n 1, 1) := by decide +kernel
theorem d_b2_2 : decode jdk_42_method_3_code 2 = .ok (.iconst 0, 1) := by decide +kernel
theorem d_b2_3 : decode jdk_42_method_3_code 3 = .ok (.aload_n 1, 1) := by decide +kernel
theorem d_b2_4 : decode jdk_42_method_3_code 4 = .ok (.arraylength, 1) := by decide +kernel
theorem d_b2_5 : decode jdk_42_method_3_code 5 = .ok (.aconst_null, 1) := by decide +kernel
theorem d_b2_6 : decode jdk_42_method_3_code 6 = .ok (.invokespecial 27, 3) := by decide +kernel
theorem d_b2_9 : decode jdk_42_method_3_code 9 = .ok (.return_, 1) := by decide +kernel
theorem d_b7_0 : decode jdk_42_method_152_code 0 = .ok (.getstatic 38, 3) := by decide +kernel
theorem d_b7_3 : decode jdk_42_method_152_code 3 = .ok (.ifCond .eq 10, 3) := by decide +kernel
theorem d_b7_6 : decode jdk_42_method_152_code 6 = .ok (.aload_n 0, 1) := by decide +kernel
theorem d_b7_7 : decode jdk_42_method_152_code 7 = .ok (.getfield 15, 3) := by decide +kernel
theorem d_b7_10 : decode jdk_42_method_152_code 10 = .ok (.goto 4, 3) := by decide +kernel
theorem d_b7_14 : decode jdk_42_method_152_code 14 = .ok (.ireturn, 1) := by decide +kernel
theorem d_b6_0 : decode jdk_42_method_54_code 0 = .ok (.aload_n 0, 1) := by decide +kernel
theorem d_b6_1 : decode jdk_42_method_54_code 1 = .ok (.getfield 9, 3) := by decide +kernel
theorem d_b6_4 : decode jdk_42_method_54_code 4 = .ok (.arraylength, 1) := by decide +kernel
theorem d_b6_5 : decode jdk_42_method_54_code 5 = .ok (.aload_n 0, 1) := by decide +kernel
theorem d_b6_6 : decode jdk_42_method_54_code 6 = .ok (.invokevirtual 335, 3) := by decide +kernel
theorem d_b6_9 : decode jdk_42_method_54_code 9 = .ok (.ishr, 1) := by decide +kernel
theorem d_b6_10 : decode jdk_42_method_54_code 10 = .ok (.ireturn, 1) := by decide +kernel
theorem d_b19_0 : decode jdk_41_method_11_code 0 = .ok (.iload_n 0, 1) := by decide +kernel
theorem d_b19_1 : decode jdk_41_method_11_code 1 = .ok (.ifCond .lt 8, 3) := by decide +kernel
theorem d_b19_4 : decode jdk_41_method_11_code 4 = .ok (.iload_n 0, 1) := by decide +kernel
theorem d_b19_5 : decode jdk_41_method_11_code 5 = .ok (.iload_n 1, 1) := by decide +kernel
theorem d_b19_6 : decode jdk_41_method_11_code 6 = .ok (.if_icmp .lt 10, 3) := by decide +kernel
theorem d_b19_16 : decode jdk_41_method_11_code 16 = .ok (.iload_n 0, 1) := by decide +kernel
theorem d_b19_17 : decode jdk_41_method_11_code 17 = .ok (.ireturn, 1) := by decide +kernel
theorem d_b18_0 : decode jdk_42_method_155_code 0 = .ok (.iload_n 0, 1) := by decide +kernel
theorem d_b18_1 : decode jdk_42_method_155_code 1 = .ok (.iload_n 1, 1) := by decide +kernel
theorem d_b18_2 : decode jdk_42_method_155_code 2 = .ok (.getstatic 1053, 3) := by decide +kernel
theorem d_b18_5 : decode jdk_42_method_155_code 5 = .ok (.invokestatic 1059, 3) := by decide +kernel
theorem d_b18_8 : decode jdk_42_method_155_code 8 = .ok (.pop, 1) := by decide +kernel
theorem d_b18_9 : decode jdk_42_method_155_code 9 = .ok (.return_, 1) := by decide +kernel
theorem d_b17_0 : decode jdk_43_method_2_code 0 = .ok (.iload_n 1, 1) := by decide +kernel
theorem d_b17_1 : decode jdk_43_method_2_code 1 = .ok (.aload_n 0, 1) := by decide +kernel
theorem d_b17_2 : decode jdk_43_method_2_code 2 = .ok (.arraylength, 1) := by decide +kernel
theorem d_b17_3 : decode jdk_43_method_2_code 3 = .ok (.invokestatic 9, 3) := by decide +kernel
theorem d_b17_6 : decode jdk_43_method_2_code 6 = .ok (.aload_n 0, 1) := by decide +kernel
theorem d_b17_7 : decode jdk_43_method_2_code 7 = .ok (.iload_n 1, 1) := by decide +kernel
theorem d_b17_8 : decode jdk_43_method_2_code 8 = .ok (.baload, 1) := by decide +kernel
theorem d_b17_9 : decode jdk_43_method_2_code 9 = .ok (.sipush 255, 3) := by decide +kernel
theorem d_b17_12 : decode jdk_43_method_2_code 12 = .ok (.iand, 1) := by decide +kernel
theorem d_b17_13 : decode jdk_43_method_2_code 13 = .ok (.i2c, 1) := by decide +kernel
theorem d_b17_14 : decode jdk_43_method_2_code 14 = .ok (.ireturn, 1) := by decide +kernel
theorem d_b16_0 : decode jdk_42_method_154_code 0 = .ok (.getstatic 38, 3) := by decide +kernel
theorem d_b16_3 : decode jdk_42_method_154_code 3 = .ok (.ifCond .eq 14, 3) := by decide +kernel
theorem d_b16_6 : decode jdk_42_method_154_code 6 = .ok (.aload_n 0, 1) := by decide +kernel
theorem d_b16_7 : decode jdk_42_method_154_code 7 = .ok (.getfield 15, 3) := by decide +kernel
theorem d_b16_10 : decode jdk_42_method_154_code 10 = .ok (.ifCond .ne 7, 3) := by decide +kernel
theorem d_b16_13 : decode jdk_42_method_154_code 13 = .ok (.iconst 1, 1) := by decide +kernel
theorem d_b16_14 : decode jdk_42_method_154_code 14 = .ok (.goto 4, 3) := by decide +kernel
theorem d_b16_18 : decode jdk_42_method_154_code 18 = .ok (.ireturn, 1) := by decide +kernel
theorem d_b15_0 : decode jdk_42_method_56_code 0 = .ok (.aload_n 0, 1) := by decide +kernel
theorem d_b15_1 : decode jdk_42_method_56_code 1 = .ok (.invokevirtual 492, 3) := by decide +kernel
theorem d_b15_4 : decode jdk_42_method_56_code 4 = .ok (.ifCond .eq 12, 3) := by decide +kernel
theorem d_b15_7 : decode jdk_42_method_56_code 7 = .ok (.aload_n 0, 1) := by decide +kernel
theorem d_b15_8 : decode jdk_42_method_56_code 8 = .ok (.getfield 9, 3) := by decide +kernel
theorem d_b15_11 : decode jdk_42_method_56_code 11 = .ok (.iload_n 1, 1) := by decide +kernel
theorem d_b15_12 : decode jdk_42_method_56_code 12 = .ok (.invokestatic 495, 3) := by decide +kernel
theorem d_b15_15 : decode jdk_42_method_56_code 15 = .ok (.ireturn, 1) := by decide +kernel
theorem d_b10_0 : decode jdk_41_method_12_code 0 = .ok (.iload_n 0, 1) := by decide +kernel
theorem d_b10_1 : decode jdk_41_method_12_code 1 = .ok (.ifCond .lt 13, 3) := by decide +kernel
theorem d_b10_4 : decode jdk_41_method_12_code 4 = .ok (.iload_n 0, 1) := by decide +kernel
theorem d_b10_5 : decode jdk_41_method_12_code 5 = .ok (.iload_n 1, 1) := by decide +kernel
theorem d_b10_6 : decode jdk_41_method_12_code 6 = .ok (.if_icmp .gt 8, 3) := by decide +kernel
theorem d_b10_9 : decode jdk_41_method_12_code 9 = .ok (.iload_n 1, 1) := by decide +kernel
theorem d_b10_10 : decode jdk_41_method_12_code 10 = .ok (.iload_n 2, 1) := by decide +kernel
theorem d_b10_11 : decode jdk_41_method_12_code 11 = .ok (.if_icmp .le 11, 3) := by decide +kernel
theorem d_b10_22 : decode jdk_41_method_12_code 22 = .ok (.iload_n 0, 1) := by decide +kernel
theorem d_b10_23 : decode jdk_41_method_12_code 23 = .ok (.ireturn, 1) := by decide +kernel
theorem d_b9_0 : decode jdk_42_method_158_code 0 = .ok (.iload_n 0, 1) := by decide +kernel
theorem d_b9_1 : decode jdk_42_method_158_code 1 = .ok (.iload_n 1, 1) := by decide +kernel
theorem d_b9_2 : decode jdk_42_method_158_code 2 = .ok (.iload_n 2, 1) := by decide +kernel
theorem d_b9_3 : decode jdk_42_method_158_code 3 = .ok (.getstatic 1053, 3) := by decide +kernel
theorem d_b9_6 : decode jdk_42_method_158_code 6 = .ok (.invokestatic 1062, 3) := by decide +kernel
theorem d_b9_9 : decode jdk_42_method_158_code 9 = .ok (.pop, 1) := by decide +kernel
theorem d_b9_10 : decode jdk_42_method_158_code 10 = .ok (.return_, 1) := by decide +kernel
theorem d_b23_0 : decode jdk_65_method_131_code 0 = .ok (.iload_n 1, 1) := by decide +kernel
theorem d_b23_1 : decode jdk_65_method_131_code 1 = .ok (.iload_n 0, 1) := by decide +kernel
theorem d_b23_2 : decode jdk_65_method_131_code 2 = .ok (.if_icmp .ge 35, 3) := by decide +kernel
theorem d_b23_37 : decode jdk_65_method_131_code 37 = .ok (.return_, 1) := by decide +kernel
theorem d_b24_0 : decode jdk_29_method_69_code 0 = .ok (.iload_n 0, 1) := by decide +kernel
theorem d_b24_1 : decode jdk_29_method_69_code 1 = .ok (.iload_n 1, 1) := by decide +kernel
theorem d_b24_2 : decode jdk_29_method_69_code 2 = .ok (.if_icmp .gt 7, 3) := by decide +kernel
theorem d_b24_5 : decode jdk_29_method_69_code 5 = .ok (.iload_n 0, 1) := by decide +kernel
theorem d_b24_6 : decode jdk_29_method_69_code 6 = .ok (.goto 4, 3) := by decide +kernel
theorem d_b24_9 : decode jdk_29_method_69_code 9 = .ok (.iload_n 1, 1) := by decide +kernel
theorem d_b24_10 : decode jdk_29_method_69_code 10 = .ok (.ireturn, 1) := by decide +kernel
theorem d_b22_0 : decode jdk_65_method_133_code 0 = .ok (.iload_n 1, 1) := by decide +kernel
theorem d_b22_1 : decode jdk_65_method_133_code 1 = .ok (.iload_n 2, 1) := by decide +kernel
theorem d_b22_2 : decode jdk_65_method_133_code 2 = .ok (.invokestatic 343, 3) := by decide +kernel
theorem d_b22_5 : decode jdk_65_method_133_code 5 = .ok (.iload_n 2, 1) := by decide +kernel
theorem d_b22_6 : decode jdk_65_method_133_code 6 = .ok (.iload_n 1, 1) := by decide +kernel
theorem d_b22_7 : decode jdk_65_method_133_code 7 = .ok (.isub, 1) := by decide +kernel
theorem d_b22_8 : decode jdk_65_method_133_code 8 = .ok (.istore_n 3, 1) := by decide +kernel
theorem d_b22_9 : decode jdk_65_method_133_code 9 = .ok (.iload_n 3, 1) := by decide +kernel
theorem d_b22_10 : decode jdk_65_method_133_code 10 = .ok (.newarray .byte, 2) := by decide +kernel
theorem d_b22_12 : decode jdk_65_method_133_code 12 = .ok (.astore 4, 2) := by decide +kernel
theorem d_b22_14 : decode jdk_65_method_133_code 14 = .ok (.aload_n 0, 1) := by decide +kernel
theorem d_b22_15 : decode jdk_65_method_133_code 15 = .ok (.iload_n 1, 1) := by decide +kernel
theorem d_b22_16 : decode jdk_65_method_133_code 16 = .ok (.aload 4, 2) := by decide +kernel
theorem d_b22_18 : decode jdk_65_method_133_code 18 = .ok (.iconst 0, 1) := by decide +kernel
theorem d_b22_19 : decode jdk_65_method_133_code 19 = .ok (.aload_n 0, 1) := by decide +kernel
theorem d_b22_20 : decode jdk_65_method_133_code 20 = .ok (.arraylength, 1) := by decide +kernel
theorem d_b22_21 : decode jdk_65_method_133_code 21 = .ok (.iload_n 1, 1) := by decide +kernel
theorem d_b22_22 : decode jdk_65_method_133_code 22 = .ok (.isub, 1) := by decide +kernel
theorem d_b22_23 : decode jdk_65_method_133_code 23 = .ok (.iload_n 3, 1) := by decide +kernel
theorem d_b22_24 : decode jdk_65_method_133_code 24 = .ok (.invokestatic 304, 3) := by decide +kernel
theorem d_b22_27 : decode jdk_65_method_133_code 27 = .ok (.invokestatic 150, 3) := by decide +kernel
theorem d_b22_30 : decode jdk_65_method_133_code 30 = .ok (.aload 4, 2) := by decide +kernel
theorem d_b22_32 : decode jdk_65_method_133_code 32 = .ok (.areturn, 1) := by decide +kernel
theorem d_b21_0 : decode jdk_65_method_132_code 0 = .ok (.iload_n 1, 1) := by decide +kernel
theorem d_b21_1 : decode jdk_65_method_132_code 1 = .ok (.ifCond .ne 9, 3) := by decide +kernel
theorem d_b21_4 : decode jdk_65_method_132_code 4 = .ok (.iload_n 2, 1) := by decide +kernel
theorem d_b21_5 : decode jdk_65_method_132_code 5 = .ok (.aload_n 0, 1) := by decide +kernel
theorem d_b21_6 : decode jdk_65_method_132_code 6 = .ok (.arraylength, 1) := by decide +kernel
theorem d_b21_7 : decode jdk_65_method_132_code 7 = .ok (.if_icmp .eq 10, 3) := by decide +kernel
theorem d_b21_10 : decode jdk_65_method_132_code 10 = .ok (.aload_n 0, 1) := by decide +kernel
theorem d_b21_11 : decode jdk_65_method_132_code 11 = .ok (.iload_n 1, 1) := by decide +kernel
theorem d_b21_12 : decode jdk_65_method_132_code 12 = .ok (.iload_n 2, 1) := by decide +kernel
theorem d_b21_13 : decode jdk_65_method_132_code 13 = .ok (.invokestatic 339, 3) := by decide +kernel
theorem d_b21_16 : decode jdk_65_method_132_code 16 = .ok (.areturn, 1) := by decide +kernel
theorem d_b25_0 : decode jdk_42_method_151_code 0 = .ok (.aload_n 0, 1) := by decide +kernel
theorem d_b25_1 : decode jdk_42_method_151_code 1 = .ok (.invokespecial 1, 3) := by decide +kernel
theorem d_b25_4 : decode jdk_42_method_151_code 4 = .ok (.aload_n 0, 1) := by decide +kernel
theorem d_b25_5 : decode jdk_42_method_151_code 5 = .ok (.aload_n 1, 1) := by decide +kernel
theorem d_b25_6 : decode jdk_42_method_151_code 6 = .ok (.putfield 9, 3) := by decide +kernel
theorem d_b25_9 : decode jdk_42_method_151_code 9 = .ok (.aload_n 0, 1) := by decide +kernel
theorem d_b25_10 : decode jdk_42_method_151_code 10 = .ok (.iload_n 2, 1) := by decide +kernel
theorem d_b25_11 : decode jdk_42_method_151_code 11 = .ok (.putfield 15, 3) := by decide +kernel
theorem d_b25_14 : decode jdk_42_method_151_code 14 = .ok (.return_, 1) := by decide +kernel
theorem d_b20_0 : decode jdk_43_method_47_code 0 = .ok (.iload_n 2, 1) := by decide +kernel
theorem d_b20_1 : decode jdk_43_method_47_code 1 = .ok (.ifCond .ne 6, 3) := by decide +kernel
theorem d_b20_4 : decode jdk_43_method_47_code 4 = .ok (.ldc 151, 2) := by decide +kernel
theorem d_b20_6 : decode jdk_43_method_47_code 6 = .ok (.areturn, 1) := by decide +kernel
theorem d_b20_7 : decode jdk_43_method_47_code 7 = .ok (.new 1, 3) := by decide +kernel
theorem d_b20_10 : decode jdk_43_method_47_code 10 = .ok (.dup, 1) := by decide +kernel
theorem d_b20_11 : decode jdk_43_method_47_code 11 = .ok (.aload_n 0, 1) := by decide +kernel
theorem d_b20_12 : decode jdk_43_method_47_code 12 = .ok (.iload_n 1, 1) := by decide +kernel
theorem d_b20_13 : decode jdk_43_method_47_code 13 = .ok (.iload_n 1, 1) := by decide +kernel
theorem d_b20_14 : decode jdk_43_method_47_code 14 = .ok (.iload_n 2, 1) := by decide +kernel
theorem d_b20_15 : decode jdk_43_method_47_code 15 = .ok (.iadd, 1) := by decide +kernel
theorem d_b20_16 : decode jdk_43_method_47_code 16 = .ok (.invokestatic 232, 3) := by decide +kernel
theorem d_b20_19 : decode jdk_43_method_47_code 19 = .ok (.iconst 0, 1) := by decide +kernel
theorem d_b20_20 : decode jdk_43_method_47_code 20 = .ok (.invokespecial 112, 3) := by decide +kernel
theorem d_b20_23 : decode jdk_43_method_47_code 23 = .ok (.areturn, 1) := by decide +kernel
theorem d_b8_0 : decode jdk_42_method_92_code 0 = .ok (.aload_n 0, 1) := by decide +kernel
theorem d_b8_1 : decode jdk_42_method_92_code 1 = .ok (.invokevirtual 505, 3) := by decide +kernel
theorem d_b8_4 : decode jdk_42_method_92_code 4 = .ok (.istore_n 3, 1) := by decide +kernel
theorem d_b8_5 : decode jdk_42_method_92_code 5 = .ok (.iload_n 1, 1) := by decide +kernel
theorem d_b8_6 : decode jdk_42_method_92_code 6 = .ok (.iload_n 2, 1) := by decide +kernel
theorem d_b8_7 : decode jdk_42_method_92_code 7 = .ok (.iload_n 3, 1) := by decide +kernel
theorem d_b8_8 : decode jdk_42_method_92_code 8 = .ok (.invokestatic 521, 3) := by decide +kernel
theorem d_b8_11 : decode jdk_42_method_92_code 11 = .ok (.iload_n 1, 1) := by decide +kernel
theorem d_b8_12 : decode jdk_42_method_92_code 12 = .ok (.ifCond .ne 10, 3) := by decide +kernel
theorem d_b8_15 : decode jdk_42_method_92_code 15 = .ok (.iload_n 2, 1) := by decide +kernel
theorem d_b8_16 : decode jdk_42_method_92_code 16 = .ok (.iload_n 3, 1) := by decide +kernel
theorem d_b8_17 : decode jdk_42_method_92_code 17 = .ok (.if_icmp .ne 5, 3) := by decide +kernel
theorem d_b8_20 : decode jdk_42_method_92_code 20 = .ok (.aload_n 0, 1) := by decide +kernel
theorem d_b8_21 : decode jdk_42_method_92_code 21 = .ok (.areturn, 1) := by decide +kernel
theorem d_b8_22 : decode jdk_42_method_92_code 22 = .ok (.iload_n 2, 1) := by decide +kernel
theorem d_b8_23 : decode jdk_42_method_92_code 23 = .ok (.iload_n 1, 1) := by decide +kernel
theorem d_b8_24 : decode jdk_42_method_92_code 24 = .ok (.isub, 1) := by decide +kernel
theorem d_b8_25 : decode jdk_42_method_92_code 25 = .ok (.istore 4, 2) := by decide +kernel
theorem d_b8_27 : decode jdk_42_method_92_code 27 = .ok (.aload_n 0, 1) := by decide +kernel
theorem d_b8_28 : decode jdk_42_method_92_code 28 = .ok (.invokevirtual 492, 3) := by decide +kernel
theorem d_b8_31 : decode jdk_42_method_92_code 31 = .ok (.ifCond .eq 16, 3) := by decide +kernel
theorem d_b8_34 : decode jdk_42_method_92_code 34 = .ok (.aload_n 0, 1) := by decide +kernel
theorem d_b8_35 : decode jdk_42_method_92_code 35 = .ok (.getfield 9, 3) := by decide +kernel
theorem d_b8_38 : decode jdk_42_method_92_code 38 = .ok (.iload_n 1, 1) := by decide +kernel
theorem d_b8_39 : decode jdk_42_method_92_code 39 = .ok (.iload 4, 2) := by decide +kernel
theorem d_b8_41 : decode jdk_42_method_92_code 41 = .ok (.invokestatic 685, 3) := by decide +kernel
theorem d_b8_44 : decode jdk_42_method_92_code 44 = .ok (.goto 13, 3) := by decide +kernel
theorem d_b8_57 : decode jdk_42_method_92_code 57 = .ok (.areturn, 1) := by decide +kernel
theorem d_b1_0 : decode method_2_code 0 = .ok (.iload_n 0, 1) := by decide +kernel
theorem d_b1_1 : decode method_2_code 1 = .ok (.bipush 8, 2) := by decide +kernel
theorem d_b1_3 : decode method_2_code 3 = .ok (.iushr, 1) := by decide +kernel
theorem d_b1_4 : decode method_2_code 4 = .ok (.iconst 1, 1) := by decide +kernel
theorem d_b1_5 : decode method_2_code 5 = .ok (.iand, 1) := by decide +kernel
theorem d_b1_6 : decode method_2_code 6 = .ok (.ifCond .ne 6, 3) := by decide +kernel
theorem d_b1_9 : decode method_2_code 9 = .ok (.bipush 32, 2) := by decide +kernel
theorem d_b1_11 : decode method_2_code 11 = .ok (.ireturn, 1) := by decide +kernel
theorem d_b1_12 : decode method_2_code 12 = .ok (.iload_n 0, 1) := by decide +kernel
theorem d_b1_13 : decode method_2_code 13 = .ok (.sipush 255, 3) := by decide +kernel
theorem d_b1_16 : decode method_2_code 16 = .ok (.iand, 1) := by decide +kernel
theorem d_b1_17 : decode method_2_code 17 = .ok (.i2c, 1) := by decide +kernel
theorem d_b1_18 : decode method_2_code 18 = .ok (.ireturn, 1) := by decide +kernel
theorem d_b5_0 : decode prog_30_method_5_code 0 = .ok (.aload_n 0, 1) := by decide +kernel
theorem d_b5_1 : decode prog_30_method_5_code 1 = .ok (.invokevirtual 71, 3) := by decide +kernel
theorem d_b5_4 : decode prog_30_method_5_code 4 = .ok (.istore_n 1, 1) := by decide +kernel
theorem d_b5_5 : decode prog_30_method_5_code 5 = .ok (.iload_n 1, 1) := by decide +kernel
theorem d_b5_6 : decode prog_30_method_5_code 6 = .ok (.ifCond .le 21, 3) := by decide +kernel
theorem d_b5_9 : decode prog_30_method_5_code 9 = .ok (.aload_n 0, 1) := by decide +kernel
theorem d_b5_10 : decode prog_30_method_5_code 10 = .ok (.iload_n 1, 1) := by decide +kernel
theorem d_b5_11 : decode prog_30_method_5_code 11 = .ok (.iconst 1, 1) := by decide +kernel
theorem d_b5_12 : decode prog_30_method_5_code 12 = .ok (.isub, 1) := by decide +kernel
theorem d_b5_13 : decode prog_30_method_5_code 13 = .ok (.invokevirtual 74, 3) := by decide +kernel
theorem d_b5_16 : decode prog_30_method_5_code 16 = .ok (.bipush 32, 2) := by decide +kernel
theorem d_b5_18 : decode prog_30_method_5_code 18 = .ok (.if_icmp .ne 9, 3) := by decide +kernel
theorem d_b5_21 : decode prog_30_method_5_code 21 = .ok (.iinc 1 (-1), 3) := by decide +kernel
theorem d_b5_24 : decode prog_30_method_5_code 24 = .ok (.goto (-19), 3) := by decide +kernel
theorem d_b5_27 : decode prog_30_method_5_code 27 = .ok (.aload_n 0, 1) := by decide +kernel
theorem d_b5_28 : decode prog_30_method_5_code 28 = .ok (.iconst 0, 1) := by decide +kernel
theorem d_b5_29 : decode prog_30_method_5_code 29 = .ok (.iload_n 1, 1) := by decide +kernel
theorem d_b5_30 : decode prog_30_method_5_code 30 = .ok (.invokevirtual 78, 3) := by decide +kernel
theorem d_b5_33 : decode prog_30_method_5_code 33 = .ok (.areturn, 1) := by decide +kernel
theorem d_b11_0 : decode method_3_code 0 = .ok (.iload 4, 2) := by decide +kernel
theorem d_b11_2 : decode method_3_code 2 = .ok (.iload_n 2, 1) := by decide +kernel
theorem d_b11_3 : decode method_3_code 3 = .ok (.if_icmp .lt 5, 3) := by decide +kernel
theorem d_b11_6 : decode method_3_code 6 = .ok (.iconst 1, 1) := by decide +kernel
theorem d_b11_7 : decode method_3_code 7 = .ok (.ireturn, 1) := by decide +kernel
theorem d_b11_8 : decode method_3_code 8 = .ok (.iload 4, 2) := by decide +kernel
theorem d_b11_10 : decode method_3_code 10 = .ok (.iload_n 1, 1) := by decide +kernel
theorem d_b11_11 : decode method_3_code 11 = .ok (.if_icmp .ge 22, 3) := by decide +kernel
theorem d_b11_14 : decode method_3_code 14 = .ok (.aload_n 0, 1) := by decide +kernel
theorem d_b11_15 : decode method_3_code 15 = .ok (.iload 4, 2) := by decide +kernel
theorem d_b11_17 : decode method_3_code 17 = .ok (.invokevirtual 7, 3) := by decide +kernel
theorem d_b11_20 : decode method_3_code 20 = .ok (.aload_n 3, 1) := by decide +kernel
theorem d_b11_21 : decode method_3_code 21 = .ok (.iload 4, 2) := by decide +kernel
theorem d_b11_23 : decode method_3_code 23 = .ok (.caload, 1) := by decide +kernel
theorem d_b11_24 : decode method_3_code 24 = .ok (.if_icmp .ne 7, 3) := by decide +kernel
theorem d_b11_27 : decode method_3_code 27 = .ok (.iconst 1, 1) := by decide +kernel
theorem d_b11_28 : decode method_3_code 28 = .ok (.goto 4, 3) := by decide +kernel
theorem d_b11_32 : decode method_3_code 32 = .ok (.ireturn, 1) := by decide +kernel
theorem d_b11_33 : decode method_3_code 33 = .ok (.aload_n 3, 1) := by decide +kernel
theorem d_b11_34 : decode method_3_code 34 = .ok (.iload 4, 2) := by decide +kernel
theorem d_b11_36 : decode method_3_code 36 = .ok (.caload, 1) := by decide +kernel
theorem d_b11_37 : decode method_3_code 37 = .ok (.bipush 32, 2) := by decide +kernel
theorem d_b11_39 : decode method_3_code 39 = .ok (.if_icmp .ne 7, 3) := by decide +kernel
theorem d_b11_42 : decode method_3_code 42 = .ok (.iconst 1, 1) := by decide +kernel
theorem d_b11_43 : decode method_3_code 43 = .ok (.goto 4, 3) := by decide +kernel
theorem d_b11_47 : decode method_3_code 47 = .ok (.ireturn, 1) := by decide +kernel
def isC (c : Int32) : Prop := 0 ≤ c.toInt ∧ c.toInt ≤ 255
theorem isC.le {c : Int32} (h : isC c) : ¬ (255 : Int32) < c := fun q => by rw [Int32.lt_iff_toInt_lt] at q; have := h.2; have e : (255 : Int32).toInt = 255 := rfl; omega
theorem isC.nat {c : Int32} (h : isC c) : c.toBitVec.toNat < 256 := by have := nat_of_int h.1; have := h.2; omega
theorem isC.nar {c : Int32} (h : isC c) : nar .char c = c := by
  have h2 := h.nat
  apply Int32.toBitVec_inj.mp
  apply BitVec.eq_of_toNat_eq
  show c.toUInt32.toUInt16.toUInt32.toNat = _
  rw [UInt16.toNat_toUInt32, UInt32.toNat_toUInt16]
  show c.toBitVec.toNat % 2 ^ 16 = _
  omega
theorem isC.back {c : Int32} (h : isC c) : c.toInt8.toInt32 &&& 255 = c := by
  apply Int32.toBitVec_inj.mp
  apply BitVec.eq_of_toNat_eq
  rw [lo8_and]; have := h.nat; omega
theorem lo8s_at {cs : List Int32} {i : Nat} {c : Int32} (hc : cs[i]? = some c) : (lo8s cs).getD i (.int 0) = .int c.toInt8.toInt32 := by simp [lo8s, List.getD_eq_getElem?_getD, hc]
theorem isC_and (x : Int32) : isC (x &&& 255) := and_rng x (by decide)

set_option maxRecDepth 65536 in
set_option maxHeartbeats 4000000 in
theorem cmp5_loop {l : Launch} {Z : State} {a0 : Array Value} {n0 : Nat} (hB : Base Z a0) {b d : Addr} {kb kd : ClassId} (cs : List Int32) (hn : cs.length ≤ 4000) (hc : ∀ c ∈ cs, ¬ (255 : Int32) < c) (hne : b ≠ d) (h0 : Heap) :
    ∀ (j i : Nat) (h : Heap) (o6 : Slot), One o6 → i + j = cs.length → Keep h0 h [d] → Arv Z h b kb .char (Int32.ofNat cs.length) (cs.map Value.int) (.int 0) → Arv Z h d kd .byte (Int32.ofNat cs.length) (lo8s (cs.take i) ++ List.replicate j (Value.int 0)) (.int 0) →
      Go l Z a0 ELc n0 ({ frames := 0, cells := 0, slots := 0, locals := 0 } : Room) "java/lang/StringUTF16" jdk_52_method_21_code 7 (Option.some FieldType.int) "compress" (fun v h' sf' => v = some (.int (Int32.ofNat cs.length)) ∧ sf' = [] ∧ Keep h0 h' [d] ∧ Arv Z h' d kd .byte (Int32.ofNat cs.length) (lo8s cs) (.int 0)) h [d] 0 0 3 #[.val (.ref b), .val (.int (Int32.ofNat i)), .val (.ref d), .val (.int (Int32.ofNat i)), .val (.int (Int32.ofNat cs.length)), .val (.int (Int32.ofNat i)), o6] [] := by
  intro j
  induction j with
  | zero =>
    intro i h o6 ho hi K A B
    refine go_iload d_b13_3 rfl rfl ?_
    refine go_iload d_b13_5 rfl rfl ?_
    refine go_icmp_ge_t (pt := 44) d_b13_7 (by decide) (by decide) (ofN_nlt (by omega) (by omega)) ?_
    refine go_iload d_b13_44 rfl rfl ?_
    refine go_retI d_b13_46 [] rfl (by decide) (by decide) (fun _ q => nomatch q) ?_
    refine ⟨rfl, rfl, K, ?_⟩
    have e : i = cs.length := by omega
    subst e
    simpa using B
  | succ j ih =>
    intro i h o6 ho hi K A B
    obtain ⟨c, hci, hcm⟩ := at_of (cs := cs) (i := i) (by omega)
    refine go_iload d_b13_3 rfl rfl ?_
    refine go_iload d_b13_5 rfl rfl ?_
    refine go_icmp_ge_f d_b13_7 rfl (ofN_lt (by omega) (by omega)) ?_
    refine go_aloadN d_b13_10 rfl rfl rfl ?_
    refine go_iloadN d_b13_11 rfl rfl ?_
    refine go_caload (v := (.int c)) i d_b13_12 rfl A ⟨ofN_nneg (by omega), ofN_lt (by omega) (by omega)⟩ (ofN_cl (by omega)) (map_at hci) ?_
    refine go_istore d_b13_13 rfl #[.val (.ref b), .val (.int (Int32.ofNat i)), .val (.ref d), .val (.int (Int32.ofNat i)), .val (.int (Int32.ofNat cs.length)), .val (.int (Int32.ofNat i)), .val (.int c)] (XS.store1 rfl ho rfl) ?_
    refine go_iload d_b13_15 rfl rfl ?_
    refine go_sipush 255 d_b13_17 rfl (by decide) ?_
    refine go_icmp_le_t (pt := 26) d_b13_20 (by decide) (by decide) (hc c hcm) ?_
    refine go_aloadN d_b13_26 rfl rfl rfl ?_
    refine go_iloadN d_b13_27 rfl rfl ?_
    refine go_iload d_b13_28 rfl rfl ?_
    refine go_i2b d_b13_30 rfl ?_
    refine go_bastore i d_b13_31 rfl B ⟨ofN_nneg (by omega), ofN_lt (by omega) (by omega)⟩ (ofN_cl (by omega)) (by simp [lo8s_len]; omega) (List.Mem.head _) ?_
    intro h1 W2 B3
    have B4 : Arv Z h1 d kd .byte (Int32.ofNat cs.length) ((lo8s (cs.take i) ++ List.replicate (j + 1) (Value.int 0)).set i (Value.int c.toInt8.toInt32.toInt8.toInt32)) (.int 0) := B3
    refine go_iinc 1 d_b13_32 rfl #[.val (.ref b), .val (.int ((Int32.ofNat i) + 1)), .val (.ref d), .val (.int (Int32.ofNat i)), .val (.int (Int32.ofNat cs.length)), .val (.int (Int32.ofNat i)), .val (.int c)] (by decide) rfl rfl ?_
    refine go_iinc 1 d_b13_35 rfl #[.val (.ref b), .val (.int ((Int32.ofNat i) + 1)), .val (.ref d), .val (.int ((Int32.ofNat i) + 1)), .val (.int (Int32.ofNat cs.length)), .val (.int (Int32.ofNat i)), .val (.int c)] (by decide) rfl rfl ?_
    refine go_iinc 1 d_b13_38 rfl #[.val (.ref b), .val (.int ((Int32.ofNat i) + 1)), .val (.ref d), .val (.int ((Int32.ofNat i) + 1)), .val (.int (Int32.ofNat cs.length)), .val (.int ((Int32.ofNat i) + 1)), .val (.int c)] (by decide) rfl rfl ?_
    refine go_goto (pt := 3) d_b13_41 (by decide) (by decide) ?_
    rw [ofN_succ]
    have F5 := (Arv.other A W2 hne)
    have e8 : c.toInt8.toInt32.toInt8.toInt32 = c.toInt8.toInt32 := by simp
    rw [e8, lo8s_set hci hi] at B4
    exact ih (i + 1) _ _ (One.val rfl) (by omega) (K.wr W2 (Or.inl (List.Mem.head _))) F5 B4
set_option maxRecDepth 65536 in
set_option maxHeartbeats 4000000 in
theorem c_cmp5 {l : Launch} {Z : State} {a0 : Array Value} {n0 : Nat} (hB : Base Z a0) {b d : Addr} {kb kd : ClassId} (cs : List Int32) (hn : cs.length ≤ 4000) (hc : ∀ c ∈ cs, ¬ (255 : Int32) < c) (hne : b ≠ d) {h : Heap} (A : Arv Z h b kb .char (Int32.ofNat cs.length) (cs.map Value.int) (.int 0)) (B : Arv Z h d kd .byte (Int32.ofNat cs.length) (List.replicate cs.length (Value.int 0)) (.int 0)) :
    Con l Z ELc n0 (⟨"java/lang/StringUTF16", "compress", "([CI[BII)I"⟩ : MethodName) jdk_52_method_21_code 7 (Option.some FieldType.int) [] ({ frames := 0, cells := 0, slots := 0, locals := 0 } : Room) #[.ref b, .int 0, .ref d, .int 0, .int (Int32.ofNat cs.length)] h [d] (fun v h' sf' => v = some (.int (Int32.ofNat cs.length)) ∧ sf' = [] ∧ Keep h h' [d] ∧ Arv Z h' d kd .byte (Int32.ofNat cs.length) (lo8s cs) (.int 0)) := by
  refine con_of (a0 := a0) (ls := #[.val (.ref b), .val (.int 0), .val (.ref d), .val (.int 0), .val (.int (Int32.ofNat cs.length)), .unset, .unset]) (plainFor_of_name (by decide +kernel)) hB.2.1 (fun m => by first | rfl | simp [entryFrame, mkF, argsToLocals, Value.category]) ?_
  show Go l Z a0 ELc n0 ({ frames := 0, cells := 0, slots := 0, locals := 0 } : Room) "java/lang/StringUTF16" jdk_52_method_21_code 7 (Option.some FieldType.int) "compress" _ h [d] 0 0 0 #[.val (.ref b), .val (.int 0), .val (.ref d), .val (.int 0), .val (.int (Int32.ofNat cs.length)), .unset, .unset] []
  refine go_iconst 0 d_b13_0 rfl (by decide) ?_
  refine go_istore d_b13_1 rfl #[.val (.ref b), .val (.int 0), .val (.ref d), .val (.int 0), .val (.int (Int32.ofNat cs.length)), .val (.int 0), .unset] rfl ?_
  exact cmp5_loop hB cs hn hc hne h cs.length 0 h _ One.u (by omega) (Keep.refl _ _) A (by simpa [lo8s] using B)
set_option maxRecDepth 65536 in
set_option maxHeartbeats 4000000 in
theorem c_cod {l : Launch} {Z : State} {a0 : Array Value} {n0 : Nat} (hB : Base Z a0) {d : Addr} {kd : ClassId} {z : Int32} {vs : List Value} {h : Heap} (B : Arv Z h d kd .byte z vs (.int 0)) :
    Con l Z ELc n0 (⟨"java/lang/StringUTF16", "coderFromArrayLen", "([BI)B"⟩ : MethodName) jdk_52_method_15_code 2 (Option.some FieldType.byte) [] ({ frames := 0, cells := 0, slots := 0, locals := 0 } : Room) #[.ref d, .int z] h [] (fun v h' sf' => v = some (.int 0) ∧ sf' = [] ∧ h = h') := by
  refine con_of (a0 := a0) (ls := #[.val (.ref d), .val (.int z)]) (plainFor_of_name (by decide +kernel)) hB.2.1 (fun m => by first | rfl | simp [entryFrame, mkF, argsToLocals, Value.category]) ?_
  show Go l Z a0 ELc n0 ({ frames := 0, cells := 0, slots := 0, locals := 0 } : Room) "java/lang/StringUTF16" jdk_52_method_15_code 2 (Option.some FieldType.byte) "coderFromArrayLen" _ h [] 0 0 0 #[.val (.ref d), .val (.int z)] []
  refine go_iloadN d_b14_0 rfl rfl ?_
  refine go_aloadN d_b14_1 rfl rfl rfl ?_
  refine go_alen d_b14_2 rfl B ?_
  refine go_isub d_b14_3 rfl ?_
  refine go_bipush 31 d_b14_4 rfl (by decide) ?_
  refine go_iushr d_b14_6 rfl ?_
  refine go_i2b d_b14_7 rfl ?_
  refine go_retN (t := .byte) d_b14_8 [] rfl (by simp) (by decide) (by decide) (fun _ q => nomatch q) ?_
  refine ⟨?_, rfl, rfl⟩
  rw [Int32.sub_self]
  decide
set_option maxRecDepth 65536 in
set_option maxHeartbeats 4000000 in
theorem c_cmp3 {l : Launch} {Z : State} {a0 : Array Value} {n0 : Nat} (hB : Base Z a0) {b : Addr} {kb : ClassId} (cs : List Int32) (hn : cs.length ≤ 8) (hc : ∀ c ∈ cs, ¬ (255 : Int32) < c) {h : Heap} (A : Arv Z h b kb .char (Int32.ofNat cs.length) (cs.map Value.int) (.int 0)) :
    Con l Z ELc n0 (⟨"java/lang/StringUTF16", "compress", "([CII)[B"⟩ : MethodName) jdk_52_method_16_code 6 (Option.some (FieldType.array FieldType.byte)) [] ({ frames := 1, cells := 1, slots := 8, locals := 18 } : Room) #[.ref b, .int 0, .int (Int32.ofNat cs.length)] h [] (fun v h' sf' => ∃ d kd, v = some (.ref d) ∧ sf' = [] ∧ Ext h h' ∧ h.size ≤ d ∧ Arv Z h' d kd .byte (Int32.ofNat cs.length) (lo8s cs) (.int 0)) := by
  refine con_of (a0 := a0) (ls := #[.val (.ref b), .val (.int 0), .val (.int (Int32.ofNat cs.length)), .unset, .unset, .unset]) (plainFor_of_name (by decide +kernel)) hB.2.1 (fun m => by first | rfl | simp [entryFrame, mkF, argsToLocals, Value.category]) ?_
  show Go l Z a0 ELc n0 ({ frames := 1, cells := 1, slots := 8, locals := 18 } : Room) "java/lang/StringUTF16" jdk_52_method_16_code 6 (Option.some (FieldType.array FieldType.byte)) "compress" _ h [] 0 0 0 #[.val (.ref b), .val (.int 0), .val (.int (Int32.ofNat cs.length)), .unset, .unset, .unset] []
  refine go_iloadN d_b12_0 rfl rfl ?_
  refine go_newarr (ty := .byte) (ad := "[B") 8 d_b12_1 rfl rfl (wd hB 19 rfl) (ofN_nneg (by omega)) (by rw [ofN_cl (by omega)]; exact hn) (by decide) (by decide) (by decide) (by decide) ?_
  intro h6 x1 hx2 E3 ⟨A4, k5, B7⟩
  have B8 : Arv Z h6 x1 k5 .byte (Int32.ofNat cs.length) (List.replicate cs.length (Value.int 0)) (.int 0) := B7.pad (pad_rep [] (.int 0) cs.length)
  refine go_astoreN d_b12_3 rfl #[.val (.ref b), .val (.int 0), .val (.int (Int32.ofNat cs.length)), .val (.ref x1), .unset, .unset] rfl rfl ?_
  refine go_aloadN d_b12_4 rfl rfl rfl ?_
  refine go_iloadN d_b12_5 rfl rfl ?_
  refine go_aloadN d_b12_6 rfl rfl rfl ?_
  refine go_iconst 0 d_b12_7 rfl (by decide) ?_
  refine go_iloadN d_b12_8 rfl rfl ?_
  have F9 := (A.ext E3)
  refine go_static [(.ref b), (.int 0), (.ref x1), (.int 0), (.int (Int32.ofNat cs.length))] [] 0 d_b12_9 rfl (wd hB 63 rfl) (wd hB 64 rfl) (wd hB 61 rfl) (wd hB 65 rfl) (c_cmp5 hB cs (by omega) hc (Nat.ne_of_lt (Nat.lt_of_lt_of_le A.lt (Nat.le_of_eq hx2.symm))) F9 B8) (allS (List.Mem.head _) (fun _ q => nomatch q)) (lenOf pd_0 rfl) rfl rfl rfl (by decide) (by decide) (by decide) (by decide) (by decide) (fun v10 h11 s12 q13 => ?_)
  obtain ⟨rfl, rfl, K14, B15⟩ := q13
  show Go _ _ _ _ _ _ _ _ _ _ _ _ h11 [x1] 1 8 12 #[.val (.ref b), .val (.int 0), .val (.int (Int32.ofNat cs.length)), .val (.ref x1), .unset, .unset] [(.int (Int32.ofNat cs.length))]
  refine go_istore d_b12_12 rfl #[.val (.ref b), .val (.int 0), .val (.int (Int32.ofNat cs.length)), .val (.ref x1), .val (.int (Int32.ofNat cs.length)), .unset] rfl ?_
  refine go_iload d_b12_14 rfl rfl ?_
  refine go_iloadN d_b12_16 rfl rfl ?_
  refine go_icmp_eq_t (pt := 57) d_b12_17 (by decide) (by decide) rfl ?_
  refine go_aloadN d_b12_57 rfl rfl rfl ?_
  refine go_retA d_b12_58 [] rfl rfl rfl rfl (by decide) (by decide) (fun _ q => nomatch q) ?_
  exact ⟨_, _, rfl, rfl, (ext_of_keep (((Keep.refl h []).ext E3).trans K14 (allS (Or.inr (Nat.le_of_eq hx2.symm)) all0))), (Nat.le_of_eq hx2.symm), B15⟩
set_option maxRecDepth 65536 in
set_option maxHeartbeats 4000000 in
theorem c_sinit4 {l : Launch} {Z : State} {a0 : Array Value} {n0 : Nat} (hB : Base Z a0) {x b : Addr} {kb : ClassId} (cs : List Int32) (hp : 0 < cs.length) (hn : cs.length ≤ 8) (hc : ∀ c ∈ cs, ¬ (255 : Int32) < c) {h : Heap} (A : Arv Z h b kb .char (Int32.ofNat cs.length) (cs.map Value.int) (.int 0)) (E : Exa Z h x "java/lang/String") (F1 : Fld Z h x "java/lang/String" "value" "[B" .null) (F2 : Fld Z h x "java/lang/String" "coder" "B" (.int 0)) (hge : n0 ≤ x) :
    Con l Z ELc n0 (⟨"java/lang/String", "<init>", "([CIILjava/lang/Void;)V"⟩ : MethodName) jdk_42_method_149_code 6 (Option.none : Option FieldType) [] ({ frames := 2, cells := 1, slots := 8, locals := 37 } : Room) #[.ref x, .ref b, .int 0, .int (Int32.ofNat cs.length), .null] h [x] (fun v h' sf' => v = none ∧ sf' = [] ∧ Keep h h' [x] ∧ Exa Z h' x "java/lang/String" ∧ Fld Z h' x "java/lang/String" "coder" "B" (.int 0) ∧ ∃ d kd, h.size ≤ d ∧ Fld Z h' x "java/lang/String" "value" "[B" (.ref d) ∧ Arv Z h' d kd .byte (Int32.ofNat cs.length) (lo8s cs) (.int 0)) := by
  refine con_of (a0 := a0) (ls := #[.val (.ref x), .val (.ref b), .val (.int 0), .val (.int (Int32.ofNat cs.length)), .val .null, .unset]) (plainFor_of_name (by decide +kernel)) hB.2.1 (fun m => by first | rfl | simp [entryFrame, mkF, argsToLocals, Value.category]) ?_
  show Go l Z a0 ELc n0 ({ frames := 2, cells := 1, slots := 8, locals := 37 } : Room) "java/lang/String" jdk_42_method_149_code 6 (Option.none : Option FieldType) "<init>" _ h [x] 0 0 0 #[.val (.ref x), .val (.ref b), .val (.int 0), .val (.int (Int32.ofNat cs.length)), .val .null, .unset] []
  obtain ⟨cz, hS, hcz⟩ := hB.2.2.1
  refine go_aloadN d_b3_0 rfl rfl rfl ?_
  refine go_initO d_b3_1 rfl (wd hB 15 rfl) (wd hB 16 rfl) (wd hB 17 rfl) rfl (by decide) 0 rfl (by decide) ?_
  refine go_iloadN d_b3_4 rfl rfl ?_
  refine go_if_ne_t (pt := 27) d_b3_5 (by decide) (by decide) (ofN_pos hp (by omega)) ?_
  refine go_getstatic d_b3_27 rfl (wd hB 40 rfl) Via.refl hS ?_
  refine go_if_eq_f d_b3_30 rfl hcz ?_
  refine go_aloadN d_b3_33 rfl rfl rfl ?_
  refine go_iloadN d_b3_34 rfl rfl ?_
  refine go_iloadN d_b3_35 rfl rfl ?_
  refine go_static [(.ref b), (.int 0), (.int (Int32.ofNat cs.length))] [] 0 d_b3_36 rfl (wd hB 59 rfl) (wd hB 60 rfl) (wd hB 61 rfl) (wd hB 62 rfl) (c_cmp3 hB cs hn hc A) (fun _ q => nomatch q) (lenOf pd_1 rfl) rfl rfl rfl (by decide) (by decide) (by decide) (by decide) (by decide) (fun v1 h2 s3 q4 => ?_)
  obtain ⟨d5, k6, rfl, rfl, E7, g8, B9⟩ := q4
  show Go _ _ _ _ _ _ _ _ _ _ _ _ h2 [x] 1 8 39 #[.val (.ref x), .val (.ref b), .val (.int 0), .val (.int (Int32.ofNat cs.length)), .val .null, .unset] [(.ref d5)]
  refine go_astore d_b3_39 rfl #[.val (.ref x), .val (.ref b), .val (.int 0), .val (.int (Int32.ofNat cs.length)), .val .null, .val (.ref d5)] rfl rfl ?_
  refine go_aloadN d_b3_41 rfl rfl rfl ?_
  refine go_aload d_b3_42 rfl rfl rfl ?_
  refine go_iloadN d_b3_44 rfl rfl ?_
  refine go_static [(.ref d5), (.int (Int32.ofNat cs.length))] [(.ref x)] 1 d_b3_45 rfl (wd hB 66 rfl) (wd hB 67 rfl) (wd hB 61 rfl) (wd hB 68 rfl) (c_cod hB B9) (fun _ q => nomatch q) (lenOf pd_2 rfl) rfl rfl rfl (by decide) (by decide) (by decide) (by decide) (by decide) (fun v10 h11 s12 q13 => ?_)
  obtain ⟨rfl, rfl, rfl⟩ := q13
  show Go _ _ _ _ _ _ _ _ _ _ _ _ h2 [x] 1 8 48 #[.val (.ref x), .val (.ref b), .val (.int 0), .val (.int (Int32.ofNat cs.length)), .val .null, .val (.ref d5)] [(.int 0), (.ref x)]
  have F14 := (Fld.ext E7 F2)
  have F15 := (Exa.ext E7 E)
  refine go_putfield (ty := .byte) d_b3_48 rfl (wd hB 25 rfl) Via.refl F14 F15 (Or.inr ⟨(wd hB 21 rfl), rfl, rfl⟩) (wd hB 6 rfl) (by decide) (by decide) (by decide) (List.Mem.head _) ?_
  intro h16 W17
  have F18 := Fld.same W17 F14
  refine go_aloadN d_b3_51 rfl rfl rfl ?_
  refine go_aload d_b3_52 rfl rfl rfl ?_
  have F19 := (Fld.other W17 (Fld.ext E7 F1) (Or.inr (slot_ne (t := (.array .byte)) (t' := .byte) (Or.inr (wd hB 20 rfl) : Laid Z a0 "java/lang/String" "java/lang/String" "value" "[B") (Or.inr (wd hB 21 rfl) : Laid Z a0 "java/lang/String" "java/lang/String" "coder" "B") (by decide) (by decide) (by decide))))
  have F20 := (Exa.wr W17 F15)
  refine go_putfield (ty := (.array .byte)) d_b3_54 rfl (wd hB 24 rfl) Via.refl F19 F20 (Or.inr ⟨(wd hB 20 rfl), rfl, rfl⟩) (wd hB 6 rfl) (by decide) rfl rfl (List.Mem.head _) ?_
  intro h21 W22
  have F23 := Fld.same W22 F19
  have F24 := (Exa.wr W22 F20)
  have F25 := (Fld.other W22 F18 (Or.inr (slot_ne (t := .byte) (t' := (.array .byte)) (Or.inr (wd hB 21 rfl) : Laid Z a0 "java/lang/String" "java/lang/String" "coder" "B") (Or.inr (wd hB 20 rfl) : Laid Z a0 "java/lang/String" "java/lang/String" "value" "[B") (by decide) (by decide) (by decide))))
  have F26 := (Arv.other (Arv.other B9 W17 (Ne.symm (Nat.ne_of_lt (Nat.lt_of_lt_of_le E.lt g8)))) W22 (Ne.symm (Nat.ne_of_lt (Nat.lt_of_lt_of_le E.lt g8))))
  refine go_ret d_b3_57 [] rfl (by decide) (by decide) (fun _ q => nomatch q) ?_
  exact ⟨rfl, rfl, ((((Keep.refl h [x]).ext E7).wr W17 (Or.inl (List.Mem.head _))).wr W22 (Or.inl (List.Mem.head _))), F24, F25, _, _, g8, F23, F26⟩
set_option maxRecDepth 65536 in
set_option maxHeartbeats 4000000 in
theorem c_sinit4e {l : Launch} {Z : State} {a0 : Array Value} {n0 : Nat} (hB : Base Z a0) {x b : Addr} {h : Heap} (E : Exa Z h x "java/lang/String") (F1 : Fld Z h x "java/lang/String" "value" "[B" .null) (F2 : Fld Z h x "java/lang/String" "coder" "B" (.int 0)) :
    Con l Z ELc n0 (⟨"java/lang/String", "<init>", "([CIILjava/lang/Void;)V"⟩ : MethodName) jdk_42_method_149_code 6 (Option.none : Option FieldType) [] ({ frames := 1, cells := 4, slots := 8, locals := 12 } : Room) #[.ref x, .ref b, .int 0, .int 0, .null] h [x] (fun v h' sf' => v = none ∧ sf' = [] ∧ Keep h h' [x] ∧ Exa Z h' x "java/lang/String" ∧ Fld Z h' x "java/lang/String" "coder" "B" (.int 0) ∧ ∃ d kd, Fld Z h' x "java/lang/String" "value" "[B" (.ref d) ∧ Arv Z h' d kd .byte 0 [] (.int 0)) := by
  refine con_of (a0 := a0) (ls := #[.val (.ref x), .val (.ref b), .val (.int 0), .val (.int 0), .val .null, .unset]) (plainFor_of_name (by decide +kernel)) hB.2.1 (fun m => by first | rfl | simp [entryFrame, mkF, argsToLocals, Value.category]) ?_
  show Go l Z a0 ELc n0 ({ frames := 1, cells := 4, slots := 8, locals := 12 } : Room) "java/lang/String" jdk_42_method_149_code 6 (Option.none : Option FieldType) "<init>" _ h [x] 0 0 0 #[.val (.ref x), .val (.ref b), .val (.int 0), .val (.int 0), .val .null, .unset] []
  refine go_aloadN d_b3_0 rfl rfl rfl ?_
  refine go_initO d_b3_1 rfl (wd hB 15 rfl) (wd hB 16 rfl) (wd hB 17 rfl) rfl (by decide) 0 rfl (by decide) ?_
  refine go_iloadN d_b3_4 rfl rfl ?_
  refine go_if_ne_f d_b3_5 rfl (by decide) ?_
  refine go_aloadN d_b3_8 rfl rfl rfl ?_
  refine go_ldcT (text := "") 0 0 [] d_b3_9 rfl (wd hB 18 rfl) (stA hB) (by decide) ⟨by decide, by decide⟩ (by decide) (by decide) (by decide) (by decide) (by decide) (by decide) ?_
  intro h1 a2 b4 k5 E3 F6 F7 F8 F9 F10
  refine go_getfield d_b3_11 rfl (wd hB 24 rfl) Via.refl F8 ?_
  have F11 := (Fld.ext E3 F1)
  have F12 := (Exa.ext E3 E)
  refine go_putfield (ty := (.array .byte)) d_b3_14 rfl (wd hB 24 rfl) Via.refl F11 F12 (Or.inr ⟨(wd hB 20 rfl), rfl, rfl⟩) (wd hB 6 rfl) (by decide) rfl rfl (List.Mem.head _) ?_
  intro h13 W14
  have F15 := Fld.same W14 F11
  refine go_aloadN d_b3_17 rfl rfl rfl ?_
  refine go_ldcT (text := "") 0 0 [] d_b3_18 rfl (wd hB 18 rfl) (stA hB) (by decide) ⟨by decide, by decide⟩ (by decide) (by decide) (by decide) (by decide) (by decide) (by decide) ?_
  intro h16 a17 b19 k20 E18 F21 F22 F23 F24 F25
  refine go_getfield d_b3_20 rfl (wd hB 25 rfl) Via.refl F22 ?_
  have F26 := (Fld.ext E18 (Fld.other W14 (Fld.ext E3 F2) (Or.inr (slot_ne (t := .byte) (t' := (.array .byte)) (Or.inr (wd hB 21 rfl) : Laid Z a0 "java/lang/String" "java/lang/String" "coder" "B") (Or.inr (wd hB 20 rfl) : Laid Z a0 "java/lang/String" "java/lang/String" "value" "[B") (by decide) (by decide) (by decide)))))
  have F27 := (Exa.ext E18 (Exa.wr W14 F12))
  refine go_putfield (ty := .byte) d_b3_23 rfl (wd hB 25 rfl) Via.refl F26 F27 (Or.inr ⟨(wd hB 21 rfl), rfl, rfl⟩) (wd hB 6 rfl) (by decide) (by decide) (by decide) (List.Mem.head _) ?_
  intro h28 W29
  have F30 := Fld.same W29 F26
  have F31 := (Exa.wr W29 F27)
  have F32 := (Fld.other W29 (Fld.ext E18 F15) (Or.inr (slot_ne (t := (.array .byte)) (t' := .byte) (Or.inr (wd hB 20 rfl) : Laid Z a0 "java/lang/String" "java/lang/String" "value" "[B") (Or.inr (wd hB 21 rfl) : Laid Z a0 "java/lang/String" "java/lang/String" "coder" "B") (by decide) (by decide) (by decide))))
  have F33 := (Arv.other ((Arv.other F9 W14 (Ne.symm (F10 x (List.Mem.head _)).2)).ext E18) W29 (Ne.symm (F10 x (List.Mem.head _)).2))
  refine go_ret d_b3_26 [] rfl (by decide) (by decide) (fun _ q => nomatch q) ?_
  exact ⟨rfl, rfl, (((((Keep.refl h [x]).ext E3).wr W14 (Or.inl (List.Mem.head _))).ext E18).wr W29 (Or.inl (List.Mem.head _))), F31, F30, _, _, F32, F33⟩
set_option maxRecDepth 65536 in
set_option maxHeartbeats 4000000 in
theorem c_sinit {l : Launch} {Z : State} {a0 : Array Value} {n0 : Nat} (hB : Base Z a0) {x b : Addr} {kb : ClassId} (cs : List Int32) (hp : 0 < cs.length) (hn : cs.length ≤ 8) (hc : ∀ c ∈ cs, ¬ (255 : Int32) < c) {h : Heap} (A : Arv Z h b kb .char (Int32.ofNat cs.length) (cs.map Value.int) (.int 0)) (E : Exa Z h x "java/lang/String") (F1 : Fld Z h x "java/lang/String" "value" "[B" .null) (F2 : Fld Z h x "java/lang/String" "coder" "B" (.int 0)) (hge : n0 ≤ x) :
    Con l Z ELc n0 (⟨"java/lang/String", "<init>", "([C)V"⟩ : MethodName) jdk_42_method_3_code 2 (Option.none : Option FieldType) [] ({ frames := 3, cells := 1, slots := 8, locals := 54 } : Room) #[.ref x, .ref b] h [x] (fun v h' sf' => v = none ∧ sf' = [] ∧ Keep h h' [x] ∧ Exa Z h' x "java/lang/String" ∧ Fld Z h' x "java/lang/String" "coder" "B" (.int 0) ∧ ∃ d kd, h.size ≤ d ∧ Fld Z h' x "java/lang/String" "value" "[B" (.ref d) ∧ Arv Z h' d kd .byte (Int32.ofNat cs.length) (lo8s cs) (.int 0)) := by
  refine con_of (a0 := a0) (ls := #[.val (.ref x), .val (.ref b)]) (plainFor_of_name (by decide +kernel)) hB.2.1 (fun m => by first | rfl | simp [entryFrame, mkF, argsToLocals, Value.category]) ?_
  show Go l Z a0 ELc n0 ({ frames := 3, cells := 1, slots := 8, locals := 54 } : Room) "java/lang/String" jdk_42_method_3_code 2 (Option.none : Option FieldType) "<init>" _ h [x] 0 0 0 #[.val (.ref x), .val (.ref b)] []
  refine go_aloadN d_b2_0 rfl rfl rfl ?_
  refine go_aloadN d_b2_1 rfl rfl rfl ?_
  refine go_iconst 0 d_b2_2 rfl (by decide) ?_
  refine go_aloadN d_b2_3 rfl rfl rfl ?_
  refine go_alen d_b2_4 rfl A ?_
  refine go_aconstNull d_b2_5 rfl ?_
  refine go_special x [(.ref b), (.int 0), (.int (Int32.ofNat cs.length)), .null] [] 0 d_b2_6 rfl rfl (wd hB 11 rfl) (wd hB 12 rfl) (wd hB 7 rfl) (wd hB 14 rfl) (c_sinit4 hB cs hp hn hc A E F1 F2 hge) (allS (List.Mem.head _) (fun _ q => nomatch q)) (lenOf pd_3 rfl) rfl rfl rfl (by decide) (by decide) (by decide) (by decide) (by decide) (fun v1 h2 s3 q4 => ?_)
  obtain ⟨rfl, rfl, q1, q2, q3, q4⟩ := q4
  show Go _ _ _ _ _ _ _ _ _ _ _ _ h2 [x] 1 8 9 #[.val (.ref x), .val (.ref b)] []
  refine go_ret d_b2_9 [] rfl (by decide) (by decide) (fun _ q => nomatch q) ?_
  exact ⟨rfl, rfl, q1, q2, q3, q4⟩
set_option maxRecDepth 65536 in
set_option maxHeartbeats 4000000 in
theorem c_sinite {l : Launch} {Z : State} {a0 : Array Value} {n0 : Nat} (hB : Base Z a0) {x b : Addr} {kb : ClassId} {h : Heap} (A : Arv Z h b kb .char 0 [] (.int 0)) (E : Exa Z h x "java/lang/String") (F1 : Fld Z h x "java/lang/String" "value" "[B" .null) (F2 : Fld Z h x "java/lang/String" "coder" "B" (.int 0)) :
    Con l Z ELc n0 (⟨"java/lang/String", "<init>", "([C)V"⟩ : MethodName) jdk_42_method_3_code 2 (Option.none : Option FieldType) [] ({ frames := 2, cells := 4, slots := 8, locals := 29 } : Room) #[.ref x, .ref b] h [x] (fun v h' sf' => v = none ∧ sf' = [] ∧ Keep h h' [x] ∧ Exa Z h' x "java/lang/String" ∧ Fld Z h' x "java/lang/String" "coder" "B" (.int 0) ∧ ∃ d kd, Fld Z h' x "java/lang/String" "value" "[B" (.ref d) ∧ Arv Z h' d kd .byte 0 [] (.int 0)) := by
  refine con_of (a0 := a0) (ls := #[.val (.ref x), .val (.ref b)]) (plainFor_of_name (by decide +kernel)) hB.2.1 (fun m => by first | rfl | simp [entryFrame, mkF, argsToLocals, Value.category]) ?_
  show Go l Z a0 ELc n0 ({ frames := 2, cells := 4, slots := 8, locals := 29 } : Room) "java/lang/String" jdk_42_method_3_code 2 (Option.none : Option FieldType) "<init>" _ h [x] 0 0 0 #[.val (.ref x), .val (.ref b)] []
  refine go_aloadN d_b2_0 rfl rfl rfl ?_
  refine go_aloadN d_b2_1 rfl rfl rfl ?_
  refine go_iconst 0 d_b2_2 rfl (by decide) ?_
  refine go_aloadN d_b2_3 rfl rfl rfl ?_
  refine go_alen d_b2_4 rfl A ?_
  refine go_aconstNull d_b2_5 rfl ?_
  refine go_special x [(.ref b), (.int 0), (.int 0), .null] [] 0 d_b2_6 rfl rfl (wd hB 11 rfl) (wd hB 12 rfl) (wd hB 7 rfl) (wd hB 14 rfl) (c_sinit4e hB E F1 F2) (allS (List.Mem.head _) (fun _ q => nomatch q)) (lenOf pd_3 rfl) rfl rfl rfl (by decide) (by decide) (by decide) (by decide) (by decide) (fun v1 h2 s3 q4 => ?_)
  obtain ⟨rfl, rfl, q1, q2, q3, q4⟩ := q4
  show Go _ _ _ _ _ _ _ _ _ _ _ _ h2 [x] 4 8 9 #[.val (.ref x), .val (.ref b)] []
  refine go_ret d_b2_9 [] rfl (by decide) (by decide) (fun _ q => nomatch q) ?_
  exact ⟨rfl, rfl, q1, q2, q3, q4⟩
set_option maxRecDepth 65536 in
set_option maxHeartbeats 4000000 in
theorem c_coder {l : Launch} {Z : State} {a0 : Array Value} {n0 : Nat} (hB : Base Z a0) {s : Addr} {h : Heap} (C : Fld Z h s "java/lang/String" "coder" "B" (.int 0)) :
    Con l Z ELc n0 (⟨"java/lang/String", "coder", "()B"⟩ : MethodName) jdk_42_method_152_code 1 (Option.some FieldType.byte) [] ({ frames := 0, cells := 0, slots := 0, locals := 0 } : Room) #[.ref s] h [] (fun v h' sf' => v = some (.int 0) ∧ sf' = [] ∧ h = h') := by
  refine con_of (a0 := a0) (ls := #[.val (.ref s)]) (plainFor_of_name (by decide +kernel)) hB.2.1 (fun m => by first | rfl | simp [entryFrame, mkF, argsToLocals, Value.category]) ?_
  show Go l Z a0 ELc n0 ({ frames := 0, cells := 0, slots := 0, locals := 0 } : Room) "java/lang/String" jdk_42_method_152_code 1 (Option.some FieldType.byte) "coder" _ h [] 0 0 0 #[.val (.ref s)] []
  obtain ⟨cz, hS, hcz⟩ := hB.2.2.1
  refine go_getstatic d_b7_0 rfl (wd hB 40 rfl) Via.refl hS ?_
  refine go_if_eq_f d_b7_3 rfl hcz ?_
  refine go_aloadN d_b7_6 rfl rfl rfl ?_
  refine go_getfield d_b7_7 rfl (wd hB 25 rfl) Via.refl C ?_
  refine go_goto (pt := 14) d_b7_10 (by decide) (by decide) ?_
  refine go_retN (t := .byte) d_b7_14 [] rfl (by simp) (by decide) (by decide) (fun _ q => nomatch q) ?_
  exact ⟨by decide, rfl, rfl⟩
set_option maxRecDepth 65536 in
set_option maxHeartbeats 4000000 in
theorem c_len {l : Launch} {Z : State} {a0 : Array Value} {n0 : Nat} (hB : Base Z a0) {s d : Addr} {k : ClassId} (cs : List Int32) (hn : cs.length ≤ 4000) {h : Heap} (E : Exa Z h s "java/lang/String") (C : Fld Z h s "java/lang/String" "coder" "B" (.int 0)) (V : Fld Z h s "java/lang/String" "value" "[B" (.ref d)) (A : Arv Z h d k .byte (Int32.ofNat cs.length) (lo8s cs) (.int 0)) :
    Con l Z ELc n0 (⟨"java/lang/String", "length", "()I"⟩ : MethodName) jdk_42_method_54_code 1 (Option.some FieldType.int) [] ({ frames := 1, cells := 0, slots := 0, locals := 13 } : Room) #[.ref s] h [] (fun v h' sf' => v = some (.int (Int32.ofNat cs.length)) ∧ sf' = [] ∧ h = h') := by
  refine con_of (a0 := a0) (ls := #[.val (.ref s)]) (plainFor_of_name (by decide +kernel)) hB.2.1 (fun m => by first | rfl | simp [entryFrame, mkF, argsToLocals, Value.category]) ?_
  show Go l Z a0 ELc n0 ({ frames := 1, cells := 0, slots := 0, locals := 13 } : Room) "java/lang/String" jdk_42_method_54_code 1 (Option.some FieldType.int) "length" _ h [] 0 0 0 #[.val (.ref s)] []
  refine go_aloadN d_b6_0 rfl rfl rfl ?_
  refine go_getfield d_b6_1 rfl (wd hB 24 rfl) Via.refl V ?_
  refine go_alen d_b6_4 rfl A ?_
  refine go_aloadN d_b6_5 rfl rfl rfl ?_
  refine go_virtual s [] [(.int (Int32.ofNat cs.length))] 1 d_b6_6 rfl E (wd hB 35 rfl) (wd hB 36 rfl) (nf_of (wd hB 38 rfl)) (wd hB 38 rfl) (wd hB 37 rfl) (wd hB 7 rfl) (wd hB 39 rfl) (c_coder hB C) (fun _ q => nomatch q) (lenOf pd_4 rfl) rfl rfl rfl (by decide) (by decide) (by decide) (by decide) (by decide) (fun v101 h102 s103 q104 => ?_)
  obtain ⟨rfl, rfl, rfl⟩ := q104
  show Go _ _ _ _ _ _ _ _ _ _ _ _ h [] 0 0 9 #[.val (.ref s)] [(.int 0), (.int (Int32.ofNat cs.length))]
  refine go_ishr d_b6_9 rfl ?_
  refine go_retI d_b6_10 [] rfl (by decide) (by decide) (fun _ q => nomatch q) ?_
  rw [shr0]
  exact ⟨rfl, rfl, rfl⟩
set_option maxRecDepth 65536 in
set_option maxHeartbeats 4000000 in
theorem c_pci {l : Launch} {Z : State} {a0 : Array Value} {n0 : Nat} (hB : Base Z a0) (i n : Nat) (h1 : i < n) (h2 : n ≤ 4000) {fv : Value} (hfv : fv.isRef = true) {h : Heap} :
    Con l Z ELc n0 (⟨"jdk/internal/util/Preconditions", "checkIndex", "(IILjava/util/function/BiFunction;)I"⟩ : MethodName) jdk_41_method_11_code 3 (Option.some FieldType.int) [] ({ frames := 0, cells := 0, slots := 0, locals := 0 } : Room) #[.int (Int32.ofNat i), .int (Int32.ofNat n), fv] h [] (fun v h' sf' => v = some (.int (Int32.ofNat i)) ∧ sf' = [] ∧ h = h') := by
  refine con_of (a0 := a0) (ls := #[.val (.int (Int32.ofNat i)), .val (.int (Int32.ofNat n)), .val fv]) (plainFor_of_name (by decide +kernel)) hB.2.1 (fun m => by rcases ref_cases hfv with e | ⟨_, e⟩ <;> rw [e] <;> first | rfl | simp [entryFrame, mkF, argsToLocals, Value.category]) ?_
  show Go l Z a0 ELc n0 ({ frames := 0, cells := 0, slots := 0, locals := 0 } : Room) "jdk/internal/util/Preconditions" jdk_41_method_11_code 3 (Option.some FieldType.int) "checkIndex" _ h [] 0 0 0 #[.val (.int (Int32.ofNat i)), .val (.int (Int32.ofNat n)), .val fv] []
  refine go_iloadN d_b19_0 rfl rfl ?_
  refine go_if_lt_f d_b19_1 rfl (ofN_nneg (by omega)) ?_
  refine go_iloadN d_b19_4 rfl rfl ?_
  refine go_iloadN d_b19_5 rfl rfl ?_
  refine go_icmp_lt_t (pt := 16) d_b19_6 (by decide) (by decide) (ofN_lt (by omega) (by omega)) ?_
  refine go_iloadN d_b19_16 rfl rfl ?_
  refine go_retI d_b19_17 [] rfl (by decide) (by decide) (fun _ q => nomatch q) ?_
  exact ⟨rfl, rfl, rfl⟩
set_option maxRecDepth 65536 in
set_option maxHeartbeats 4000000 in
theorem c_ci {l : Launch} {Z : State} {a0 : Array Value} {n0 : Nat} (hB : Base Z a0) (i n : Nat) (h1 : i < n) (h2 : n ≤ 4000) {h : Heap} :
    Con l Z ELc n0 (⟨"java/lang/String", "checkIndex", "(II)V"⟩ : MethodName) jdk_42_method_155_code 2 (Option.none : Option FieldType) [] ({ frames := 1, cells := 0, slots := 0, locals := 14 } : Room) #[.int (Int32.ofNat i), .int (Int32.ofNat n)] h [] (fun v h' sf' => v = none ∧ sf' = [] ∧ h = h') := by
  refine con_of (a0 := a0) (ls := #[.val (.int (Int32.ofNat i)), .val (.int (Int32.ofNat n))]) (plainFor_of_name (by decide +kernel)) hB.2.1 (fun m => by first | rfl | simp [entryFrame, mkF, argsToLocals, Value.category]) ?_
  show Go l Z a0 ELc n0 ({ frames := 1, cells := 0, slots := 0, locals := 14 } : Room) "java/lang/String" jdk_42_method_155_code 2 (Option.none : Option FieldType) "checkIndex" _ h [] 0 0 0 #[.val (.int (Int32.ofNat i)), .val (.int (Int32.ofNat n))] []
  obtain ⟨fv, hFv, hfv⟩ := hB.2.2.2.1
  refine go_iloadN d_b18_0 rfl rfl ?_
  refine go_iloadN d_b18_1 rfl rfl ?_
  refine go_getstatic d_b18_2 rfl (wd hB 50 rfl) Via.refl hFv ?_
  refine go_static [(.int (Int32.ofNat i)), (.int (Int32.ofNat n)), fv] [] 0 d_b18_5 rfl (wd hB 86 rfl) (wd hB 87 rfl) (wd hB 51 rfl) (wd hB 88 rfl) (c_pci hB i n h1 h2 hfv) (fun _ q => nomatch q) (lenOf pd_5 rfl) rfl rfl rfl (by decide) (by decide) (by decide) (by decide) (by decide) (fun v1 h2 s3 q4 => ?_)
  obtain ⟨rfl, rfl, rfl⟩ := q4
  show Go _ _ _ _ _ _ _ _ _ _ _ _ h [] 0 0 8 #[.val (.int (Int32.ofNat i)), .val (.int (Int32.ofNat n))] [(.int (Int32.ofNat i))]
  refine go_pop d_b18_8 rfl rfl ?_
  refine go_ret d_b18_9 [] rfl (by decide) (by decide) (fun _ q => nomatch q) ?_
  exact ⟨rfl, rfl, rfl⟩
set_option maxRecDepth 65536 in
set_option maxHeartbeats 4000000 in
theorem c_l1ch {l : Launch} {Z : State} {a0 : Array Value} {n0 : Nat} (hB : Base Z a0) {d : Addr} {k : ClassId} (cs : List Int32) (hn : cs.length ≤ 4000) (i : Nat) (c : Int32) (hc : cs[i]? = some c) (hC : isC c) {h : Heap} (A : Arv Z h d k .byte (Int32.ofNat cs.length) (lo8s cs) (.int 0)) :
    Con l Z ELc n0 (⟨"java/lang/StringLatin1", "charAt", "([BI)C"⟩ : MethodName) jdk_43_method_2_code 2 (Option.some FieldType.char) [] ({ frames := 2, cells := 0, slots := 0, locals := 27 } : Room) #[.ref d, .int (Int32.ofNat i)] h [] (fun v h' sf' => v = some (.int c) ∧ sf' = [] ∧ h = h') := by
  refine con_of (a0 := a0) (ls := #[.val (.ref d), .val (.int (Int32.ofNat i))]) (plainFor_of_name (by decide +kernel)) hB.2.1 (fun m => by first | rfl | simp [entryFrame, mkF, argsToLocals, Value.category]) ?_
  show Go l Z a0 ELc n0 ({ frames := 2, cells := 0, slots := 0, locals := 27 } : Room) "java/lang/StringLatin1" jdk_43_method_2_code 2 (Option.some FieldType.char) "charAt" _ h [] 0 0 0 #[.val (.ref d), .val (.int (Int32.ofNat i))] []
  have hi : i < cs.length := (List.getElem?_eq_some_iff.mp hc).1
  refine go_iloadN d_b17_0 rfl rfl ?_
  refine go_aloadN d_b17_1 rfl rfl rfl ?_
  refine go_alen d_b17_2 rfl A ?_
  refine go_static [(.int (Int32.ofNat i)), (.int (Int32.ofNat cs.length))] [] 0 d_b17_3 rfl (wd hB 83 rfl) (wd hB 84 rfl) (wd hB 7 rfl) (wd hB 85 rfl) (c_ci hB i cs.length hi hn) (fun _ q => nomatch q) (lenOf pd_6 rfl) rfl rfl rfl (by decide) (by decide) (by decide) (by decide) (by decide) (fun v101 h102 s103 q104 => ?_)
  obtain ⟨rfl, rfl, rfl⟩ := q104
  show Go _ _ _ _ _ _ _ _ _ _ _ _ h [] 0 0 6 #[.val (.ref d), .val (.int (Int32.ofNat i))] []
  refine go_aloadN d_b17_6 rfl rfl rfl ?_
  refine go_iloadN d_b17_7 rfl rfl ?_
  refine go_baload (v := (.int c.toInt8.toInt32)) i d_b17_8 rfl A ⟨ofN_nneg (by omega), ofN_lt (by omega) (by omega)⟩ (ofN_cl (by omega)) (lo8s_at hc) ?_
  refine go_sipush 255 d_b17_9 rfl (by decide) ?_
  refine go_iand d_b17_12 rfl ?_
  refine go_i2c d_b17_13 rfl ?_
  refine go_retN (t := .char) d_b17_14 [] rfl (by simp) (by decide) (by decide) (fun _ q => nomatch q) ?_
  rw [hC.back]
  exact ⟨by rw [show c.toUInt32.toUInt16.toUInt32.toInt32 = c from hC.nar, hC.nar], rfl, rfl⟩
set_option maxRecDepth 65536 in
set_option maxHeartbeats 4000000 in
theorem c_isl {l : Launch} {Z : State} {a0 : Array Value} {n0 : Nat} (hB : Base Z a0) {s : Addr} {h : Heap} (C : Fld Z h s "java/lang/String" "coder" "B" (.int 0)) :
    Con l Z ELc n0 (⟨"java/lang/String", "isLatin1", "()Z"⟩ : MethodName) jdk_42_method_154_code 1 (Option.some FieldType.boolean) [] ({ frames := 0, cells := 0, slots := 0, locals := 0 } : Room) #[.ref s] h [] (fun v h' sf' => v = some (.int 1) ∧ sf' = [] ∧ h = h') := by
  refine con_of (a0 := a0) (ls := #[.val (.ref s)]) (plainFor_of_name (by decide +kernel)) hB.2.1 (fun m => by first | rfl | simp [entryFrame, mkF, argsToLocals, Value.category]) ?_
  show Go l Z a0 ELc n0 ({ frames := 0, cells := 0, slots := 0, locals := 0 } : Room) "java/lang/String" jdk_42_method_154_code 1 (Option.some FieldType.boolean) "isLatin1" _ h [] 0 0 0 #[.val (.ref s)] []
  obtain ⟨cz, hS, hcz⟩ := hB.2.2.1
  refine go_getstatic d_b16_0 rfl (wd hB 40 rfl) Via.refl hS ?_
  refine go_if_eq_f d_b16_3 rfl hcz ?_
  refine go_aloadN d_b16_6 rfl rfl rfl ?_
  refine go_getfield d_b16_7 rfl (wd hB 25 rfl) Via.refl C ?_
  refine go_if_ne_f d_b16_10 rfl (by decide) ?_
  refine go_iconst 1 d_b16_13 rfl (by decide) ?_
  refine go_goto (pt := 18) d_b16_14 (by decide) (by decide) ?_
  refine go_retN (t := .boolean) d_b16_18 [] rfl (by simp) (by decide) (by decide) (fun _ q => nomatch q) ?_
  exact ⟨by decide, rfl, rfl⟩
set_option maxRecDepth 65536 in
set_option maxHeartbeats 4000000 in
theorem c_char {l : Launch} {Z : State} {a0 : Array Value} {n0 : Nat} (hB : Base Z a0) {s d : Addr} {k : ClassId} (cs : List Int32) (hn : cs.length ≤ 4000) (i : Nat) (c : Int32) (hc : cs[i]? = some c) (hC : isC c) {h : Heap} (E : Exa Z h s "java/lang/String") (C : Fld Z h s "java/lang/String" "coder" "B" (.int 0)) (V : Fld Z h s "java/lang/String" "value" "[B" (.ref d)) (A : Arv Z h d k .byte (Int32.ofNat cs.length) (lo8s cs) (.int 0)) :
    Con l Z ELc n0 (⟨"java/lang/String", "charAt", "(I)C"⟩ : MethodName) jdk_42_method_56_code 2 (Option.some FieldType.char) [] ({ frames := 3, cells := 0, slots := 0, locals := 40 } : Room) #[.ref s, .int (Int32.ofNat i)] h [] (fun v h' sf' => v = some (.int c) ∧ sf' = [] ∧ h = h') := by
  refine con_of (a0 := a0) (ls := #[.val (.ref s), .val (.int (Int32.ofNat i))]) (plainFor_of_name (by decide +kernel)) hB.2.1 (fun m => by first | rfl | simp [entryFrame, mkF, argsToLocals, Value.category]) ?_
  show Go l Z a0 ELc n0 ({ frames := 3, cells := 0, slots := 0, locals := 40 } : Room) "java/lang/String" jdk_42_method_56_code 2 (Option.some FieldType.char) "charAt" _ h [] 0 0 0 #[.val (.ref s), .val (.int (Int32.ofNat i))] []
  refine go_aloadN d_b15_0 rfl rfl rfl ?_
  refine go_virtual s [] [] 0 d_b15_1 rfl E (wd hB 74 rfl) (wd hB 75 rfl) (nf_of (wd hB 77 rfl)) (wd hB 77 rfl) (wd hB 76 rfl) (wd hB 7 rfl) (wd hB 78 rfl) (c_isl hB C) (fun _ q => nomatch q) (lenOf pd_7 rfl) rfl rfl rfl (by decide) (by decide) (by decide) (by decide) (by decide) (fun v101 h102 s103 q104 => ?_)
  obtain ⟨rfl, rfl, rfl⟩ := q104
  show Go _ _ _ _ _ _ _ _ _ _ _ _ h [] 0 0 4 #[.val (.ref s), .val (.int (Int32.ofNat i))] [(.int 1)]
  refine go_if_eq_f d_b15_4 rfl (by decide) ?_
  refine go_aloadN d_b15_7 rfl rfl rfl ?_
  refine go_getfield d_b15_8 rfl (wd hB 24 rfl) Via.refl V ?_
  refine go_iloadN d_b15_11 rfl rfl ?_
  refine go_static [(.ref d), (.int (Int32.ofNat i))] [] 0 d_b15_12 rfl (wd hB 79 rfl) (wd hB 80 rfl) (wd hB 81 rfl) (wd hB 82 rfl) (c_l1ch hB cs hn i c hc hC A) (fun _ q => nomatch q) (lenOf pd_8 rfl) rfl rfl rfl (by decide) (by decide) (by decide) (by decide) (by decide) (fun v105 h106 s107 q108 => ?_)
  obtain ⟨rfl, rfl, rfl⟩ := q108
  show Go _ _ _ _ _ _ _ _ _ _ _ _ h [] 0 0 15 #[.val (.ref s), .val (.int (Int32.ofNat i))] [(.int c)]
  refine go_retN (t := .char) d_b15_15 [] rfl (by simp) (by decide) (by decide) (fun _ q => nomatch q) ?_
  exact ⟨by rw [hC.nar], rfl, rfl⟩
theorem range_lo8s {cs : List Int32} {b m : Nat} (h : b + m ≤ cs.length) : lo8s ((cs.drop b).take m) = (List.range m).map fun i => (lo8s cs).getD (b + i) (.int 0) := by
  apply List.ext_getElem?
  intro i
  simp only [lo8s, List.getElem?_map, List.getElem?_take, List.getElem?_drop, List.getElem?_range', List.getD_eq_getElem?_getD]
  by_cases hi : i < m
  · have hb : b + i < cs.length := by omega
    simp [hi, hb, List.getElem?_range hi]
  · simp [hi, List.getElem?_eq_none (l := List.range m) (i := i) (by simp; omega)]
theorem sub_len {cs : List Int32} {b m : Nat} (h : b + m ≤ cs.length) : ((cs.drop b).take m).length = m := by simp; omega

set_option maxRecDepth 65536 in
set_option maxHeartbeats 4000000 in
theorem c_pft {l : Launch} {Z : State} {a0 : Array Value} {n0 : Nat} (hB : Base Z a0) (b e n : Nat) (h1 : b ≤ e) (h2 : e ≤ n) (h3 : n ≤ 4000) {fv : Value} (hfv : fv.isRef = true) {h : Heap} :
    Con l Z ELc n0 (⟨"jdk/internal/util/Preconditions", "checkFromToIndex", "(IIILjava/util/function/BiFunction;)I"⟩ : MethodName) jdk_41_method_12_code 4 (Option.some FieldType.int) [] ({ frames := 0, cells := 0, slots := 0, locals := 0 } : Room) #[.int (Int32.ofNat b), .int (Int32.ofNat e), .int (Int32.ofNat n), fv] h [] (fun v h' sf' => v = some (.int (Int32.ofNat b)) ∧ sf' = [] ∧ h = h') := by
  refine con_of (a0 := a0) (ls := #[.val (.int (Int32.ofNat b)), .val (.int (Int32.ofNat e)), .val (.int (Int32.ofNat n)), .val fv]) (plainFor_of_name (by decide +kernel)) hB.2.1 (fun m => by rcases ref_cases hfv with e | ⟨_, e⟩ <;> rw [e] <;> first | rfl | simp [entryFrame, mkF, argsToLocals, Value.category]) ?_
  show Go l Z a0 ELc n0 ({ frames := 0, cells := 0, slots := 0, locals := 0 } : Room) "jdk/internal/util/Preconditions" jdk_41_method_12_code 4 (Option.some FieldType.int) "checkFromToIndex" _ h [] 0 0 0 #[.val (.int (Int32.ofNat b)), .val (.int (Int32.ofNat e)), .val (.int (Int32.ofNat n)), .val fv] []
  refine go_iloadN d_b10_0 rfl rfl ?_
  refine go_if_lt_f d_b10_1 rfl (ofN_nneg (by omega)) ?_
  refine go_iloadN d_b10_4 rfl rfl ?_
  refine go_iloadN d_b10_5 rfl rfl ?_
  refine go_icmp_gt_f d_b10_6 rfl (ofN_nlt (by omega) (by omega)) ?_
  refine go_iloadN d_b10_9 rfl rfl ?_
  refine go_iloadN d_b10_10 rfl rfl ?_
  refine go_icmp_le_t (pt := 22) d_b10_11 (by decide) (by decide) (ofN_nlt (by omega) (by omega)) ?_
  refine go_iloadN d_b10_22 rfl rfl ?_
  refine go_retI d_b10_23 [] rfl (by decide) (by decide) (fun _ q => nomatch q) ?_
  exact ⟨rfl, rfl, rfl⟩
set_option maxRecDepth 65536 in
set_option maxHeartbeats 4000000 in
theorem c_cbe {l : Launch} {Z : State} {a0 : Array Value} {n0 : Nat} (hB : Base Z a0) (b e n : Nat) (h1 : b ≤ e) (h2 : e ≤ n) (h3 : n ≤ 4000) {h : Heap} :
    Con l Z ELc n0 (⟨"java/lang/String", "checkBoundsBeginEnd", "(III)V"⟩ : MethodName) jdk_42_method_158_code 3 (Option.none : Option FieldType) [] ({ frames := 1, cells := 0, slots := 0, locals := 15 } : Room) #[.int (Int32.ofNat b), .int (Int32.ofNat e), .int (Int32.ofNat n)] h [] (fun v h' sf' => v = none ∧ sf' = [] ∧ h = h') := by
  refine con_of (a0 := a0) (ls := #[.val (.int (Int32.ofNat b)), .val (.int (Int32.ofNat e)), .val (.int (Int32.ofNat n))]) (plainFor_of_name (by decide +kernel)) hB.2.1 (fun m => by first | rfl | simp [entryFrame, mkF, argsToLocals, Value.category]) ?_
  show Go l Z a0 ELc n0 ({ frames := 1, cells := 0, slots := 0, locals := 15 } : Room) "java/lang/String" jdk_42_method_158_code 3 (Option.none : Option FieldType) "checkBoundsBeginEnd" _ h [] 0 0 0 #[.val (.int (Int32.ofNat b)), .val (.int (Int32.ofNat e)), .val (.int (Int32.ofNat n))] []
  obtain ⟨fv, hFv, hfv⟩ := hB.2.2.2.1
  refine go_iloadN d_b9_0 rfl rfl ?_
  refine go_iloadN d_b9_1 rfl rfl ?_
  refine go_iloadN d_b9_2 rfl rfl ?_
  refine go_getstatic d_b9_3 rfl (wd hB 50 rfl) Via.refl hFv ?_
  refine go_static [(.int (Int32.ofNat b)), (.int (Int32.ofNat e)), (.int (Int32.ofNat n)), fv] [] 0 d_b9_6 rfl (wd hB 52 rfl) (wd hB 53 rfl) (wd hB 51 rfl) (wd hB 54 rfl) (c_pft hB b e n h1 h2 h3 hfv) (fun _ q => nomatch q) (lenOf pd_9 rfl) rfl rfl rfl (by decide) (by decide) (by decide) (by decide) (by decide) (fun v1 h2 s3 q4 => ?_)
  obtain ⟨rfl, rfl, rfl⟩ := q4
  show Go _ _ _ _ _ _ _ _ _ _ _ _ h [] 0 0 9 #[.val (.int (Int32.ofNat b)), .val (.int (Int32.ofNat e)), .val (.int (Int32.ofNat n))] [(.int (Int32.ofNat b))]
  refine go_pop d_b9_9 rfl rfl ?_
  refine go_ret d_b9_10 [] rfl (by decide) (by decide) (fun _ q => nomatch q) ?_
  exact ⟨rfl, rfl, rfl⟩
set_option maxRecDepth 65536 in
set_option maxHeartbeats 4000000 in
theorem c_cl {l : Launch} {Z : State} {a0 : Array Value} {n0 : Nat} (hB : Base Z a0) (b e : Nat) (h1 : b ≤ e) (h2 : e ≤ 4000) {h : Heap} :
    Con l Z ELc n0 (⟨"java/util/Arrays", "checkLength", "(II)V"⟩ : MethodName) jdk_65_method_131_code 2 (Option.none : Option FieldType) [] ({ frames := 0, cells := 0, slots := 0, locals := 0 } : Room) #[.int (Int32.ofNat b), .int (Int32.ofNat e)] h [] (fun v h' sf' => v = none ∧ sf' = [] ∧ h = h') := by
  refine con_of (a0 := a0) (ls := #[.val (.int (Int32.ofNat b)), .val (.int (Int32.ofNat e))]) (plainFor_of_name (by decide +kernel)) hB.2.1 (fun m => by first | rfl | simp [entryFrame, mkF, argsToLocals, Value.category]) ?_
  show Go l Z a0 ELc n0 ({ frames := 0, cells := 0, slots := 0, locals := 0 } : Room) "java/util/Arrays" jdk_65_method_131_code 2 (Option.none : Option FieldType) "checkLength" _ h [] 0 0 0 #[.val (.int (Int32.ofNat b)), .val (.int (Int32.ofNat e))] []
  refine go_iloadN d_b23_0 rfl rfl ?_
  refine go_iloadN d_b23_1 rfl rfl ?_
  refine go_icmp_ge_t (pt := 37) d_b23_2 (by decide) (by decide) (ofN_nlt (by omega) (by omega)) ?_
  refine go_ret d_b23_37 [] rfl (by decide) (by decide) (fun _ q => nomatch q) ?_
  exact ⟨rfl, rfl, rfl⟩
set_option maxRecDepth 65536 in
set_option maxHeartbeats 4000000 in
theorem c_min {l : Launch} {Z : State} {a0 : Array Value} {n0 : Nat} (hB : Base Z a0) (b e : Nat) (h1 : e ≤ b) (h2 : b ≤ 4000) {h : Heap} :
    Con l Z ELc n0 (⟨"java/lang/Math", "min", "(II)I"⟩ : MethodName) jdk_29_method_69_code 2 (Option.some FieldType.int) [] ({ frames := 0, cells := 0, slots := 0, locals := 0 } : Room) #[.int (Int32.ofNat b), .int (Int32.ofNat e)] h [] (fun v h' sf' => v = some (.int (Int32.ofNat e)) ∧ sf' = [] ∧ h = h') := by
  refine con_of (a0 := a0) (ls := #[.val (.int (Int32.ofNat b)), .val (.int (Int32.ofNat e))]) (by decide +kernel) hB.2.1 (fun m => rfl) ?_
  show Go l Z a0 ELc n0 ({ frames := 0, cells := 0, slots := 0, locals := 0 } : Room) "java/lang/Math" jdk_29_method_69_code 2 (Option.some FieldType.int) "min" _ h [] 0 0 0 #[.val (.int (Int32.ofNat b)), .val (.int (Int32.ofNat e))] []
  refine go_iloadN d_b24_0 rfl rfl ?_
  refine go_iloadN d_b24_1 rfl rfl ?_
  by_cases q : ((Int32.ofNat e) < (Int32.ofNat b) : Prop)
  · refine go_icmp_gt_t (pt := 9) d_b24_2 (by decide) (by decide) q ?_
    refine go_iloadN d_b24_9 rfl rfl ?_
    refine go_retI d_b24_10 [] rfl (by decide) (by decide) (fun _ q => nomatch q) ?_
    exact ⟨rfl, rfl, rfl⟩
  · refine go_icmp_gt_f d_b24_2 rfl q ?_
    refine go_iloadN d_b24_5 rfl rfl ?_
    refine go_goto (pt := 10) d_b24_6 (by decide) (by decide) ?_
    refine go_retI d_b24_10 [] rfl (by decide) (by decide) (fun _ q => nomatch q) ?_
    have e1 : b = e := by rw [Int32.lt_iff_toInt_lt, ofN_int (by omega), ofN_int (by omega)] at q; omega
    exact ⟨by rw [e1], rfl, rfl⟩
set_option maxRecDepth 65536 in
set_option maxHeartbeats 4000000 in
theorem c_corb {l : Launch} {Z : State} {a0 : Array Value} {n0 : Nat} (hB : Base Z a0) {d : Addr} {k : ClassId} (cs : List Int32) (hn : cs.length ≤ 4000) (b m : Nat) (hm : m ≤ 8) (hb : b + m ≤ cs.length) {h : Heap} (A : Arv Z h d k .byte (Int32.ofNat cs.length) (lo8s cs) (.int 0)) :
    Con l Z ELc n0 (⟨"java/util/Arrays", "copyOfRangeByte", "([BII)[B"⟩ : MethodName) jdk_65_method_133_code 5 (Option.some (FieldType.array FieldType.byte)) [] ({ frames := 1, cells := 1, slots := 8, locals := 44 } : Room) #[.ref d, .int (Int32.ofNat b), .int (Int32.ofNat (b + m))] h [] (fun v h' sf' => ∃ d' k', v = some (.ref d') ∧ sf' = [] ∧ Ext h h' ∧ h.size ≤ d' ∧ Arv Z h' d' k' .byte (Int32.ofNat ((cs.drop b).take m).length) (lo8s ((cs.drop b).take m)) (.int 0)) := by
  refine con_of (a0 := a0) (ls := #[.val (.ref d), .val (.int (Int32.ofNat b)), .val (.int (Int32.ofNat (b + m))), .unset, .unset]) (plainFor_of_name (by decide +kernel)) hB.2.1 (fun m => by first | rfl | simp [entryFrame, mkF, argsToLocals, Value.category]) ?_
  show Go l Z a0 ELc n0 ({ frames := 1, cells := 1, slots := 8, locals := 44 } : Room) "java/util/Arrays" jdk_65_method_133_code 5 (Option.some (FieldType.array FieldType.byte)) "copyOfRangeByte" _ h [] 0 0 0 #[.val (.ref d), .val (.int (Int32.ofNat b)), .val (.int (Int32.ofNat (b + m))), .unset, .unset] []
  refine go_iloadN d_b22_0 rfl rfl ?_
  refine go_iloadN d_b22_1 rfl rfl ?_
  refine go_static [(.int (Int32.ofNat b)), (.int (Int32.ofNat (b + m)))] [] 0 d_b22_2 rfl (wd hB 101 rfl) (wd hB 102 rfl) (wd hB 96 rfl) (wd hB 103 rfl) (c_cl hB b (b + m) (by omega) (by omega)) (fun _ q => nomatch q) (lenOf pd_6 rfl) rfl rfl rfl (by decide) (by decide) (by decide) (by decide) (by decide) (fun v101 h102 s103 q104 => ?_)
  obtain ⟨rfl, rfl, rfl⟩ := q104
  show Go _ _ _ _ _ _ _ _ _ _ _ _ h [] 0 0 5 #[.val (.ref d), .val (.int (Int32.ofNat b)), .val (.int (Int32.ofNat (b + m))), .unset, .unset] []
  refine go_iloadN d_b22_5 rfl rfl ?_
  refine go_iloadN d_b22_6 rfl rfl ?_
  refine go_isub d_b22_7 rfl ?_
  rw [ofN_sub (by omega) (by omega), Nat.add_sub_cancel_left]
  refine go_istoreN d_b22_8 rfl #[.val (.ref d), .val (.int (Int32.ofNat b)), .val (.int (Int32.ofNat (b + m))), .val (.int (Int32.ofNat m)), .unset] rfl ?_
  refine go_iloadN d_b22_9 rfl rfl ?_
  refine go_newarr (ty := .byte) (ad := "[B") 8 d_b22_10 rfl rfl (wd hB 19 rfl) (ofN_nneg (by omega)) (by rw [ofN_cl (by omega)]; exact hm) (by decide) (by decide) (by decide) (by decide) ?_
  intro h110 x105 hx106 E107 ⟨A108, k109, B111⟩
  have B112 : Arv Z h110 x105 k109 .byte (Int32.ofNat m) (List.replicate m (Value.int 0)) (.int 0) := B111.pad (pad_rep [] (.int 0) m)
  refine go_astore d_b22_12 rfl #[.val (.ref d), .val (.int (Int32.ofNat b)), .val (.int (Int32.ofNat (b + m))), .val (.int (Int32.ofNat m)), .val (.ref x105)] rfl rfl ?_
  refine go_aloadN d_b22_14 rfl rfl rfl ?_
  refine go_iloadN d_b22_15 rfl rfl ?_
  refine go_aload d_b22_16 rfl rfl rfl ?_
  refine go_iconst 0 d_b22_18 rfl (by decide) ?_
  refine go_aloadN d_b22_19 rfl rfl rfl ?_
  have F113 := (A.ext E107)
  refine go_alen d_b22_20 rfl F113 ?_
  refine go_iloadN d_b22_21 rfl rfl ?_
  refine go_isub d_b22_22 rfl ?_
  rw [ofN_sub (by omega) (by omega)]
  refine go_iloadN d_b22_23 rfl rfl ?_
  refine go_static [(.int (Int32.ofNat (cs.length - b))), (.int (Int32.ofNat m))] [(.int 0), (.ref x105), (.int (Int32.ofNat b)), (.ref d)] 4 d_b22_24 rfl (wd hB 104 rfl) (wd hB 105 rfl) (wd hB 106 rfl) (wd hB 107 rfl) (c_min hB (cs.length - b) m (by omega) (by omega)) (fun _ q => nomatch q) (lenOf pd_10 rfl) rfl rfl rfl (by decide) (by decide) (by decide) (by decide) (by decide) (fun v114 h115 s116 q117 => ?_)
  obtain ⟨rfl, rfl, rfl⟩ := q117
  show Go _ _ _ _ _ _ _ _ _ _ _ _ h110 [x105] 1 8 27 #[.val (.ref d), .val (.int (Int32.ofNat b)), .val (.int (Int32.ofNat (b + m))), .val (.int (Int32.ofNat m)), .val (.ref x105)] [(.int (Int32.ofNat m)), (.int 0), (.ref x105), (.int (Int32.ofNat b)), (.ref d)]
  refine go_acopy (us := (lo8s ((cs.drop b).take m))) d_b22_27 rfl (wd hB 108 rfl) (wd hB 111 rfl) (wd hB 109 rfl) (wd hB 110 rfl) F113 B112 rfl (ofN_nneg (by omega)) (by decide) (ofN_nneg (by omega)) (by rw [ofN_cl (i := b) (by omega), ofN_cl (i := m) (by omega), ofN_cl (i := cs.length) (by omega)]; exact hb) (by rw [ofN_cl (i := m) (by omega)]; exact Nat.le_of_eq (Nat.zero_add m)) (by rw [ofN_cl (i := m) (by omega), ofN_cl (i := b) (by omega)]; exact range_lo8s hb) (by rw [ofN_cl (i := m) (by omega), List.length_replicate]; exact Nat.le_of_eq (Nat.zero_add m)) (List.Mem.head _) rfl (by decide) 0 rfl (by decide) ?_
  intro h118 K119 B120
  have B120n : Arv Z h118 x105 k109 .byte (Int32.ofNat ((cs.drop b).take m).length) (lo8s ((cs.drop b).take m)) (.int 0) := by rw [sub_len hb]; simpa [ofN_cl (i := m) (by omega)] using B120
  refine go_aload d_b22_30 rfl rfl rfl ?_
  refine go_retA d_b22_32 [] rfl rfl rfl rfl (by decide) (by decide) (fun _ q => nomatch q) ?_
  exact ⟨_, _, rfl, rfl, (ext_of_keep (((Keep.refl h []).ext E107).trans K119 (allS (Or.inr (Nat.le_of_eq hx106.symm)) all0))), (Nat.le_of_eq hx106.symm), B120n⟩
set_option maxRecDepth 65536 in
set_option maxHeartbeats 4000000 in
theorem c_cor {l : Launch} {Z : State} {a0 : Array Value} {n0 : Nat} (hB : Base Z a0) {d : Addr} {k : ClassId} (cs : List Int32) (hn : cs.length ≤ 4000) (b m : Nat) (hm : m ≤ 8) (hb : b + m ≤ cs.length) (hf : ¬ (b = 0 ∧ m = cs.length)) {h : Heap} (A : Arv Z h d k .byte (Int32.ofNat cs.length) (lo8s cs) (.int 0)) :
    Con l Z ELc n0 (⟨"java/util/Arrays", "copyOfRange", "([BII)[B"⟩ : MethodName) jdk_65_method_132_code 3 (Option.some (FieldType.array FieldType.byte)) [] ({ frames := 2, cells := 1, slots := 8, locals := 60 } : Room) #[.ref d, .int (Int32.ofNat b), .int (Int32.ofNat (b + m))] h [] (fun v h' sf' => ∃ d' k', v = some (.ref d') ∧ sf' = [] ∧ Ext h h' ∧ h.size ≤ d' ∧ Arv Z h' d' k' .byte (Int32.ofNat ((cs.drop b).take m).length) (lo8s ((cs.drop b).take m)) (.int 0)) := by
  refine con_of (a0 := a0) (ls := #[.val (.ref d), .val (.int (Int32.ofNat b)), .val (.int (Int32.ofNat (b + m)))]) (plainFor_of_name (by decide +kernel)) hB.2.1 (fun m => by first | rfl | simp [entryFrame, mkF, argsToLocals, Value.category]) ?_
  show Go l Z a0 ELc n0 ({ frames := 2, cells := 1, slots := 8, locals := 60 } : Room) "java/util/Arrays" jdk_65_method_132_code 3 (Option.some (FieldType.array FieldType.byte)) "copyOfRange" _ h [] 0 0 0 #[.val (.ref d), .val (.int (Int32.ofNat b)), .val (.int (Int32.ofNat (b + m)))] []
  refine go_iloadN d_b21_0 rfl rfl ?_
  by_cases hb0 : ((Int32.ofNat b) = 0 : Prop)
  · refine go_if_ne_f d_b21_1 rfl hb0 ?_
    refine go_iloadN d_b21_4 rfl rfl ?_
    refine go_aloadN d_b21_5 rfl rfl rfl ?_
    refine go_alen d_b21_6 rfl A ?_
    refine go_icmp_eq_f d_b21_7 rfl (fun q => hf (by have b0 : b = 0 := (by have := ofN_int (i := b) (by omega); rw [hb0] at this; have e0 : (0 : Int32).toInt = 0 := rfl; omega); have q := congrArg Int32.toInt q; rw [ofN_int (by omega), ofN_int (by omega)] at q; omega)) ?_
    refine go_aloadN d_b21_10 rfl rfl rfl ?_
    refine go_iloadN d_b21_11 rfl rfl ?_
    refine go_iloadN d_b21_12 rfl rfl ?_
    refine go_static [(.ref d), (.int (Int32.ofNat b)), (.int (Int32.ofNat (b + m)))] [] 0 d_b21_13 rfl (wd hB 98 rfl) (wd hB 99 rfl) (wd hB 96 rfl) (wd hB 100 rfl) (c_corb hB cs hn b m hm hb A) (fun _ q => nomatch q) (lenOf pd_11 rfl) rfl rfl rfl (by decide) (by decide) (by decide) (by decide) (by decide) (fun v101 h102 s103 q104 => ?_)
    obtain ⟨d', k', rfl, rfl, q1, q2, q3⟩ := q104
    show Go _ _ _ _ _ _ _ _ _ _ _ _ h102 [] 1 8 16 #[.val (.ref d), .val (.int (Int32.ofNat b)), .val (.int (Int32.ofNat (b + m)))] [(.ref d')]
    refine go_retA d_b21_16 [] rfl rfl rfl rfl (by decide) (by decide) (fun _ q => nomatch q) ?_
    exact ⟨_, _, rfl, rfl, q1, q2, q3⟩
  · refine go_if_ne_t (pt := 10) d_b21_1 (by decide) (by decide) hb0 ?_
    refine go_aloadN d_b21_10 rfl rfl rfl ?_
    refine go_iloadN d_b21_11 rfl rfl ?_
    refine go_iloadN d_b21_12 rfl rfl ?_
    refine go_static [(.ref d), (.int (Int32.ofNat b)), (.int (Int32.ofNat (b + m)))] [] 0 d_b21_13 rfl (wd hB 98 rfl) (wd hB 99 rfl) (wd hB 96 rfl) (wd hB 100 rfl) (c_corb hB cs hn b m hm hb A) (fun _ q => nomatch q) (lenOf pd_11 rfl) rfl rfl rfl (by decide) (by decide) (by decide) (by decide) (by decide) (fun v105 h106 s107 q108 => ?_)
    obtain ⟨d', k', rfl, rfl, q1, q2, q3⟩ := q108
    show Go _ _ _ _ _ _ _ _ _ _ _ _ h106 [] 1 8 16 #[.val (.ref d), .val (.int (Int32.ofNat b)), .val (.int (Int32.ofNat (b + m)))] [(.ref d')]
    refine go_retA d_b21_16 [] rfl rfl rfl rfl (by decide) (by decide) (fun _ q => nomatch q) ?_
    exact ⟨_, _, rfl, rfl, q1, q2, q3⟩
set_option maxRecDepth 65536 in
set_option maxHeartbeats 4000000 in
theorem c_bb {l : Launch} {Z : State} {a0 : Array Value} {n0 : Nat} (hB : Base Z a0) {x d : Addr} {h : Heap} (E : Exa Z h x "java/lang/String") (F1 : Fld Z h x "java/lang/String" "value" "[B" .null) (F2 : Fld Z h x "java/lang/String" "coder" "B" (.int 0)) :
    Con l Z ELc n0 (⟨"java/lang/String", "<init>", "([BB)V"⟩ : MethodName) jdk_42_method_151_code 3 (Option.none : Option FieldType) [] ({ frames := 1, cells := 0, slots := 0, locals := 12 } : Room) #[.ref x, .ref d, .int 0] h [x] (fun v h' sf' => v = none ∧ sf' = [] ∧ Keep h h' [x] ∧ Exa Z h' x "java/lang/String" ∧ Fld Z h' x "java/lang/String" "coder" "B" (.int 0) ∧ Fld Z h' x "java/lang/String" "value" "[B" (.ref d)) := by
  refine con_of (a0 := a0) (ls := #[.val (.ref x), .val (.ref d), .val (.int 0)]) (plainFor_of_name (by decide +kernel)) hB.2.1 (fun m => by first | rfl | simp [entryFrame, mkF, argsToLocals, Value.category]) ?_
  show Go l Z a0 ELc n0 ({ frames := 1, cells := 0, slots := 0, locals := 12 } : Room) "java/lang/String" jdk_42_method_151_code 3 (Option.none : Option FieldType) "<init>" _ h [x] 0 0 0 #[.val (.ref x), .val (.ref d), .val (.int 0)] []
  refine go_aloadN d_b25_0 rfl rfl rfl ?_
  refine go_initO d_b25_1 rfl (wd hB 15 rfl) (wd hB 16 rfl) (wd hB 17 rfl) rfl (by decide) 0 rfl (by decide) ?_
  refine go_aloadN d_b25_4 rfl rfl rfl ?_
  refine go_aloadN d_b25_5 rfl rfl rfl ?_
  refine go_putfield (ty := (.array .byte)) d_b25_6 rfl (wd hB 24 rfl) Via.refl F1 E (Or.inr ⟨(wd hB 20 rfl), rfl, rfl⟩) (wd hB 6 rfl) (by decide) rfl rfl (List.Mem.head _) ?_
  intro h101 W102
  have F103 := Fld.same W102 F1
  refine go_aloadN d_b25_9 rfl rfl rfl ?_
  refine go_iloadN d_b25_10 rfl rfl ?_
  have F104 := (Fld.other W102 F2 (Or.inr (slot_ne (t := .byte) (t' := (.array .byte)) (Or.inr (wd hB 21 rfl) : Laid Z a0 "java/lang/String" "java/lang/String" "coder" "B") (Or.inr (wd hB 20 rfl) : Laid Z a0 "java/lang/String" "java/lang/String" "value" "[B") (by decide) (by decide) (by decide))))
  have F105 := (Exa.wr W102 E)
  refine go_putfield (ty := .byte) d_b25_11 rfl (wd hB 25 rfl) Via.refl F104 F105 (Or.inr ⟨(wd hB 21 rfl), rfl, rfl⟩) (wd hB 6 rfl) (by decide) (by decide) (by decide) (List.Mem.head _) ?_
  intro h106 W107
  have F108 := Fld.same W107 F104
  have F109 := (Exa.wr W107 F105)
  have F110 := (Fld.other W107 F103 (Or.inr (slot_ne (t := (.array .byte)) (t' := .byte) (Or.inr (wd hB 20 rfl) : Laid Z a0 "java/lang/String" "java/lang/String" "value" "[B") (Or.inr (wd hB 21 rfl) : Laid Z a0 "java/lang/String" "java/lang/String" "coder" "B") (by decide) (by decide) (by decide))))
  refine go_ret d_b25_14 [] rfl (by decide) (by decide) (fun _ q => nomatch q) ?_
  exact ⟨rfl, rfl, (((Keep.refl h [x]).wr W102 (Or.inl (List.Mem.head _))).wr W107 (Or.inl (List.Mem.head _))), F109, F108, F110⟩
set_option maxRecDepth 65536 in
set_option maxHeartbeats 4000000 in
theorem c_ns {l : Launch} {Z : State} {a0 : Array Value} {n0 : Nat} (hB : Base Z a0) {d : Addr} {k : ClassId} (cs : List Int32) (hn : cs.length ≤ 4000) (b m : Nat) (hm : m ≤ 8) (hb : b + m ≤ cs.length) (hf : ¬ (b = 0 ∧ m = cs.length)) {h : Heap} (A : Arv Z h d k .byte (Int32.ofNat cs.length) (lo8s cs) (.int 0)) :
    Con l Z ELc n0 (⟨"java/lang/StringLatin1", "newString", "([BII)Ljava/lang/String;"⟩ : MethodName) jdk_43_method_47_code 3 (Option.some (FieldType.object "java/lang/String")) [] ({ frames := 3, cells := 3, slots := 12, locals := 76 } : Room) #[.ref d, .int (Int32.ofNat b), .int (Int32.ofNat m)] h [] (fun v h' sf' => ∃ s d k, v = some (.ref s) ∧ sf' = [] ∧ Ext h h' ∧ Exa Z h' s "java/lang/String" ∧ Fld Z h' s "java/lang/String" "coder" "B" (.int 0) ∧ Fld Z h' s "java/lang/String" "value" "[B" (.ref d) ∧ Arv Z h' d k .byte (Int32.ofNat ((cs.drop b).take m).length) (lo8s ((cs.drop b).take m)) (.int 0)) := by
  refine con_of (a0 := a0) (ls := #[.val (.ref d), .val (.int (Int32.ofNat b)), .val (.int (Int32.ofNat m))]) (plainFor_of_name (by decide +kernel)) hB.2.1 (fun m => by first | rfl | simp [entryFrame, mkF, argsToLocals, Value.category]) ?_
  show Go l Z a0 ELc n0 ({ frames := 3, cells := 3, slots := 12, locals := 76 } : Room) "java/lang/StringLatin1" jdk_43_method_47_code 3 (Option.some (FieldType.object "java/lang/String")) "newString" _ h [] 0 0 0 #[.val (.ref d), .val (.int (Int32.ofNat b)), .val (.int (Int32.ofNat m))] []
  refine go_iloadN d_b20_0 rfl rfl ?_
  by_cases hm0 : ((Int32.ofNat m) = 0 : Prop)
  · refine go_if_ne_f d_b20_1 rfl hm0 ?_
    refine go_ldcT (text := "") 0 0 [] d_b20_4 rfl (wd hB 92 rfl) (stA hB) (by decide) ⟨by decide, by decide⟩ (by decide) (by decide) (by decide) (by decide) (by decide) (by decide) ?_
    intro h101 a102 b104 k105 E103 F106 F107 F108 F109 F110
    refine go_retA d_b20_6 [] rfl rfl rfl rfl (by decide) (by decide) (fun _ q => nomatch q) ?_
    have m0 : m = 0 := by have := ofN_int (i := m) (by omega); rw [hm0] at this; have e0 : (0 : Int32).toInt = 0 := rfl; omega
    subst m0
    exact ⟨_, _, _, rfl, rfl, (ext_of_keep ((Keep.refl h []).ext E103)), F106, F107, F108, F109⟩
  · refine go_if_ne_t (pt := 7) d_b20_1 (by decide) (by decide) hm0 ?_
    refine go_new d_b20_7 rfl (wd hB 93 rfl) (wd hB 6 rfl) (wd hB 7 rfl) (by decide) (by decide) ?_
    intro h116 x111 hx112 E113 ⟨A114, D115⟩
    have F117 : Fld Z h116 x111 "java/lang/String" "value" "[B" .null := D115 (Or.inr (wd hB 20 rfl)) (ty := (.array .byte)) (by decide)
    have F118 : Fld Z h116 x111 "java/lang/String" "coder" "B" (.int 0) := D115 (Or.inr (wd hB 21 rfl)) (ty := .byte) (by decide)
    refine go_dup d_b20_10 rfl rfl ?_
    refine go_aloadN d_b20_11 rfl rfl rfl ?_
    refine go_iloadN d_b20_12 rfl rfl ?_
    refine go_iloadN d_b20_13 rfl rfl ?_
    refine go_iloadN d_b20_14 rfl rfl ?_
    refine go_iadd d_b20_15 rfl ?_
    rw [ofN_add]
    have F119 := (A.ext E113)
    refine go_static [(.ref d), (.int (Int32.ofNat b)), (.int (Int32.ofNat (b + m)))] [(.ref x111), (.ref x111)] 2 d_b20_16 rfl (wd hB 94 rfl) (wd hB 95 rfl) (wd hB 96 rfl) (wd hB 97 rfl) (c_cor hB cs hn b m hm hb hf F119) (fun _ q => nomatch q) (lenOf pd_11 rfl) rfl rfl rfl (by decide) (by decide) (by decide) (by decide) (by decide) (fun v120 h121 s122 q123 => ?_)
    obtain ⟨d124, k125, rfl, rfl, E126, g127, B128⟩ := q123
    show Go _ _ _ _ _ _ _ _ _ _ _ _ h121 [x111] 2 12 19 #[.val (.ref d), .val (.int (Int32.ofNat b)), .val (.int (Int32.ofNat m))] [(.ref d124), (.ref x111), (.ref x111)]
    refine go_iconst 0 d_b20_19 rfl (by decide) ?_
    have F129 := (Exa.ext E126 A114)
    have F130 := (Fld.ext E126 F117)
    have F131 := (Fld.ext E126 F118)
    refine go_special x111 [(.ref d124), (.int 0)] [(.ref x111)] 1 d_b20_20 rfl rfl (wd hB 112 rfl) (wd hB 113 rfl) (wd hB 7 rfl) (wd hB 114 rfl) (c_bb hB F129 F130 F131) (allS (List.Mem.head _) (fun _ q => nomatch q)) (lenOf pd_12 rfl) rfl rfl rfl (by decide) (by decide) (by decide) (by decide) (by decide) (fun v132 h133 s134 q135 => ?_)
    obtain ⟨rfl, rfl, K136, E137, F138, F139⟩ := q135
    show Go _ _ _ _ _ _ _ _ _ _ _ _ h133 [x111] 2 12 23 #[.val (.ref d), .val (.int (Int32.ofNat b)), .val (.int (Int32.ofNat m))] [(.ref x111)]
    have F140 := (B128.keep K136 (ninS (Ne.symm (Nat.ne_of_lt (Nat.lt_of_lt_of_le A114.lt g127))) nin0))
    refine go_retA d_b20_23 [] rfl rfl rfl rfl (by decide) (by decide) (fun _ q => nomatch q) ?_
    exact ⟨_, _, _, rfl, rfl, (ext_of_keep ((((Keep.refl h []).ext E113).ext E126).trans K136 (allS (Or.inr (Nat.le_of_eq hx112.symm)) all0))), E137, F138, F139, F140⟩
set_option maxRecDepth 65536 in
set_option maxHeartbeats 4000000 in
theorem c_sub {l : Launch} {Z : State} {a0 : Array Value} {n0 : Nat} (hB : Base Z a0) {s d : Addr} {k : ClassId} (cs : List Int32) (hn : cs.length ≤ 4000) (b m : Nat) (hm : m ≤ 8) (hb : b + m ≤ cs.length) {h : Heap} (E : Exa Z h s "java/lang/String") (C : Fld Z h s "java/lang/String" "coder" "B" (.int 0)) (V : Fld Z h s "java/lang/String" "value" "[B" (.ref d)) (A : Arv Z h d k .byte (Int32.ofNat cs.length) (lo8s cs) (.int 0)) :
    Con l Z ELc n0 (⟨"java/lang/String", "substring", "(II)Ljava/lang/String;"⟩ : MethodName) jdk_42_method_92_code 5 (Option.some (FieldType.object "java/lang/String")) [] ({ frames := 4, cells := 3, slots := 12, locals := 90 } : Room) #[.ref s, .int (Int32.ofNat b), .int (Int32.ofNat (b + m))] h [] (fun v h' sf' => ∃ s d k, v = some (.ref s) ∧ sf' = [] ∧ Ext h h' ∧ Exa Z h' s "java/lang/String" ∧ Fld Z h' s "java/lang/String" "coder" "B" (.int 0) ∧ Fld Z h' s "java/lang/String" "value" "[B" (.ref d) ∧ Arv Z h' d k .byte (Int32.ofNat ((cs.drop b).take m).length) (lo8s ((cs.drop b).take m)) (.int 0)) := by
  refine con_of (a0 := a0) (ls := #[.val (.ref s), .val (.int (Int32.ofNat b)), .val (.int (Int32.ofNat (b + m))), .unset, .unset]) (plainFor_of_name (by decide +kernel)) hB.2.1 (fun m => by first | rfl | simp [entryFrame, mkF, argsToLocals, Value.category]) ?_
  show Go l Z a0 ELc n0 ({ frames := 4, cells := 3, slots := 12, locals := 90 } : Room) "java/lang/String" jdk_42_method_92_code 5 (Option.some (FieldType.object "java/lang/String")) "substring" _ h [] 0 0 0 #[.val (.ref s), .val (.int (Int32.ofNat b)), .val (.int (Int32.ofNat (b + m))), .unset, .unset] []
  refine go_aloadN d_b8_0 rfl rfl rfl ?_
  refine go_virtual s [] [] 0 d_b8_1 rfl E (wd hB 46 rfl) (wd hB 31 rfl) (nf_of (wd hB 33 rfl)) (wd hB 33 rfl) (wd hB 32 rfl) (wd hB 7 rfl) (wd hB 34 rfl) (c_len hB cs hn E C V A) (fun _ q => nomatch q) (lenOf pd_13 rfl) rfl rfl rfl (by decide) (by decide) (by decide) (by decide) (by decide) (fun v101 h102 s103 q104 => ?_)
  obtain ⟨rfl, rfl, rfl⟩ := q104
  show Go _ _ _ _ _ _ _ _ _ _ _ _ h [] 0 0 4 #[.val (.ref s), .val (.int (Int32.ofNat b)), .val (.int (Int32.ofNat (b + m))), .unset, .unset] [(.int (Int32.ofNat cs.length))]
  refine go_istoreN d_b8_4 rfl #[.val (.ref s), .val (.int (Int32.ofNat b)), .val (.int (Int32.ofNat (b + m))), .val (.int (Int32.ofNat cs.length)), .unset] rfl ?_
  refine go_iloadN d_b8_5 rfl rfl ?_
  refine go_iloadN d_b8_6 rfl rfl ?_
  refine go_iloadN d_b8_7 rfl rfl ?_
  refine go_static [(.int (Int32.ofNat b)), (.int (Int32.ofNat (b + m))), (.int (Int32.ofNat cs.length))] [] 0 d_b8_8 rfl (wd hB 47 rfl) (wd hB 48 rfl) (wd hB 7 rfl) (wd hB 49 rfl) (c_cbe hB b (b + m) cs.length (by omega) hb hn) (fun _ q => nomatch q) (lenOf pd_14 rfl) rfl rfl rfl (by decide) (by decide) (by decide) (by decide) (by decide) (fun v105 h106 s107 q108 => ?_)
  obtain ⟨rfl, rfl, rfl⟩ := q108
  show Go _ _ _ _ _ _ _ _ _ _ _ _ h [] 0 0 11 #[.val (.ref s), .val (.int (Int32.ofNat b)), .val (.int (Int32.ofNat (b + m))), .val (.int (Int32.ofNat cs.length)), .unset] []
  refine go_iloadN d_b8_11 rfl rfl ?_
  by_cases hb0 : ((Int32.ofNat b) = 0 : Prop)
  · refine go_if_ne_f d_b8_12 rfl hb0 ?_
    refine go_iloadN d_b8_15 rfl rfl ?_
    refine go_iloadN d_b8_16 rfl rfl ?_
    by_cases hbe : ((Int32.ofNat (b + m)) = (Int32.ofNat cs.length) : Prop)
    · refine go_icmp_ne_f d_b8_17 rfl hbe ?_
      refine go_aloadN d_b8_20 rfl rfl rfl ?_
      refine go_retA d_b8_21 [] rfl rfl rfl rfl (by decide) (by decide) (fun _ q => nomatch q) ?_
      have b0 : b = 0 := by have := ofN_int (i := b) (by omega); rw [hb0] at this; have e0 : (0 : Int32).toInt = 0 := rfl; omega
      have m0 : m = cs.length := by have hbe := congrArg Int32.toInt hbe; rw [ofN_int (by omega), ofN_int (by omega)] at hbe; omega
      have es : (cs.drop b).take m = cs := by rw [b0, m0]; simp
      rw [es]
      exact ⟨_, _, _, rfl, rfl, ⟨Nat.le_refl _, fun _ _ q => q⟩, E, C, V, A⟩
    · refine go_icmp_ne_t (pt := 22) d_b8_17 (by decide) (by decide) hbe ?_
      refine go_iloadN d_b8_22 rfl rfl ?_
      refine go_iloadN d_b8_23 rfl rfl ?_
      refine go_isub d_b8_24 rfl ?_
      rw [ofN_sub (by omega) (by omega), Nat.add_sub_cancel_left]
      refine go_istore d_b8_25 rfl #[.val (.ref s), .val (.int (Int32.ofNat b)), .val (.int (Int32.ofNat (b + m))), .val (.int (Int32.ofNat cs.length)), .val (.int (Int32.ofNat m))] rfl ?_
      refine go_aloadN d_b8_27 rfl rfl rfl ?_
      refine go_virtual s [] [] 0 d_b8_28 rfl E (wd hB 74 rfl) (wd hB 75 rfl) (nf_of (wd hB 77 rfl)) (wd hB 77 rfl) (wd hB 76 rfl) (wd hB 7 rfl) (wd hB 78 rfl) (c_isl hB C) (fun _ q => nomatch q) (lenOf pd_7 rfl) rfl rfl rfl (by decide) (by decide) (by decide) (by decide) (by decide) (fun v109 h110 s111 q112 => ?_)
      obtain ⟨rfl, rfl, rfl⟩ := q112
      show Go _ _ _ _ _ _ _ _ _ _ _ _ h [] 0 0 31 #[.val (.ref s), .val (.int (Int32.ofNat b)), .val (.int (Int32.ofNat (b + m))), .val (.int (Int32.ofNat cs.length)), .val (.int (Int32.ofNat m))] [(.int 1)]
      refine go_if_eq_f d_b8_31 rfl (by decide) ?_
      refine go_aloadN d_b8_34 rfl rfl rfl ?_
      refine go_getfield d_b8_35 rfl (wd hB 24 rfl) Via.refl V ?_
      refine go_iloadN d_b8_38 rfl rfl ?_
      refine go_iload d_b8_39 rfl rfl ?_
      refine go_static [(.ref d), (.int (Int32.ofNat b)), (.int (Int32.ofNat m))] [] 0 d_b8_41 rfl (wd hB 89 rfl) (wd hB 90 rfl) (wd hB 81 rfl) (wd hB 91 rfl) (c_ns hB cs hn b m hm hb (fun q => hbe (by rw [q.1, q.2, Nat.zero_add])) A) (fun _ q => nomatch q) (lenOf pd_15 rfl) rfl rfl rfl (by decide) (by decide) (by decide) (by decide) (by decide) (fun v113 h114 s115 q116 => ?_)
      obtain ⟨s', d', k', rfl, rfl, q1, q2, q3, q4, q5⟩ := q116
      show Go _ _ _ _ _ _ _ _ _ _ _ _ h114 [] 3 12 44 #[.val (.ref s), .val (.int (Int32.ofNat b)), .val (.int (Int32.ofNat (b + m))), .val (.int (Int32.ofNat cs.length)), .val (.int (Int32.ofNat m))] [(.ref s')]
      refine go_goto (pt := 57) d_b8_44 (by decide) (by decide) ?_
      refine go_retA d_b8_57 [] rfl rfl rfl rfl (by decide) (by decide) (fun _ q => nomatch q) ?_
      exact ⟨_, _, _, rfl, rfl, q1, q2, q3, q4, q5⟩
  · refine go_if_ne_t (pt := 22) d_b8_12 (by decide) (by decide) hb0 ?_
    refine go_iloadN d_b8_22 rfl rfl ?_
    refine go_iloadN d_b8_23 rfl rfl ?_
    refine go_isub d_b8_24 rfl ?_
    rw [ofN_sub (by omega) (by omega), Nat.add_sub_cancel_left]
    refine go_istore d_b8_25 rfl #[.val (.ref s), .val (.int (Int32.ofNat b)), .val (.int (Int32.ofNat (b + m))), .val (.int (Int32.ofNat cs.length)), .val (.int (Int32.ofNat m))] rfl ?_
    refine go_aloadN d_b8_27 rfl rfl rfl ?_
    refine go_virtual s [] [] 0 d_b8_28 rfl E (wd hB 74 rfl) (wd hB 75 rfl) (nf_of (wd hB 77 rfl)) (wd hB 77 rfl) (wd hB 76 rfl) (wd hB 7 rfl) (wd hB 78 rfl) (c_isl hB C) (fun _ q => nomatch q) (lenOf pd_7 rfl) rfl rfl rfl (by decide) (by decide) (by decide) (by decide) (by decide) (fun v117 h118 s119 q120 => ?_)
    obtain ⟨rfl, rfl, rfl⟩ := q120
    show Go _ _ _ _ _ _ _ _ _ _ _ _ h [] 0 0 31 #[.val (.ref s), .val (.int (Int32.ofNat b)), .val (.int (Int32.ofNat (b + m))), .val (.int (Int32.ofNat cs.length)), .val (.int (Int32.ofNat m))] [(.int 1)]
    refine go_if_eq_f d_b8_31 rfl (by decide) ?_
    refine go_aloadN d_b8_34 rfl rfl rfl ?_
    refine go_getfield d_b8_35 rfl (wd hB 24 rfl) Via.refl V ?_
    refine go_iloadN d_b8_38 rfl rfl ?_
    refine go_iload d_b8_39 rfl rfl ?_
    refine go_static [(.ref d), (.int (Int32.ofNat b)), (.int (Int32.ofNat m))] [] 0 d_b8_41 rfl (wd hB 89 rfl) (wd hB 90 rfl) (wd hB 81 rfl) (wd hB 91 rfl) (c_ns hB cs hn b m hm hb (fun q => hb0 (by rw [q.1]; rfl)) A) (fun _ q => nomatch q) (lenOf pd_15 rfl) rfl rfl rfl (by decide) (by decide) (by decide) (by decide) (by decide) (fun v121 h122 s123 q124 => ?_)
    obtain ⟨s', d', k', rfl, rfl, q1, q2, q3, q4, q5⟩ := q124
    show Go _ _ _ _ _ _ _ _ _ _ _ _ h122 [] 3 12 44 #[.val (.ref s), .val (.int (Int32.ofNat b)), .val (.int (Int32.ofNat (b + m))), .val (.int (Int32.ofNat cs.length)), .val (.int (Int32.ofNat m))] [(.ref s')]
    refine go_goto (pt := 57) d_b8_44 (by decide) (by decide) ?_
    refine go_retA d_b8_57 [] rfl rfl rfl rfl (by decide) (by decide) (fun _ q => nomatch q) ?_
    exact ⟨_, _, _, rfl, rfl, q1, q2, q3, q4, q5⟩
set_option maxRecDepth 65536 in
set_option maxHeartbeats 4000000 in
theorem c_sub0 {l : Launch} {Z : State} {a0 : Array Value} {n0 : Nat} (hB : Base Z a0) {s d : Addr} {k : ClassId} (cs : List Int32) (hn : cs.length ≤ 4000) (m : Nat) (hm : m ≤ 8) (hb : m ≤ cs.length) {h : Heap} (E : Exa Z h s "java/lang/String") (C : Fld Z h s "java/lang/String" "coder" "B" (.int 0)) (V : Fld Z h s "java/lang/String" "value" "[B" (.ref d)) (A : Arv Z h d k .byte (Int32.ofNat cs.length) (lo8s cs) (.int 0)) :
    Con l Z ELc n0 (⟨"java/lang/String", "substring", "(II)Ljava/lang/String;"⟩ : MethodName) jdk_42_method_92_code 5 (Option.some (FieldType.object "java/lang/String")) [] ({ frames := 4, cells := 3, slots := 12, locals := 90 } : Room) #[.ref s, .int 0, .int (Int32.ofNat m)] h [] (fun v h' sf' => ∃ s d k, v = some (.ref s) ∧ sf' = [] ∧ Ext h h' ∧ Exa Z h' s "java/lang/String" ∧ Fld Z h' s "java/lang/String" "coder" "B" (.int 0) ∧ Fld Z h' s "java/lang/String" "value" "[B" (.ref d) ∧ Arv Z h' d k .byte (Int32.ofNat (cs.take m).length) (lo8s (cs.take m)) (.int 0)) := by
  have := c_sub (l := l) (n0 := n0) hB cs hn 0 m hm (by omega) E C V A
  rw [Nat.zero_add] at this
  exact this
set_option maxRecDepth 65536 in
set_option maxHeartbeats 4000000 in
theorem c_ch {l : Launch} {Z : State} {a0 : Array Value} {n0 : Nat} (hB : Base Z a0) (x : Int32) {h : Heap} :
    Con l Z ELc n0 (⟨"com/example/puffin/puffin/conversion/StoredFormUnpaddedPinLaw", "ch", "(I)C"⟩ : MethodName) method_2_code 1 (Option.some FieldType.char) [] ({ frames := 0, cells := 0, slots := 0, locals := 0 } : Room) #[.int x] h [] (fun v h' sf' => ∃ c, isC c ∧ v = some (.int c) ∧ sf' = [] ∧ h = h') := by
  refine con_of (a0 := a0) (ls := #[.val (.int x)]) (plainFor_of_name (by decide +kernel)) hB.2.1 (fun m => by first | rfl | simp [entryFrame, mkF, argsToLocals, Value.category]) ?_
  show Go l Z a0 ELc n0 ({ frames := 0, cells := 0, slots := 0, locals := 0 } : Room) "com/example/puffin/puffin/conversion/StoredFormUnpaddedPinLaw" method_2_code 1 (Option.some FieldType.char) "ch" _ h [] 0 0 0 #[.val (.int x)] []
  refine go_iloadN d_b1_0 rfl rfl ?_
  refine go_bipush 8 d_b1_1 rfl (by decide) ?_
  refine go_iushr d_b1_3 rfl ?_
  refine go_iconst 1 d_b1_4 rfl (by decide) ?_
  refine go_iand d_b1_5 rfl ?_
  by_cases q : (((XT.ushr x 8) &&& 1) = 0 : Prop)
  · refine go_if_ne_f d_b1_6 rfl q ?_
    refine go_bipush 32 d_b1_9 rfl (by decide) ?_
    refine go_retN (t := .char) d_b1_11 [] rfl (by simp) (by decide) (by decide) (fun _ q => nomatch q) ?_
    exact ⟨32, ⟨by decide, by decide⟩, by decide, rfl, rfl⟩
  · refine go_if_ne_t (pt := 12) d_b1_6 (by decide) (by decide) q ?_
    refine go_iloadN d_b1_12 rfl rfl ?_
    refine go_sipush 255 d_b1_13 rfl (by decide) ?_
    refine go_iand d_b1_16 rfl ?_
    refine go_i2c d_b1_17 rfl ?_
    refine go_retN (t := .char) d_b1_18 [] rfl (by simp) (by decide) (by decide) (fun _ q => nomatch q) ?_
    rw [i2c_mask]
    exact ⟨_, isC_and x, by rw [(isC_and x).nar], rfl, rfl⟩
set_option maxRecDepth 65536 in
set_option maxHeartbeats 4000000 in
theorem un_loop {l : Launch} {Z : State} {a0 : Array Value} {n0 : Nat} (hB : Base Z a0) {s d : Addr} {k : ClassId} (cs : List Int32) (hn : cs.length ≤ 8) (hC : ∀ c ∈ cs, isC c) {h : Heap} (E : Exa Z h s "java/lang/String") (C : Fld Z h s "java/lang/String" "coder" "B" (.int 0)) (V : Fld Z h s "java/lang/String" "value" "[B" (.ref d)) (A : Arv Z h d k .byte (Int32.ofNat cs.length) (lo8s cs) (.int 0)) :
    ∀ (i : Nat), i ≤ cs.length → (∀ j, i ≤ j → j < cs.length → cs[j]? = some 32) → Go l Z a0 ELc n0 ({ frames := 5, cells := 3, slots := 12, locals := 106 } : Room) "com/example/puffin/puffin/conversion/StoredForm" prog_30_method_5_code 2 (Option.some (FieldType.object "java/lang/String")) "unpadded" (fun v h' sf' => ∃ s' d' k' m, v = some (.ref s') ∧ sf' = [] ∧ Ext h h' ∧ m ≤ cs.length ∧ (∀ j, m ≤ j → j < cs.length → cs[j]? = some 32) ∧ (m = 0 ∨ ∃ c, cs[m - 1]? = some c ∧ ¬ c = 32) ∧ Exa Z h' s' "java/lang/String" ∧ Fld Z h' s' "java/lang/String" "coder" "B" (.int 0) ∧ Fld Z h' s' "java/lang/String" "value" "[B" (.ref d') ∧ Arv Z h' d' k' .byte (Int32.ofNat (cs.take m).length) (lo8s (cs.take m)) (.int 0)) h [] 0 0 5 #[.val (.ref s), .val (.int (Int32.ofNat i))] [] := by
  intro i
  induction i with
  | zero =>
    intro hi hsp
    refine go_iloadN d_b5_5 rfl rfl ?_
    refine go_if_le_t (pt := 27) d_b5_6 (by decide) (by decide) (by decide) ?_
    refine go_aloadN d_b5_27 rfl rfl rfl ?_
    refine go_iconst 0 d_b5_28 rfl (by decide) ?_
    refine go_iloadN d_b5_29 rfl rfl ?_
    refine go_virtual s [(.int 0), (.int (Int32.ofNat 0))] [] 0 d_b5_30 rfl E (wd hB 41 rfl) (wd hB 42 rfl) (nf_of (wd hB 44 rfl)) (wd hB 44 rfl) (wd hB 43 rfl) (wd hB 7 rfl) (wd hB 45 rfl) (c_sub0 hB cs (by omega) 0 (by omega) (by omega) E C V A) (fun _ q => nomatch q) (lenOf pd_16 rfl) rfl rfl rfl (by decide) (by decide) (by decide) (by decide) (by decide) (fun v101 h102 s103 q104 => ?_)
    obtain ⟨s', d', k', rfl, rfl, q1, q2, q3, q4, q5⟩ := q104
    show Go _ _ _ _ _ _ _ _ _ _ _ _ h102 [] 3 12 33 #[.val (.ref s), .val (.int (Int32.ofNat 0))] [(.ref s')]
    refine go_retA d_b5_33 [] rfl rfl rfl rfl (by decide) (by decide) (fun _ q => nomatch q) ?_
    exact ⟨_, _, _, 0, rfl, rfl, q1, by omega, hsp, Or.inl rfl, q2, q3, q4, q5⟩
  | succ i ih =>
    intro hi hsp
    obtain ⟨c, hci, hcm⟩ := at_of (cs := cs) (i := i) (by omega)
    refine go_iloadN d_b5_5 rfl rfl ?_
    refine go_if_le_f d_b5_6 rfl (by rw [Int32.lt_iff_toInt_lt, ofN_int (by omega)]; show (0 : Int) < _; omega) ?_
    refine go_aloadN d_b5_9 rfl rfl rfl ?_
    refine go_iloadN d_b5_10 rfl rfl ?_
    refine go_iconst 1 d_b5_11 rfl (by decide) ?_
    refine go_isub d_b5_12 rfl ?_
    rw [show (1 : Int32) = Int32.ofNat 1 from rfl, ofN_sub (by omega) (by omega), Nat.add_sub_cancel]
    refine go_virtual s [(.int (Int32.ofNat i))] [] 0 d_b5_13 rfl E (wd hB 69 rfl) (wd hB 70 rfl) (nf_of (wd hB 72 rfl)) (wd hB 72 rfl) (wd hB 71 rfl) (wd hB 7 rfl) (wd hB 73 rfl) (c_char hB cs (by omega) i c hci (hC c hcm) E C V A) (fun _ q => nomatch q) (lenOf pd_17 rfl) rfl rfl rfl (by decide) (by decide) (by decide) (by decide) (by decide) (fun v101 h102 s103 q104 => ?_)
    obtain ⟨rfl, rfl, rfl⟩ := q104
    show Go _ _ _ _ _ _ _ _ _ _ _ _ h [] 0 0 16 #[.val (.ref s), .val (.int (Int32.ofNat (i + 1)))] [(.int c)]
    refine go_bipush 32 d_b5_16 rfl (by decide) ?_
    by_cases hc32 : (c = 32 : Prop)
    · refine go_icmp_ne_f d_b5_18 rfl hc32 ?_
      refine go_iinc (-1) d_b5_21 rfl #[.val (.ref s), .val (.int ((Int32.ofNat (i + 1)) + (-1)))] (by decide) rfl rfl ?_
      refine go_goto (pt := 5) d_b5_24 (by decide) (by decide) ?_
      rw [show Int32.ofNat (i + 1) + (-1) = Int32.ofNat i from by rw [← ofN_succ, Int32.add_assoc]; show Int32.ofNat i + (1 + (-1)) = _; rw [show (1 : Int32) + (-1) = 0 from by decide, Int32.add_zero]]
      exact ih (by omega) (fun j h1 h2 => if e : j = i then by rw [e, hci, hc32] else hsp j (by omega) h2)
    · refine go_icmp_ne_t (pt := 27) d_b5_18 (by decide) (by decide) hc32 ?_
      refine go_aloadN d_b5_27 rfl rfl rfl ?_
      refine go_iconst 0 d_b5_28 rfl (by decide) ?_
      refine go_iloadN d_b5_29 rfl rfl ?_
      refine go_virtual s [(.int 0), (.int (Int32.ofNat (i + 1)))] [] 0 d_b5_30 rfl E (wd hB 41 rfl) (wd hB 42 rfl) (nf_of (wd hB 44 rfl)) (wd hB 44 rfl) (wd hB 43 rfl) (wd hB 7 rfl) (wd hB 45 rfl) (c_sub0 hB cs (by omega) (i + 1) (by omega) (by omega) E C V A) (fun _ q => nomatch q) (lenOf pd_16 rfl) rfl rfl rfl (by decide) (by decide) (by decide) (by decide) (by decide) (fun v105 h106 s107 q108 => ?_)
      obtain ⟨s', d', k', rfl, rfl, q1, q2, q3, q4, q5⟩ := q108
      show Go _ _ _ _ _ _ _ _ _ _ _ _ h106 [] 3 12 33 #[.val (.ref s), .val (.int (Int32.ofNat (i + 1)))] [(.ref s')]
      refine go_retA d_b5_33 [] rfl rfl rfl rfl (by decide) (by decide) (fun _ q => nomatch q) ?_
      exact ⟨_, _, _, i + 1, rfl, rfl, q1, by omega, hsp, Or.inr ⟨c, hci, hc32⟩, q2, q3, q4, q5⟩
set_option maxRecDepth 65536 in
set_option maxHeartbeats 4000000 in
theorem c_un {l : Launch} {Z : State} {a0 : Array Value} {n0 : Nat} (hB : Base Z a0) {s d : Addr} {k : ClassId} (cs : List Int32) (hn : cs.length ≤ 8) (hC : ∀ c ∈ cs, isC c) {h : Heap} (E : Exa Z h s "java/lang/String") (C : Fld Z h s "java/lang/String" "coder" "B" (.int 0)) (V : Fld Z h s "java/lang/String" "value" "[B" (.ref d)) (A : Arv Z h d k .byte (Int32.ofNat cs.length) (lo8s cs) (.int 0)) :
    Con l Z ELc n0 (⟨"com/example/puffin/puffin/conversion/StoredForm", "unpadded", "(Ljava/lang/String;)Ljava/lang/String;"⟩ : MethodName) prog_30_method_5_code 2 (Option.some (FieldType.object "java/lang/String")) [] ({ frames := 5, cells := 3, slots := 12, locals := 106 } : Room) #[.ref s] h [] (fun v h' sf' => ∃ s' d' k' m, v = some (.ref s') ∧ sf' = [] ∧ Ext h h' ∧ m ≤ cs.length ∧ (∀ j, m ≤ j → j < cs.length → cs[j]? = some 32) ∧ (m = 0 ∨ ∃ c, cs[m - 1]? = some c ∧ ¬ c = 32) ∧ Exa Z h' s' "java/lang/String" ∧ Fld Z h' s' "java/lang/String" "coder" "B" (.int 0) ∧ Fld Z h' s' "java/lang/String" "value" "[B" (.ref d') ∧ Arv Z h' d' k' .byte (Int32.ofNat (cs.take m).length) (lo8s (cs.take m)) (.int 0)) := by
  refine con_of (a0 := a0) (ls := #[.val (.ref s), .unset]) (plainFor_of_name (by decide +kernel)) hB.2.1 (fun m => by first | rfl | simp [entryFrame, mkF, argsToLocals, Value.category]) ?_
  show Go l Z a0 ELc n0 ({ frames := 5, cells := 3, slots := 12, locals := 106 } : Room) "com/example/puffin/puffin/conversion/StoredForm" prog_30_method_5_code 2 (Option.some (FieldType.object "java/lang/String")) "unpadded" _ h [] 0 0 0 #[.val (.ref s), .unset] []
  refine go_aloadN d_b5_0 rfl rfl rfl ?_
  refine go_virtual s [] [] 0 d_b5_1 rfl E (wd hB 30 rfl) (wd hB 31 rfl) (nf_of (wd hB 33 rfl)) (wd hB 33 rfl) (wd hB 32 rfl) (wd hB 7 rfl) (wd hB 34 rfl) (c_len hB cs (by omega) E C V A) (fun _ q => nomatch q) (lenOf pd_13 rfl) rfl rfl rfl (by decide) (by decide) (by decide) (by decide) (by decide) (fun v101 h102 s103 q104 => ?_)
  obtain ⟨rfl, rfl, rfl⟩ := q104
  show Go _ _ _ _ _ _ _ _ _ _ _ _ h [] 0 0 4 #[.val (.ref s), .unset] [(.int (Int32.ofNat cs.length))]
  refine go_istoreN d_b5_4 rfl #[.val (.ref s), .val (.int (Int32.ofNat cs.length))] rfl ?_
  exact un_loop hB cs hn hC E C V A cs.length (Nat.le_refl _) (fun j h1 h2 => by omega)
set_option maxRecDepth 65536 in
set_option maxHeartbeats 4000000 in
theorem c_at {l : Launch} {Z : State} {a0 : Array Value} {n0 : Nat} (hB : Base Z a0) {s d a : Addr} {k ka : ClassId} (cs : List Int32) (hn : cs.length = 4) (hC : ∀ c ∈ cs, isC c) (m L i : Nat) (hm : m ≤ L) (hL : L ≤ 4) (hi : i < 4) (hsp : ∀ j, m ≤ j → j < L → cs[j]? = some 32) {h : Heap} (E : Exa Z h s "java/lang/String") (C : Fld Z h s "java/lang/String" "coder" "B" (.int 0)) (V : Fld Z h s "java/lang/String" "value" "[B" (.ref d)) (A : Arv Z h d k .byte (Int32.ofNat (cs.take m).length) (lo8s (cs.take m)) (.int 0)) (Ba : Arv Z h a ka .char 4 (cs.map Value.int) (.int 0)) :
    Con l Z ELc n0 (⟨"com/example/puffin/puffin/conversion/StoredFormUnpaddedPinLaw", "at", "(Ljava/lang/String;II[CI)Z"⟩ : MethodName) method_3_code 5 (Option.some FieldType.boolean) [] ({ frames := 4, cells := 0, slots := 0, locals := 53 } : Room) #[.ref s, .int (Int32.ofNat m), .int (Int32.ofNat L), .ref a, .int (Int32.ofNat i)] h [] (fun v h' sf' => v = some (.int 1) ∧ sf' = [] ∧ h = h') := by
  refine con_of (a0 := a0) (ls := #[.val (.ref s), .val (.int (Int32.ofNat m)), .val (.int (Int32.ofNat L)), .val (.ref a), .val (.int (Int32.ofNat i))]) (plainFor_of_name (by decide +kernel)) hB.2.1 (fun m => by first | rfl | simp [entryFrame, mkF, argsToLocals, Value.category]) ?_
  show Go l Z a0 ELc n0 ({ frames := 4, cells := 0, slots := 0, locals := 53 } : Room) "com/example/puffin/puffin/conversion/StoredFormUnpaddedPinLaw" method_3_code 5 (Option.some FieldType.boolean) "at" _ h [] 0 0 0 #[.val (.ref s), .val (.int (Int32.ofNat m)), .val (.int (Int32.ofNat L)), .val (.ref a), .val (.int (Int32.ofNat i))] []
  obtain ⟨c, hci, hcm⟩ := at_of (cs := cs) (i := i) (by omega)
  have f4 : (4 : Int32) = Int32.ofNat 4 := rfl
  by_cases h1 : L ≤ i
  · skip
    show Go _ _ _ _ _ _ _ _ _ _ _ _ h [] 0 0 0 #[.val (.ref s), .val (.int (Int32.ofNat m)), .val (.int (Int32.ofNat L)), .val (.ref a), .val (.int (Int32.ofNat i))] []
    refine go_iload d_b11_0 rfl rfl ?_
    refine go_iloadN d_b11_2 rfl rfl ?_
    refine go_icmp_lt_f d_b11_3 rfl (ofN_nlt h1 (by omega)) ?_
    refine go_iconst 1 d_b11_6 rfl (by decide) ?_
    refine go_retN (t := .boolean) d_b11_7 [] rfl (by simp) (by decide) (by decide) (fun _ q => nomatch q) ?_
    exact ⟨by decide, rfl, rfl⟩
  · by_cases h2 : i < m
    · skip
      show Go _ _ _ _ _ _ _ _ _ _ _ _ h [] 0 0 0 #[.val (.ref s), .val (.int (Int32.ofNat m)), .val (.int (Int32.ofNat L)), .val (.ref a), .val (.int (Int32.ofNat i))] []
      refine go_iload d_b11_0 rfl rfl ?_
      refine go_iloadN d_b11_2 rfl rfl ?_
      refine go_icmp_lt_t (pt := 8) d_b11_3 (by decide) (by decide) (ofN_lt (by omega) (by omega)) ?_
      refine go_iload d_b11_8 rfl rfl ?_
      refine go_iloadN d_b11_10 rfl rfl ?_
      refine go_icmp_ge_f d_b11_11 rfl (ofN_lt (by omega) (by omega)) ?_
      refine go_aloadN d_b11_14 rfl rfl rfl ?_
      refine go_iload d_b11_15 rfl rfl ?_
      refine go_virtual s [(.int (Int32.ofNat i))] [] 0 d_b11_17 rfl E (wd hB 115 rfl) (wd hB 70 rfl) (nf_of (wd hB 72 rfl)) (wd hB 72 rfl) (wd hB 71 rfl) (wd hB 7 rfl) (wd hB 73 rfl) (c_char hB (cs.take m) (by simp; omega) i c (by rw [List.getElem?_take, if_pos (by omega)]; exact hci) (hC c hcm) E C V A) (fun _ q => nomatch q) (lenOf pd_17 rfl) rfl rfl rfl (by decide) (by decide) (by decide) (by decide) (by decide) (fun v101 h102 s103 q104 => ?_)
      obtain ⟨rfl, rfl, rfl⟩ := q104
      show Go _ _ _ _ _ _ _ _ _ _ _ _ h [] 0 0 20 #[.val (.ref s), .val (.int (Int32.ofNat m)), .val (.int (Int32.ofNat L)), .val (.ref a), .val (.int (Int32.ofNat i))] [(.int c)]
      refine go_aloadN d_b11_20 rfl rfl rfl ?_
      refine go_iload d_b11_21 rfl rfl ?_
      refine go_caload (v := (.int c)) i d_b11_23 rfl Ba ⟨ofN_nneg (by omega), by rw [f4]; exact ofN_lt (by omega) (by omega)⟩ (ofN_cl (by omega)) (map_at hci) ?_
      refine go_icmp_ne_f d_b11_24 rfl rfl ?_
      refine go_iconst 1 d_b11_27 rfl (by decide) ?_
      refine go_goto (pt := 32) d_b11_28 (by decide) (by decide) ?_
      refine go_retN (t := .boolean) d_b11_32 [] rfl (by simp) (by decide) (by decide) (fun _ q => nomatch q) ?_
      exact ⟨by decide, rfl, rfl⟩
    · skip
      show Go _ _ _ _ _ _ _ _ _ _ _ _ h [] 0 0 0 #[.val (.ref s), .val (.int (Int32.ofNat m)), .val (.int (Int32.ofNat L)), .val (.ref a), .val (.int (Int32.ofNat i))] []
      refine go_iload d_b11_0 rfl rfl ?_
      refine go_iloadN d_b11_2 rfl rfl ?_
      refine go_icmp_lt_t (pt := 8) d_b11_3 (by decide) (by decide) (ofN_lt (by omega) (by omega)) ?_
      refine go_iload d_b11_8 rfl rfl ?_
      refine go_iloadN d_b11_10 rfl rfl ?_
      refine go_icmp_ge_t (pt := 33) d_b11_11 (by decide) (by decide) (ofN_nlt (by omega) (by omega)) ?_
      refine go_aloadN d_b11_33 rfl rfl rfl ?_
      refine go_iload d_b11_34 rfl rfl ?_
      refine go_caload (v := (.int c)) i d_b11_36 rfl Ba ⟨ofN_nneg (by omega), by rw [f4]; exact ofN_lt (by omega) (by omega)⟩ (ofN_cl (by omega)) (map_at hci) ?_
      refine go_bipush 32 d_b11_37 rfl (by decide) ?_
      refine go_icmp_ne_f d_b11_39 rfl (by have := hsp i (by omega) (by omega); rw [hci] at this; exact Option.some.inj this) ?_
      refine go_iconst 1 d_b11_42 rfl (by decide) ?_
      refine go_goto (pt := 47) d_b11_43 (by decide) (by decide) ?_
      refine go_retN (t := .boolean) d_b11_47 [] rfl (by simp) (by decide) (by decide) (fun _ q => nomatch q) ?_
      exact ⟨by decide, rfl, rfl⟩
theorem dropx : True := trivial
set_option maxRecDepth 65536 in
set_option maxHeartbeats 4000000 in
theorem law_tail {l : Launch} {Z : State} {a0 : Array Value} {n0 : Nat} (hB : Base Z a0) (p0 p1 p2 p3 p4 : Int32) {s d a t : Addr} {k ka : ClassId} (cs : List Int32) (hn : cs.length = 4) (hC : ∀ c ∈ cs, isC c) (L : Nat) (hL : L ≤ 4) {h : Heap} (E : Exa Z h s "java/lang/String") (C : Fld Z h s "java/lang/String" "coder" "B" (.int 0)) (V : Fld Z h s "java/lang/String" "value" "[B" (.ref d)) (A : Arv Z h d k .byte (Int32.ofNat (cs.take L).length) (lo8s (cs.take L)) (.int 0)) (Ba : Arv Z h a ka .char 4 (cs.map Value.int) (.int 0)) :
    Go l Z a0 ELc n0 room_1 "com/example/puffin/puffin/conversion/StoredFormUnpaddedPinLaw" code maxLocals ret "law" (fun v h' sf' => v = some (.int 1)) h [] 7 40 181 #[.val (.int p0), .val (.int p1), .val (.int p2), .val (.int p3), .val (.int p4), .val (.int (Int32.ofNat L)), .val (.ref a), .val (.ref t), .unset, .unset, .unset] [(.ref s)] := by
  have f4 : (4 : Int32) = Int32.ofNat 4 := rfl
  have hlen : (cs.take L).length = L := by simp; omega
  have hC' : ∀ c ∈ cs.take L, isC c := fun c q => hC c (List.mem_of_mem_take q)
  refine go_static [(.ref s)] [] 0 at_181 rfl (wd hB 26 rfl) (wd hB 27 rfl) (wd hB 28 rfl) (wd hB 29 rfl) (c_un hB (cs.take L) (by omega) hC' E C V A) (fun _ q => nomatch q) (lenOf pd_18 rfl) rfl rfl rfl (by decide) (by decide) (by decide) (by decide) (by decide) (fun v101 h102 s103 q104 => ?_)
  obtain ⟨s', d', k', m, rfl, rfl, E', hm, hsp, hlast, F1, F2, F3, F4⟩ := q104
  rw [hlen] at hm hsp
  rw [List.take_take, Nat.min_eq_left hm] at F4
  have hsp' : ∀ j, m ≤ j → j < L → cs[j]? = some 32 := fun j a1 a2 => by have := hsp j a1 a2; rw [List.getElem?_take, if_pos a2] at this; exact this
  have hl2 : m = 0 ∨ ∃ c, cs[m - 1]? = some c ∧ ¬ c = 32 := hlast.imp id fun ⟨c, a1, a2⟩ => by
      by_cases h0 : m = 0
      · rw [h0] at a1; rw [List.getElem?_take] at a1; split at a1
        · exact ⟨c, by rw [h0]; exact a1, a2⟩
        · cases a1
      · exact ⟨c, by rw [List.getElem?_take, if_pos (by omega)] at a1; exact a1, a2⟩
  show Go _ _ _ _ _ _ _ _ _ _ _ _ h102 [] 10 52 184 #[.val (.int p0), .val (.int p1), .val (.int p2), .val (.int p3), .val (.int p4), .val (.int (Int32.ofNat L)), .val (.ref a), .val (.ref t), .unset, .unset, .unset] [(.ref s')]
  refine go_astore at_184 rfl #[.val (.int p0), .val (.int p1), .val (.int p2), .val (.int p3), .val (.int p4), .val (.int (Int32.ofNat L)), .val (.ref a), .val (.ref t), .val (.ref s'), .unset, .unset] rfl rfl ?_
  refine go_aload at_186 rfl rfl rfl ?_
  refine go_ifnonnull_t (pt := 193) at_188 (by decide) (by decide) ?_
  refine go_aload at_193 rfl rfl rfl ?_
  refine go_virtual s' [] [] 0 at_195 rfl F1 (wd hB 55 rfl) (wd hB 31 rfl) (nf_of (wd hB 33 rfl)) (wd hB 33 rfl) (wd hB 32 rfl) (wd hB 7 rfl) (wd hB 34 rfl) (c_len hB (cs.take m) (by simp; omega) F1 F2 F3 F4) (fun _ q => nomatch q) (lenOf pd_13 rfl) rfl rfl rfl (by decide) (by decide) (by decide) (by decide) (by decide) (fun v105 h106 s107 q108 => ?_)
  obtain ⟨rfl, rfl, rfl⟩ := q108
  show Go _ _ _ _ _ _ _ _ _ _ _ _ h102 [] 10 52 198 #[.val (.int p0), .val (.int p1), .val (.int p2), .val (.int p3), .val (.int p4), .val (.int (Int32.ofNat L)), .val (.ref a), .val (.ref t), .val (.ref s'), .unset, .unset] [(.int (Int32.ofNat ((cs.take m).length)))]
  rw [show (cs.take m).length = m from by simp; omega]
  refine go_istore at_198 rfl #[.val (.int p0), .val (.int p1), .val (.int p2), .val (.int p3), .val (.int p4), .val (.int (Int32.ofNat L)), .val (.ref a), .val (.ref t), .val (.ref s'), .val (.int (Int32.ofNat m)), .unset] rfl ?_
  refine go_iload at_200 rfl rfl ?_
  refine go_iload at_202 rfl rfl ?_
  refine go_icmp_le_t (pt := 209) at_204 (by decide) (by decide) (ofN_nlt hm (by omega)) ?_
  refine go_iload at_209 rfl rfl ?_
  by_cases hm0 : ((Int32.ofNat m) = 0 : Prop)
  · refine go_if_eq_t (pt := 226) at_211 (by decide) (by decide) hm0 ?_
    refine go_iconst 1 at_226 rfl (by decide) ?_
    refine go_goto (pt := 231) at_227 (by decide) (by decide) ?_
    refine go_istore at_231 rfl #[.val (.int p0), .val (.int p1), .val (.int p2), .val (.int p3), .val (.int p4), .val (.int (Int32.ofNat L)), .val (.ref a), .val (.ref t), .val (.ref s'), .val (.int (Int32.ofNat m)), .val (.int 1)] rfl ?_
    refine go_iload at_233 rfl rfl ?_
    refine go_if_eq_f at_235 rfl (by decide) ?_
    refine go_aload at_238 rfl rfl rfl ?_
    refine go_iload at_240 rfl rfl ?_
    refine go_iload at_242 rfl rfl ?_
    refine go_aload at_244 rfl rfl rfl ?_
    refine go_iconst 0 at_246 rfl (by decide) ?_
    have F109 := (Ba.ext E')
    refine go_static [(.ref s'), (.int (Int32.ofNat m)), (.int (Int32.ofNat L)), (.ref a), (.int 0)] [] 0 at_247 rfl (wd hB 56 rfl) (wd hB 57 rfl) (wd hB 3 rfl) (wd hB 58 rfl) (c_at hB cs hn hC m L 0 hm hL (by omega) hsp' F1 F2 F3 F4 F109) (fun _ q => nomatch q) (lenOf pd_19 rfl) rfl rfl rfl (by decide) (by decide) (by decide) (by decide) (by decide) (fun v110 h111 s112 q113 => ?_)
    obtain ⟨rfl, rfl, rfl⟩ := q113
    show Go _ _ _ _ _ _ _ _ _ _ _ _ h102 [] 10 52 250 #[.val (.int p0), .val (.int p1), .val (.int p2), .val (.int p3), .val (.int p4), .val (.int (Int32.ofNat L)), .val (.ref a), .val (.ref t), .val (.ref s'), .val (.int (Int32.ofNat m)), .val (.int 1)] [(.int 1)]
    refine go_if_eq_f at_250 rfl (by decide) ?_
    refine go_aload at_253 rfl rfl rfl ?_
    refine go_iload at_255 rfl rfl ?_
    refine go_iload at_257 rfl rfl ?_
    refine go_aload at_259 rfl rfl rfl ?_
    refine go_iconst 1 at_261 rfl (by decide) ?_
    refine go_static [(.ref s'), (.int (Int32.ofNat m)), (.int (Int32.ofNat L)), (.ref a), (.int 1)] [] 0 at_262 rfl (wd hB 56 rfl) (wd hB 57 rfl) (wd hB 3 rfl) (wd hB 58 rfl) (c_at hB cs hn hC m L 1 hm hL (by omega) hsp' F1 F2 F3 F4 F109) (fun _ q => nomatch q) (lenOf pd_19 rfl) rfl rfl rfl (by decide) (by decide) (by decide) (by decide) (by decide) (fun v114 h115 s116 q117 => ?_)
    obtain ⟨rfl, rfl, rfl⟩ := q117
    show Go _ _ _ _ _ _ _ _ _ _ _ _ h102 [] 10 52 265 #[.val (.int p0), .val (.int p1), .val (.int p2), .val (.int p3), .val (.int p4), .val (.int (Int32.ofNat L)), .val (.ref a), .val (.ref t), .val (.ref s'), .val (.int (Int32.ofNat m)), .val (.int 1)] [(.int 1)]
    refine go_if_eq_f at_265 rfl (by decide) ?_
    refine go_aload at_268 rfl rfl rfl ?_
    refine go_iload at_270 rfl rfl ?_
    refine go_iload at_272 rfl rfl ?_
    refine go_aload at_274 rfl rfl rfl ?_
    refine go_iconst 2 at_276 rfl (by decide) ?_
    refine go_static [(.ref s'), (.int (Int32.ofNat m)), (.int (Int32.ofNat L)), (.ref a), (.int 2)] [] 0 at_277 rfl (wd hB 56 rfl) (wd hB 57 rfl) (wd hB 3 rfl) (wd hB 58 rfl) (c_at hB cs hn hC m L 2 hm hL (by omega) hsp' F1 F2 F3 F4 F109) (fun _ q => nomatch q) (lenOf pd_19 rfl) rfl rfl rfl (by decide) (by decide) (by decide) (by decide) (by decide) (fun v118 h119 s120 q121 => ?_)
    obtain ⟨rfl, rfl, rfl⟩ := q121
    show Go _ _ _ _ _ _ _ _ _ _ _ _ h102 [] 10 52 280 #[.val (.int p0), .val (.int p1), .val (.int p2), .val (.int p3), .val (.int p4), .val (.int (Int32.ofNat L)), .val (.ref a), .val (.ref t), .val (.ref s'), .val (.int (Int32.ofNat m)), .val (.int 1)] [(.int 1)]
    refine go_if_eq_f at_280 rfl (by decide) ?_
    refine go_aload at_283 rfl rfl rfl ?_
    refine go_iload at_285 rfl rfl ?_
    refine go_iload at_287 rfl rfl ?_
    refine go_aload at_289 rfl rfl rfl ?_
    refine go_iconst 3 at_291 rfl (by decide) ?_
    refine go_static [(.ref s'), (.int (Int32.ofNat m)), (.int (Int32.ofNat L)), (.ref a), (.int 3)] [] 0 at_292 rfl (wd hB 56 rfl) (wd hB 57 rfl) (wd hB 3 rfl) (wd hB 58 rfl) (c_at hB cs hn hC m L 3 hm hL (by omega) hsp' F1 F2 F3 F4 F109) (fun _ q => nomatch q) (lenOf pd_19 rfl) rfl rfl rfl (by decide) (by decide) (by decide) (by decide) (by decide) (fun v122 h123 s124 q125 => ?_)
    obtain ⟨rfl, rfl, rfl⟩ := q125
    show Go _ _ _ _ _ _ _ _ _ _ _ _ h102 [] 10 52 295 #[.val (.int p0), .val (.int p1), .val (.int p2), .val (.int p3), .val (.int p4), .val (.int (Int32.ofNat L)), .val (.ref a), .val (.ref t), .val (.ref s'), .val (.int (Int32.ofNat m)), .val (.int 1)] [(.int 1)]
    refine go_if_eq_f at_295 rfl (by decide) ?_
    refine go_iconst 1 at_298 rfl (by decide) ?_
    refine go_goto (pt := 303) at_299 (by decide) (by decide) ?_
    refine go_retN (t := .boolean) at_303 [] rfl (by simp) (by decide) (by decide) (fun _ q => nomatch q) ?_
    decide
  · refine go_if_eq_f at_211 rfl hm0 ?_
    have m1 : 1 ≤ m := Nat.one_le_iff_ne_zero.mpr fun q => hm0 (by rw [q]; rfl)
    obtain ⟨c, hcl, hc32⟩ := hl2.resolve_left (by omega)
    refine go_aload at_214 rfl rfl rfl ?_
    refine go_iload at_216 rfl rfl ?_
    refine go_iconst 1 at_218 rfl (by decide) ?_
    refine go_isub at_219 rfl ?_
    rw [show (1 : Int32) = Int32.ofNat 1 from rfl, ofN_sub (by omega) (by omega)]
    have F126 := (Ba.ext E')
    refine go_caload (v := (.int c)) (m - 1) at_220 rfl F126 ⟨ofN_nneg (by omega), by rw [f4]; exact ofN_lt (by omega) (by omega)⟩ (ofN_cl (by omega)) (map_at hcl) ?_
    refine go_bipush 32 at_221 rfl (by decide) ?_
    refine go_icmp_eq_f at_223 rfl hc32 ?_
    refine go_iconst 1 at_226 rfl (by decide) ?_
    refine go_goto (pt := 231) at_227 (by decide) (by decide) ?_
    refine go_istore at_231 rfl #[.val (.int p0), .val (.int p1), .val (.int p2), .val (.int p3), .val (.int p4), .val (.int (Int32.ofNat L)), .val (.ref a), .val (.ref t), .val (.ref s'), .val (.int (Int32.ofNat m)), .val (.int 1)] rfl ?_
    refine go_iload at_233 rfl rfl ?_
    refine go_if_eq_f at_235 rfl (by decide) ?_
    refine go_aload at_238 rfl rfl rfl ?_
    refine go_iload at_240 rfl rfl ?_
    refine go_iload at_242 rfl rfl ?_
    refine go_aload at_244 rfl rfl rfl ?_
    refine go_iconst 0 at_246 rfl (by decide) ?_
    refine go_static [(.ref s'), (.int (Int32.ofNat m)), (.int (Int32.ofNat L)), (.ref a), (.int 0)] [] 0 at_247 rfl (wd hB 56 rfl) (wd hB 57 rfl) (wd hB 3 rfl) (wd hB 58 rfl) (c_at hB cs hn hC m L 0 hm hL (by omega) hsp' F1 F2 F3 F4 F126) (fun _ q => nomatch q) (lenOf pd_19 rfl) rfl rfl rfl (by decide) (by decide) (by decide) (by decide) (by decide) (fun v127 h128 s129 q130 => ?_)
    obtain ⟨rfl, rfl, rfl⟩ := q130
    show Go _ _ _ _ _ _ _ _ _ _ _ _ h102 [] 10 52 250 #[.val (.int p0), .val (.int p1), .val (.int p2), .val (.int p3), .val (.int p4), .val (.int (Int32.ofNat L)), .val (.ref a), .val (.ref t), .val (.ref s'), .val (.int (Int32.ofNat m)), .val (.int 1)] [(.int 1)]
    refine go_if_eq_f at_250 rfl (by decide) ?_
    refine go_aload at_253 rfl rfl rfl ?_
    refine go_iload at_255 rfl rfl ?_
    refine go_iload at_257 rfl rfl ?_
    refine go_aload at_259 rfl rfl rfl ?_
    refine go_iconst 1 at_261 rfl (by decide) ?_
    refine go_static [(.ref s'), (.int (Int32.ofNat m)), (.int (Int32.ofNat L)), (.ref a), (.int 1)] [] 0 at_262 rfl (wd hB 56 rfl) (wd hB 57 rfl) (wd hB 3 rfl) (wd hB 58 rfl) (c_at hB cs hn hC m L 1 hm hL (by omega) hsp' F1 F2 F3 F4 F126) (fun _ q => nomatch q) (lenOf pd_19 rfl) rfl rfl rfl (by decide) (by decide) (by decide) (by decide) (by decide) (fun v131 h132 s133 q134 => ?_)
    obtain ⟨rfl, rfl, rfl⟩ := q134
    show Go _ _ _ _ _ _ _ _ _ _ _ _ h102 [] 10 52 265 #[.val (.int p0), .val (.int p1), .val (.int p2), .val (.int p3), .val (.int p4), .val (.int (Int32.ofNat L)), .val (.ref a), .val (.ref t), .val (.ref s'), .val (.int (Int32.ofNat m)), .val (.int 1)] [(.int 1)]
    refine go_if_eq_f at_265 rfl (by decide) ?_
    refine go_aload at_268 rfl rfl rfl ?_
    refine go_iload at_270 rfl rfl ?_
    refine go_iload at_272 rfl rfl ?_
    refine go_aload at_274 rfl rfl rfl ?_
    refine go_iconst 2 at_276 rfl (by decide) ?_
    refine go_static [(.ref s'), (.int (Int32.ofNat m)), (.int (Int32.ofNat L)), (.ref a), (.int 2)] [] 0 at_277 rfl (wd hB 56 rfl) (wd hB 57 rfl) (wd hB 3 rfl) (wd hB 58 rfl) (c_at hB cs hn hC m L 2 hm hL (by omega) hsp' F1 F2 F3 F4 F126) (fun _ q => nomatch q) (lenOf pd_19 rfl) rfl rfl rfl (by decide) (by decide) (by decide) (by decide) (by decide) (fun v135 h136 s137 q138 => ?_)
    obtain ⟨rfl, rfl, rfl⟩ := q138
    show Go _ _ _ _ _ _ _ _ _ _ _ _ h102 [] 10 52 280 #[.val (.int p0), .val (.int p1), .val (.int p2), .val (.int p3), .val (.int p4), .val (.int (Int32.ofNat L)), .val (.ref a), .val (.ref t), .val (.ref s'), .val (.int (Int32.ofNat m)), .val (.int 1)] [(.int 1)]
    refine go_if_eq_f at_280 rfl (by decide) ?_
    refine go_aload at_283 rfl rfl rfl ?_
    refine go_iload at_285 rfl rfl ?_
    refine go_iload at_287 rfl rfl ?_
    refine go_aload at_289 rfl rfl rfl ?_
    refine go_iconst 3 at_291 rfl (by decide) ?_
    refine go_static [(.ref s'), (.int (Int32.ofNat m)), (.int (Int32.ofNat L)), (.ref a), (.int 3)] [] 0 at_292 rfl (wd hB 56 rfl) (wd hB 57 rfl) (wd hB 3 rfl) (wd hB 58 rfl) (c_at hB cs hn hC m L 3 hm hL (by omega) hsp' F1 F2 F3 F4 F126) (fun _ q => nomatch q) (lenOf pd_19 rfl) rfl rfl rfl (by decide) (by decide) (by decide) (by decide) (by decide) (fun v139 h140 s141 q142 => ?_)
    obtain ⟨rfl, rfl, rfl⟩ := q142
    show Go _ _ _ _ _ _ _ _ _ _ _ _ h102 [] 10 52 295 #[.val (.int p0), .val (.int p1), .val (.int p2), .val (.int p3), .val (.int p4), .val (.int (Int32.ofNat L)), .val (.ref a), .val (.ref t), .val (.ref s'), .val (.int (Int32.ofNat m)), .val (.int 1)] [(.int 1)]
    refine go_if_eq_f at_295 rfl (by decide) ?_
    refine go_iconst 1 at_298 rfl (by decide) ?_
    refine go_goto (pt := 303) at_299 (by decide) (by decide) ?_
    refine go_retN (t := .boolean) at_303 [] rfl (by simp) (by decide) (by decide) (fun _ q => nomatch q) ?_
    decide
theorem is4 {k : Int32} (hk : 0 ≤ k.toInt ∧ k.toInt < 5) (h0 : ¬ k = 0) (h1 : ¬ k = 1) (h2 : ¬ k = 2) (h3 : ¬ k = 3) : k = 4 := by
  have e : ∀ {m : Int32}, ¬ k = m → k.toInt ≠ m.toInt := fun q r => q (Int32.toInt_inj.mp r)
  have a0 : k.toInt ≠ 0 := e h0
  have a1 : k.toInt ≠ 1 := e h1
  have a2 : k.toInt ≠ 2 := e h2
  have a3 : k.toInt ≠ 3 := e h3
  exact Int32.toInt_inj.mp (show k.toInt = 4 by omega)
set_option maxRecDepth 65536 in
set_option maxHeartbeats 4000000 in
theorem c_law {l : Launch} {Z : State} {a0 : Array Value} {n0 : Nat} (hB : Base Z a0) (ws : List Jvm.Cond) (p0 p1 p2 p3 p4 : Int32) {h : Heap} :
    Con l Z ELc n0 x code maxLocals ret ws room_1 #[.int p0, .int p1, .int p2, .int p3, .int p4] h [] (fun v h' sf' => v = some (.int 1)) := by
  refine con_of (a0 := a0) (ls := #[.val (.int p0), .val (.int p1), .val (.int p2), .val (.int p3), .val (.int p4), .unset, .unset, .unset, .unset, .unset, .unset]) (plainFor_of_name (by decide +kernel)) hB.2.1 (fun m => by first | rfl | simp [entryFrame, mkF, argsToLocals, Value.category]) ?_
  show Go l Z a0 ELc n0 room_1 "com/example/puffin/puffin/conversion/StoredFormUnpaddedPinLaw" code maxLocals ret "law" (fun v h' sf' => v = some (.int 1)) h [] 0 0 0 #[.val (.int p0), .val (.int p1), .val (.int p2), .val (.int p3), .val (.int p4), .unset, .unset, .unset, .unset, .unset, .unset] []
  refine go_iloadN at_0 rfl rfl ?_
  refine go_bipush 7 at_1 rfl (by decide) ?_
  refine go_iand at_3 rfl ?_
  refine go_iconst 5 at_4 rfl (by decide) ?_
  refine go_irem at_5 rfl (by decide) ?_
  obtain ⟨len, hlen⟩ : ∃ z, z = (p0 &&& 7) % 5 := ⟨_, rfl⟩
  rw [← hlen]
  have hl5 : 0 ≤ len.toInt ∧ len.toInt < 5 := by rw [hlen]; exact rem_rng (and_rng _ (by decide)).1 (by decide)
  refine go_istore at_6 rfl #[.val (.int p0), .val (.int p1), .val (.int p2), .val (.int p3), .val (.int p4), .val (.int len), .unset, .unset, .unset, .unset, .unset] rfl ?_
  refine go_iconst 4 at_8 rfl (by decide) ?_
  refine go_newarr (ty := .char) (ad := "[C") 4 at_9 rfl rfl (wd hB 0 rfl) (by decide) (by decide) (by decide) (by decide) (by decide) (by decide) ?_
  intro h106 x101 hx102 E103 ⟨A104, k105, B107⟩
  have B108 : Arv Z h106 x101 k105 .char 4 [(.int 0), (.int 0), (.int 0), (.int 0)] (.int 0) := B107.pad (pad_rep [] (.int 0) 4)
  refine go_dup at_11 rfl rfl ?_
  refine go_iconst 0 at_12 rfl (by decide) ?_
  refine go_iloadN at_13 rfl rfl ?_
  refine go_static [(.int p1)] [(.int 0), (.ref x101), (.ref x101)] 3 at_14 rfl (wd hB 1 rfl) (wd hB 2 rfl) (wd hB 3 rfl) (wd hB 4 rfl) (c_ch hB p1) (fun _ q => nomatch q) (lenOf pd_17 rfl) rfl rfl rfl (by decide) (by decide) (by decide) (by decide) (by decide) (fun v109 h110 s111 q112 => ?_)
  obtain ⟨c0, ic0, rfl, rfl, rfl⟩ := q112
  show Go _ _ _ _ _ _ _ _ _ _ _ _ h106 [x101] 1 4 17 #[.val (.int p0), .val (.int p1), .val (.int p2), .val (.int p3), .val (.int p4), .val (.int len), .unset, .unset, .unset, .unset, .unset] [(.int c0), (.int 0), (.ref x101), (.ref x101)]
  refine go_castore 0 c0 at_17 rfl ic0.nar B108 ⟨by decide, by decide⟩ (by decide) (by show 0 < 4; decide) (List.Mem.head _) ?_
  intro h113 W114 B115
  have B116 : Arv Z h113 x101 k105 .char 4 [(.int c0), (.int 0), (.int 0), (.int 0)] (.int 0) := B115
  refine go_dup at_18 rfl rfl ?_
  refine go_iconst 1 at_19 rfl (by decide) ?_
  refine go_iloadN at_20 rfl rfl ?_
  refine go_static [(.int p2)] [(.int 1), (.ref x101), (.ref x101)] 3 at_21 rfl (wd hB 1 rfl) (wd hB 2 rfl) (wd hB 3 rfl) (wd hB 4 rfl) (c_ch hB p2) (fun _ q => nomatch q) (lenOf pd_17 rfl) rfl rfl rfl (by decide) (by decide) (by decide) (by decide) (by decide) (fun v117 h118 s119 q120 => ?_)
  obtain ⟨c1, ic1, rfl, rfl, rfl⟩ := q120
  show Go _ _ _ _ _ _ _ _ _ _ _ _ h113 [x101] 1 4 24 #[.val (.int p0), .val (.int p1), .val (.int p2), .val (.int p3), .val (.int p4), .val (.int len), .unset, .unset, .unset, .unset, .unset] [(.int c1), (.int 1), (.ref x101), (.ref x101)]
  refine go_castore 1 c1 at_24 rfl ic1.nar B116 ⟨by decide, by decide⟩ (by decide) (by show 1 < 4; decide) (List.Mem.head _) ?_
  intro h121 W122 B123
  have B124 : Arv Z h121 x101 k105 .char 4 [(.int c0), (.int c1), (.int 0), (.int 0)] (.int 0) := B123
  refine go_dup at_25 rfl rfl ?_
  refine go_iconst 2 at_26 rfl (by decide) ?_
  refine go_iloadN at_27 rfl rfl ?_
  refine go_static [(.int p3)] [(.int 2), (.ref x101), (.ref x101)] 3 at_28 rfl (wd hB 1 rfl) (wd hB 2 rfl) (wd hB 3 rfl) (wd hB 4 rfl) (c_ch hB p3) (fun _ q => nomatch q) (lenOf pd_17 rfl) rfl rfl rfl (by decide) (by decide) (by decide) (by decide) (by decide) (fun v125 h126 s127 q128 => ?_)
  obtain ⟨c2, ic2, rfl, rfl, rfl⟩ := q128
  show Go _ _ _ _ _ _ _ _ _ _ _ _ h121 [x101] 1 4 31 #[.val (.int p0), .val (.int p1), .val (.int p2), .val (.int p3), .val (.int p4), .val (.int len), .unset, .unset, .unset, .unset, .unset] [(.int c2), (.int 2), (.ref x101), (.ref x101)]
  refine go_castore 2 c2 at_31 rfl ic2.nar B124 ⟨by decide, by decide⟩ (by decide) (by show 2 < 4; decide) (List.Mem.head _) ?_
  intro h129 W130 B131
  have B132 : Arv Z h129 x101 k105 .char 4 [(.int c0), (.int c1), (.int c2), (.int 0)] (.int 0) := B131
  refine go_dup at_32 rfl rfl ?_
  refine go_iconst 3 at_33 rfl (by decide) ?_
  refine go_iload at_34 rfl rfl ?_
  refine go_static [(.int p4)] [(.int 3), (.ref x101), (.ref x101)] 3 at_36 rfl (wd hB 1 rfl) (wd hB 2 rfl) (wd hB 3 rfl) (wd hB 4 rfl) (c_ch hB p4) (fun _ q => nomatch q) (lenOf pd_17 rfl) rfl rfl rfl (by decide) (by decide) (by decide) (by decide) (by decide) (fun v133 h134 s135 q136 => ?_)
  obtain ⟨c3, ic3, rfl, rfl, rfl⟩ := q136
  show Go _ _ _ _ _ _ _ _ _ _ _ _ h129 [x101] 1 4 39 #[.val (.int p0), .val (.int p1), .val (.int p2), .val (.int p3), .val (.int p4), .val (.int len), .unset, .unset, .unset, .unset, .unset] [(.int c3), (.int 3), (.ref x101), (.ref x101)]
  refine go_castore 3 c3 at_39 rfl ic3.nar B132 ⟨by decide, by decide⟩ (by decide) (by show 3 < 4; decide) (List.Mem.head _) ?_
  intro h137 W138 B139
  have B140 : Arv Z h137 x101 k105 .char 4 [(.int c0), (.int c1), (.int c2), (.int c3)] (.int 0) := B139
  refine go_astore at_40 rfl #[.val (.int p0), .val (.int p1), .val (.int p2), .val (.int p3), .val (.int p4), .val (.int len), .val (.ref x101), .unset, .unset, .unset, .unset] rfl rfl ?_
  refine go_iload at_42 rfl rfl ?_
  by_cases hl0 : (len = 0 : Prop)
  · refine go_if_ne_f at_44 rfl hl0 ?_
    refine go_iconst 0 at_47 rfl (by decide) ?_
    refine go_newarr (ty := .char) (ad := "[C") 0 at_48 rfl rfl (wd hB 0 rfl) (by decide) (by decide) (by decide) (by decide) (by decide) (by decide) ?_
    intro h146 x141 hx142 E143 ⟨A144, k145, B147⟩
    have B148 : Arv Z h146 x141 k145 .char 0 [] (.int 0) := B147.pad (pad_rep [] (.int 0) 0)
    refine go_astore at_50 rfl #[.val (.int p0), .val (.int p1), .val (.int p2), .val (.int p3), .val (.int p4), .val (.int len), .val (.ref x101), .val (.ref x141), .unset, .unset, .unset] rfl rfl ?_
    refine go_goto (pt := 172) at_52 (by decide) (by decide) ?_
    refine go_new at_172 rfl (wd hB 5 rfl) (wd hB 6 rfl) (wd hB 7 rfl) (by decide) (by decide) ?_
    intro h154 x149 hx150 E151 ⟨A152, D153⟩
    have F155 : Fld Z h154 x149 "java/lang/String" "value" "[B" .null := D153 (Or.inr (wd hB 20 rfl)) (ty := (.array .byte)) (by decide)
    have F156 : Fld Z h154 x149 "java/lang/String" "coder" "B" (.int 0) := D153 (Or.inr (wd hB 21 rfl)) (ty := .byte) (by decide)
    refine go_dup at_175 rfl rfl ?_
    refine go_aload at_176 rfl rfl rfl ?_
    refine Go.owned (fun hgeN0 => ?_)
    have hgeN := fun y q => (hgeN0 y q).2
    have F157 := (B148.ext E151)
    refine go_special x149 [(.ref x141)] [(.ref x149)] 1 at_178 rfl rfl (wd hB 8 rfl) (wd hB 9 rfl) (wd hB 7 rfl) (wd hB 10 rfl) (c_sinite hB F157 A152 F155 F156) (allS (List.Mem.head _) (fun _ q => nomatch q)) (lenOf pd_20 rfl) rfl rfl rfl (by decide) (by decide) (by decide) (by decide) (by decide) (fun v158 h159 s160 q161 => ?_)
    obtain ⟨rfl, rfl, K162, E163, F164, d165, k166, F167, A168⟩ := q161
    show Go _ _ _ _ _ _ _ _ _ _ _ _ h159 [x149, x141, x101] 7 16 181 #[.val (.int p0), .val (.int p1), .val (.int p2), .val (.int p3), .val (.int p4), .val (.int len), .val (.ref x101), .val (.ref x141), .unset, .unset, .unset] [(.ref x149)]
    rw [show len = Int32.ofNat 0 from hl0]
    have F169 := (((B140.ext E143).ext E151).keep K162 (ninS (Nat.ne_of_lt (Nat.lt_of_lt_of_le (Nat.lt_of_lt_of_le B140.lt E143.1) (Nat.le_of_eq hx150.symm))) nin0))
    refine Go.sub (Go.more (law_tail hB p0 p1 p2 p3 p4 [c0, c1, c2, c3] rfl (List.forall_mem_cons.mpr ⟨ic0, (List.forall_mem_cons.mpr ⟨ic1, (List.forall_mem_cons.mpr ⟨ic2, (List.forall_mem_cons.mpr ⟨ic3, (fun _ q => nomatch q)⟩)⟩)⟩)⟩) 0 (by omega) E163 F164 F167 A168 F169) (by decide) (by decide)) (fun _ q => nomatch q)
  · refine go_if_ne_t (pt := 55) at_44 (by decide) (by decide) hl0 ?_
    refine go_iload at_55 rfl rfl ?_
    refine go_iconst 1 at_57 rfl (by decide) ?_
    by_cases hl1 : (len = 1 : Prop)
    · refine go_icmp_ne_f at_58 rfl hl1 ?_
      refine go_iconst 1 at_61 rfl (by decide) ?_
      refine go_newarr (ty := .char) (ad := "[C") 1 at_62 rfl rfl (wd hB 0 rfl) (by decide) (by decide) (by decide) (by decide) (by decide) (by decide) ?_
      intro h175 x170 hx171 E172 ⟨A173, k174, B176⟩
      have B177 : Arv Z h175 x170 k174 .char 1 [(.int 0)] (.int 0) := B176.pad (pad_rep [] (.int 0) 1)
      refine go_dup at_64 rfl rfl ?_
      refine go_iconst 0 at_65 rfl (by decide) ?_
      refine go_aload at_66 rfl rfl rfl ?_
      refine go_iconst 0 at_68 rfl (by decide) ?_
      have F178 := (B140.ext E172)
      refine go_caload (v := (.int c0)) 0 at_69 rfl F178 ⟨by decide, by decide⟩ (by decide) rfl ?_
      refine go_castore 0 c0 at_70 rfl ic0.nar B177 ⟨by decide, by decide⟩ (by decide) (by show 0 < 1; decide) (List.Mem.head _) ?_
      intro h179 W180 B181
      have B182 : Arv Z h179 x170 k174 .char 1 [(.int c0)] (.int 0) := B181
      refine go_astore at_71 rfl #[.val (.int p0), .val (.int p1), .val (.int p2), .val (.int p3), .val (.int p4), .val (.int len), .val (.ref x101), .val (.ref x170), .unset, .unset, .unset] rfl rfl ?_
      refine go_goto (pt := 172) at_73 (by decide) (by decide) ?_
      refine go_new at_172 rfl (wd hB 5 rfl) (wd hB 6 rfl) (wd hB 7 rfl) (by decide) (by decide) ?_
      intro h188 x183 hx184 E185 ⟨A186, D187⟩
      have F189 : Fld Z h188 x183 "java/lang/String" "value" "[B" .null := D187 (Or.inr (wd hB 20 rfl)) (ty := (.array .byte)) (by decide)
      have F190 : Fld Z h188 x183 "java/lang/String" "coder" "B" (.int 0) := D187 (Or.inr (wd hB 21 rfl)) (ty := .byte) (by decide)
      refine go_dup at_175 rfl rfl ?_
      refine go_aload at_176 rfl rfl rfl ?_
      refine Go.owned (fun hgeN0 => ?_)
      have hgeN := fun y q => (hgeN0 y q).2
      have F191 := (B182.ext E185)
      refine go_special x183 [(.ref x170)] [(.ref x183)] 1 at_178 rfl rfl (wd hB 8 rfl) (wd hB 9 rfl) (wd hB 7 rfl) (wd hB 10 rfl) (c_sinit hB [c0] (by simp) (by simp) (List.forall_mem_cons.mpr ⟨ic0.le, (fun _ q => nomatch q)⟩) F191 A186 F189 F190 (hgeN x183 (List.Mem.head _))) (allS (List.Mem.head _) (fun _ q => nomatch q)) (lenOf pd_20 rfl) rfl rfl rfl (by decide) (by decide) (by decide) (by decide) (by decide) (fun v192 h193 s194 q195 => ?_)
      obtain ⟨rfl, rfl, K196, E197, F198, d199, k200, g201, F202, A203⟩ := q195
      show Go _ _ _ _ _ _ _ _ _ _ _ _ h193 [x183, x170, x101] 4 17 181 #[.val (.int p0), .val (.int p1), .val (.int p2), .val (.int p3), .val (.int p4), .val (.int len), .val (.ref x101), .val (.ref x170), .unset, .unset, .unset] [(.ref x183)]
      rw [show len = Int32.ofNat 1 from hl1]
      have F204 := (((Arv.other F178 W180 (Nat.ne_of_lt (Nat.lt_of_lt_of_le B140.lt (Nat.le_of_eq hx171.symm)))).ext E185).keep K196 (ninS (Nat.ne_of_lt (Nat.lt_of_lt_of_le (Nat.lt_of_lt_of_eq F178.lt W180.size.symm) (Nat.le_of_eq hx184.symm))) nin0))
      refine Go.sub (Go.more (law_tail hB p0 p1 p2 p3 p4 [c0, c1, c2, c3] rfl (List.forall_mem_cons.mpr ⟨ic0, (List.forall_mem_cons.mpr ⟨ic1, (List.forall_mem_cons.mpr ⟨ic2, (List.forall_mem_cons.mpr ⟨ic3, (fun _ q => nomatch q)⟩)⟩)⟩)⟩) 1 (by omega) E197 F198 F202 A203 F204) (by decide) (by decide)) (fun _ q => nomatch q)
    · refine go_icmp_ne_t (pt := 76) at_58 (by decide) (by decide) hl1 ?_
      refine go_iload at_76 rfl rfl ?_
      refine go_iconst 2 at_78 rfl (by decide) ?_
      by_cases hl2 : (len = 2 : Prop)
      · refine go_icmp_ne_f at_79 rfl hl2 ?_
        refine go_iconst 2 at_82 rfl (by decide) ?_
        refine go_newarr (ty := .char) (ad := "[C") 2 at_83 rfl rfl (wd hB 0 rfl) (by decide) (by decide) (by decide) (by decide) (by decide) (by decide) ?_
        intro h210 x205 hx206 E207 ⟨A208, k209, B211⟩
        have B212 : Arv Z h210 x205 k209 .char 2 [(.int 0), (.int 0)] (.int 0) := B211.pad (pad_rep [] (.int 0) 2)
        refine go_dup at_85 rfl rfl ?_
        refine go_iconst 0 at_86 rfl (by decide) ?_
        refine go_aload at_87 rfl rfl rfl ?_
        refine go_iconst 0 at_89 rfl (by decide) ?_
        have F213 := (B140.ext E207)
        refine go_caload (v := (.int c0)) 0 at_90 rfl F213 ⟨by decide, by decide⟩ (by decide) rfl ?_
        refine go_castore 0 c0 at_91 rfl ic0.nar B212 ⟨by decide, by decide⟩ (by decide) (by show 0 < 2; decide) (List.Mem.head _) ?_
        intro h214 W215 B216
        have B217 : Arv Z h214 x205 k209 .char 2 [(.int c0), (.int 0)] (.int 0) := B216
        refine go_dup at_92 rfl rfl ?_
        refine go_iconst 1 at_93 rfl (by decide) ?_
        refine go_aload at_94 rfl rfl rfl ?_
        refine go_iconst 1 at_96 rfl (by decide) ?_
        have F218 := (Arv.other F213 W215 (Nat.ne_of_lt (Nat.lt_of_lt_of_le B140.lt (Nat.le_of_eq hx206.symm))))
        refine go_caload (v := (.int c1)) 1 at_97 rfl F218 ⟨by decide, by decide⟩ (by decide) rfl ?_
        refine go_castore 1 c1 at_98 rfl ic1.nar B217 ⟨by decide, by decide⟩ (by decide) (by show 1 < 2; decide) (List.Mem.head _) ?_
        intro h219 W220 B221
        have B222 : Arv Z h219 x205 k209 .char 2 [(.int c0), (.int c1)] (.int 0) := B221
        refine go_astore at_99 rfl #[.val (.int p0), .val (.int p1), .val (.int p2), .val (.int p3), .val (.int p4), .val (.int len), .val (.ref x101), .val (.ref x205), .unset, .unset, .unset] rfl rfl ?_
        refine go_goto (pt := 172) at_101 (by decide) (by decide) ?_
        refine go_new at_172 rfl (wd hB 5 rfl) (wd hB 6 rfl) (wd hB 7 rfl) (by decide) (by decide) ?_
        intro h228 x223 hx224 E225 ⟨A226, D227⟩
        have F229 : Fld Z h228 x223 "java/lang/String" "value" "[B" .null := D227 (Or.inr (wd hB 20 rfl)) (ty := (.array .byte)) (by decide)
        have F230 : Fld Z h228 x223 "java/lang/String" "coder" "B" (.int 0) := D227 (Or.inr (wd hB 21 rfl)) (ty := .byte) (by decide)
        refine go_dup at_175 rfl rfl ?_
        refine go_aload at_176 rfl rfl rfl ?_
        refine Go.owned (fun hgeN0 => ?_)
        have hgeN := fun y q => (hgeN0 y q).2
        have F231 := (B222.ext E225)
        refine go_special x223 [(.ref x205)] [(.ref x223)] 1 at_178 rfl rfl (wd hB 8 rfl) (wd hB 9 rfl) (wd hB 7 rfl) (wd hB 10 rfl) (c_sinit hB [c0, c1] (by simp) (by simp) (List.forall_mem_cons.mpr ⟨ic0.le, (List.forall_mem_cons.mpr ⟨ic1.le, (fun _ q => nomatch q)⟩)⟩) F231 A226 F229 F230 (hgeN x223 (List.Mem.head _))) (allS (List.Mem.head _) (fun _ q => nomatch q)) (lenOf pd_20 rfl) rfl rfl rfl (by decide) (by decide) (by decide) (by decide) (by decide) (fun v232 h233 s234 q235 => ?_)
        obtain ⟨rfl, rfl, K236, E237, F238, d239, k240, g241, F242, A243⟩ := q235
        show Go _ _ _ _ _ _ _ _ _ _ _ _ h233 [x223, x205, x101] 4 18 181 #[.val (.int p0), .val (.int p1), .val (.int p2), .val (.int p3), .val (.int p4), .val (.int len), .val (.ref x101), .val (.ref x205), .unset, .unset, .unset] [(.ref x223)]
        rw [show len = Int32.ofNat 2 from hl2]
        have F244 := (((Arv.other F218 W220 (Nat.ne_of_lt (Nat.lt_of_lt_of_le B140.lt (Nat.le_of_eq hx206.symm)))).ext E225).keep K236 (ninS (Nat.ne_of_lt (Nat.lt_of_lt_of_le (Nat.lt_of_lt_of_eq F218.lt W220.size.symm) (Nat.le_of_eq hx224.symm))) nin0))
        refine Go.sub (Go.more (law_tail hB p0 p1 p2 p3 p4 [c0, c1, c2, c3] rfl (List.forall_mem_cons.mpr ⟨ic0, (List.forall_mem_cons.mpr ⟨ic1, (List.forall_mem_cons.mpr ⟨ic2, (List.forall_mem_cons.mpr ⟨ic3, (fun _ q => nomatch q)⟩)⟩)⟩)⟩) 2 (by omega) E237 F238 F242 A243 F244) (by decide) (by decide)) (fun _ q => nomatch q)
      · refine go_icmp_ne_t (pt := 104) at_79 (by decide) (by decide) hl2 ?_
        refine go_iload at_104 rfl rfl ?_
        refine go_iconst 3 at_106 rfl (by decide) ?_
        by_cases hl3 : (len = 3 : Prop)
        · refine go_icmp_ne_f at_107 rfl hl3 ?_
          refine go_iconst 3 at_110 rfl (by decide) ?_
          refine go_newarr (ty := .char) (ad := "[C") 3 at_111 rfl rfl (wd hB 0 rfl) (by decide) (by decide) (by decide) (by decide) (by decide) (by decide) ?_
          intro h250 x245 hx246 E247 ⟨A248, k249, B251⟩
          have B252 : Arv Z h250 x245 k249 .char 3 [(.int 0), (.int 0), (.int 0)] (.int 0) := B251.pad (pad_rep [] (.int 0) 3)
          refine go_dup at_113 rfl rfl ?_
          refine go_iconst 0 at_114 rfl (by decide) ?_
          refine go_aload at_115 rfl rfl rfl ?_
          refine go_iconst 0 at_117 rfl (by decide) ?_
          have F253 := (B140.ext E247)
          refine go_caload (v := (.int c0)) 0 at_118 rfl F253 ⟨by decide, by decide⟩ (by decide) rfl ?_
          refine go_castore 0 c0 at_119 rfl ic0.nar B252 ⟨by decide, by decide⟩ (by decide) (by show 0 < 3; decide) (List.Mem.head _) ?_
          intro h254 W255 B256
          have B257 : Arv Z h254 x245 k249 .char 3 [(.int c0), (.int 0), (.int 0)] (.int 0) := B256
          refine go_dup at_120 rfl rfl ?_
          refine go_iconst 1 at_121 rfl (by decide) ?_
          refine go_aload at_122 rfl rfl rfl ?_
          refine go_iconst 1 at_124 rfl (by decide) ?_
          have F258 := (Arv.other F253 W255 (Nat.ne_of_lt (Nat.lt_of_lt_of_le B140.lt (Nat.le_of_eq hx246.symm))))
          refine go_caload (v := (.int c1)) 1 at_125 rfl F258 ⟨by decide, by decide⟩ (by decide) rfl ?_
          refine go_castore 1 c1 at_126 rfl ic1.nar B257 ⟨by decide, by decide⟩ (by decide) (by show 1 < 3; decide) (List.Mem.head _) ?_
          intro h259 W260 B261
          have B262 : Arv Z h259 x245 k249 .char 3 [(.int c0), (.int c1), (.int 0)] (.int 0) := B261
          refine go_dup at_127 rfl rfl ?_
          refine go_iconst 2 at_128 rfl (by decide) ?_
          refine go_aload at_129 rfl rfl rfl ?_
          refine go_iconst 2 at_131 rfl (by decide) ?_
          have F263 := (Arv.other F258 W260 (Nat.ne_of_lt (Nat.lt_of_lt_of_le B140.lt (Nat.le_of_eq hx246.symm))))
          refine go_caload (v := (.int c2)) 2 at_132 rfl F263 ⟨by decide, by decide⟩ (by decide) rfl ?_
          refine go_castore 2 c2 at_133 rfl ic2.nar B262 ⟨by decide, by decide⟩ (by decide) (by show 2 < 3; decide) (List.Mem.head _) ?_
          intro h264 W265 B266
          have B267 : Arv Z h264 x245 k249 .char 3 [(.int c0), (.int c1), (.int c2)] (.int 0) := B266
          refine go_astore at_134 rfl #[.val (.int p0), .val (.int p1), .val (.int p2), .val (.int p3), .val (.int p4), .val (.int len), .val (.ref x101), .val (.ref x245), .unset, .unset, .unset] rfl rfl ?_
          refine go_goto (pt := 172) at_136 (by decide) (by decide) ?_
          refine go_new at_172 rfl (wd hB 5 rfl) (wd hB 6 rfl) (wd hB 7 rfl) (by decide) (by decide) ?_
          intro h273 x268 hx269 E270 ⟨A271, D272⟩
          have F274 : Fld Z h273 x268 "java/lang/String" "value" "[B" .null := D272 (Or.inr (wd hB 20 rfl)) (ty := (.array .byte)) (by decide)
          have F275 : Fld Z h273 x268 "java/lang/String" "coder" "B" (.int 0) := D272 (Or.inr (wd hB 21 rfl)) (ty := .byte) (by decide)
          refine go_dup at_175 rfl rfl ?_
          refine go_aload at_176 rfl rfl rfl ?_
          refine Go.owned (fun hgeN0 => ?_)
          have hgeN := fun y q => (hgeN0 y q).2
          have F276 := (B267.ext E270)
          refine go_special x268 [(.ref x245)] [(.ref x268)] 1 at_178 rfl rfl (wd hB 8 rfl) (wd hB 9 rfl) (wd hB 7 rfl) (wd hB 10 rfl) (c_sinit hB [c0, c1, c2] (by simp) (by simp) (List.forall_mem_cons.mpr ⟨ic0.le, (List.forall_mem_cons.mpr ⟨ic1.le, (List.forall_mem_cons.mpr ⟨ic2.le, (fun _ q => nomatch q)⟩)⟩)⟩) F276 A271 F274 F275 (hgeN x268 (List.Mem.head _))) (allS (List.Mem.head _) (fun _ q => nomatch q)) (lenOf pd_20 rfl) rfl rfl rfl (by decide) (by decide) (by decide) (by decide) (by decide) (fun v277 h278 s279 q280 => ?_)
          obtain ⟨rfl, rfl, K281, E282, F283, d284, k285, g286, F287, A288⟩ := q280
          show Go _ _ _ _ _ _ _ _ _ _ _ _ h278 [x268, x245, x101] 4 19 181 #[.val (.int p0), .val (.int p1), .val (.int p2), .val (.int p3), .val (.int p4), .val (.int len), .val (.ref x101), .val (.ref x245), .unset, .unset, .unset] [(.ref x268)]
          rw [show len = Int32.ofNat 3 from hl3]
          have F289 := (((Arv.other F263 W265 (Nat.ne_of_lt (Nat.lt_of_lt_of_le B140.lt (Nat.le_of_eq hx246.symm)))).ext E270).keep K281 (ninS (Nat.ne_of_lt (Nat.lt_of_lt_of_le (Nat.lt_of_lt_of_eq F263.lt W265.size.symm) (Nat.le_of_eq hx269.symm))) nin0))
          refine Go.sub (Go.more (law_tail hB p0 p1 p2 p3 p4 [c0, c1, c2, c3] rfl (List.forall_mem_cons.mpr ⟨ic0, (List.forall_mem_cons.mpr ⟨ic1, (List.forall_mem_cons.mpr ⟨ic2, (List.forall_mem_cons.mpr ⟨ic3, (fun _ q => nomatch q)⟩)⟩)⟩)⟩) 3 (by omega) E282 F283 F287 A288 F289) (by decide) (by decide)) (fun _ q => nomatch q)
        · refine go_icmp_ne_t (pt := 139) at_107 (by decide) (by decide) hl3 ?_
          refine go_iconst 4 at_139 rfl (by decide) ?_
          refine go_newarr (ty := .char) (ad := "[C") 4 at_140 rfl rfl (wd hB 0 rfl) (by decide) (by decide) (by decide) (by decide) (by decide) (by decide) ?_
          intro h295 x290 hx291 E292 ⟨A293, k294, B296⟩
          have B297 : Arv Z h295 x290 k294 .char 4 [(.int 0), (.int 0), (.int 0), (.int 0)] (.int 0) := B296.pad (pad_rep [] (.int 0) 4)
          refine go_dup at_142 rfl rfl ?_
          refine go_iconst 0 at_143 rfl (by decide) ?_
          refine go_aload at_144 rfl rfl rfl ?_
          refine go_iconst 0 at_146 rfl (by decide) ?_
          have F298 := (B140.ext E292)
          refine go_caload (v := (.int c0)) 0 at_147 rfl F298 ⟨by decide, by decide⟩ (by decide) rfl ?_
          refine go_castore 0 c0 at_148 rfl ic0.nar B297 ⟨by decide, by decide⟩ (by decide) (by show 0 < 4; decide) (List.Mem.head _) ?_
          intro h299 W300 B301
          have B302 : Arv Z h299 x290 k294 .char 4 [(.int c0), (.int 0), (.int 0), (.int 0)] (.int 0) := B301
          refine go_dup at_149 rfl rfl ?_
          refine go_iconst 1 at_150 rfl (by decide) ?_
          refine go_aload at_151 rfl rfl rfl ?_
          refine go_iconst 1 at_153 rfl (by decide) ?_
          have F303 := (Arv.other F298 W300 (Nat.ne_of_lt (Nat.lt_of_lt_of_le B140.lt (Nat.le_of_eq hx291.symm))))
          refine go_caload (v := (.int c1)) 1 at_154 rfl F303 ⟨by decide, by decide⟩ (by decide) rfl ?_
          refine go_castore 1 c1 at_155 rfl ic1.nar B302 ⟨by decide, by decide⟩ (by decide) (by show 1 < 4; decide) (List.Mem.head _) ?_
          intro h304 W305 B306
          have B307 : Arv Z h304 x290 k294 .char 4 [(.int c0), (.int c1), (.int 0), (.int 0)] (.int 0) := B306
          refine go_dup at_156 rfl rfl ?_
          refine go_iconst 2 at_157 rfl (by decide) ?_
          refine go_aload at_158 rfl rfl rfl ?_
          refine go_iconst 2 at_160 rfl (by decide) ?_
          have F308 := (Arv.other F303 W305 (Nat.ne_of_lt (Nat.lt_of_lt_of_le B140.lt (Nat.le_of_eq hx291.symm))))
          refine go_caload (v := (.int c2)) 2 at_161 rfl F308 ⟨by decide, by decide⟩ (by decide) rfl ?_
          refine go_castore 2 c2 at_162 rfl ic2.nar B307 ⟨by decide, by decide⟩ (by decide) (by show 2 < 4; decide) (List.Mem.head _) ?_
          intro h309 W310 B311
          have B312 : Arv Z h309 x290 k294 .char 4 [(.int c0), (.int c1), (.int c2), (.int 0)] (.int 0) := B311
          refine go_dup at_163 rfl rfl ?_
          refine go_iconst 3 at_164 rfl (by decide) ?_
          refine go_aload at_165 rfl rfl rfl ?_
          refine go_iconst 3 at_167 rfl (by decide) ?_
          have F313 := (Arv.other F308 W310 (Nat.ne_of_lt (Nat.lt_of_lt_of_le B140.lt (Nat.le_of_eq hx291.symm))))
          refine go_caload (v := (.int c3)) 3 at_168 rfl F313 ⟨by decide, by decide⟩ (by decide) rfl ?_
          refine go_castore 3 c3 at_169 rfl ic3.nar B312 ⟨by decide, by decide⟩ (by decide) (by show 3 < 4; decide) (List.Mem.head _) ?_
          intro h314 W315 B316
          have B317 : Arv Z h314 x290 k294 .char 4 [(.int c0), (.int c1), (.int c2), (.int c3)] (.int 0) := B316
          refine go_astore at_170 rfl #[.val (.int p0), .val (.int p1), .val (.int p2), .val (.int p3), .val (.int p4), .val (.int len), .val (.ref x101), .val (.ref x290), .unset, .unset, .unset] rfl rfl ?_
          refine go_new at_172 rfl (wd hB 5 rfl) (wd hB 6 rfl) (wd hB 7 rfl) (by decide) (by decide) ?_
          intro h323 x318 hx319 E320 ⟨A321, D322⟩
          have F324 : Fld Z h323 x318 "java/lang/String" "value" "[B" .null := D322 (Or.inr (wd hB 20 rfl)) (ty := (.array .byte)) (by decide)
          have F325 : Fld Z h323 x318 "java/lang/String" "coder" "B" (.int 0) := D322 (Or.inr (wd hB 21 rfl)) (ty := .byte) (by decide)
          refine go_dup at_175 rfl rfl ?_
          refine go_aload at_176 rfl rfl rfl ?_
          refine Go.owned (fun hgeN0 => ?_)
          have hgeN := fun y q => (hgeN0 y q).2
          have F326 := (B317.ext E320)
          refine go_special x318 [(.ref x290)] [(.ref x318)] 1 at_178 rfl rfl (wd hB 8 rfl) (wd hB 9 rfl) (wd hB 7 rfl) (wd hB 10 rfl) (c_sinit hB [c0, c1, c2, c3] (by simp) (by simp) (List.forall_mem_cons.mpr ⟨ic0.le, (List.forall_mem_cons.mpr ⟨ic1.le, (List.forall_mem_cons.mpr ⟨ic2.le, (List.forall_mem_cons.mpr ⟨ic3.le, (fun _ q => nomatch q)⟩)⟩)⟩)⟩) F326 A321 F324 F325 (hgeN x318 (List.Mem.head _))) (allS (List.Mem.head _) (fun _ q => nomatch q)) (lenOf pd_20 rfl) rfl rfl rfl (by decide) (by decide) (by decide) (by decide) (by decide) (fun v327 h328 s329 q330 => ?_)
          obtain ⟨rfl, rfl, K331, E332, F333, d334, k335, g336, F337, A338⟩ := q330
          show Go _ _ _ _ _ _ _ _ _ _ _ _ h328 [x318, x290, x101] 4 20 181 #[.val (.int p0), .val (.int p1), .val (.int p2), .val (.int p3), .val (.int p4), .val (.int len), .val (.ref x101), .val (.ref x290), .unset, .unset, .unset] [(.ref x318)]
          rw [show len = Int32.ofNat 4 from (is4 hl5 hl0 hl1 hl2 hl3)]
          have F339 := (((Arv.other F313 W315 (Nat.ne_of_lt (Nat.lt_of_lt_of_le B140.lt (Nat.le_of_eq hx291.symm)))).ext E320).keep K331 (ninS (Nat.ne_of_lt (Nat.lt_of_lt_of_le (Nat.lt_of_lt_of_eq F313.lt W315.size.symm) (Nat.le_of_eq hx319.symm))) nin0))
          refine Go.sub (Go.more (law_tail hB p0 p1 p2 p3 p4 [c0, c1, c2, c3] rfl (List.forall_mem_cons.mpr ⟨ic0, (List.forall_mem_cons.mpr ⟨ic1, (List.forall_mem_cons.mpr ⟨ic2, (List.forall_mem_cons.mpr ⟨ic3, (fun _ q => nomatch q)⟩)⟩)⟩)⟩) 4 (by omega) E332 F333 F337 A338 F339) (by decide) (by decide)) (fun _ q => nomatch q)
set_option maxRecDepth 65536 in
set_option maxHeartbeats 40000000 in
theorem comes_1 {Post : Tables → Env → Array Value → State → Outcome → State → Prop} (hpost : ∀ tb e args s v u, (limb_1_1.after args s (.returned v) u = true ∧ limb_1_2.after args s (.returned v) u = true ∧ True) → ReturnedEndW s (.returned v) u (Jvm.fieldLocs frame_1_writes args s ++ Jvm.arrayLocs frame_1_arrays args s ++ Jvm.staticLocs frame_1_statics s) 24 2176 → Post tb e args s (.returned v) u) :
    ArmFor flags0 classFile x code maxLocals ret World_1 tables_1 room_1 Calls_1 rest_1 Pre_1 Post := by
  intro l hfl _ _ p e ha hc hk s m args below hf hA hF happ hP
  obtain ⟨hcalls, hrest, hpre⟩ := hP
  obtain ⟨-, -, -, hnamed, -, -, -, hat⟩ := (Spec.applies_iff hf).mp happ
  obtain ⟨hg, hn⟩ := and_e (Cond.before_iff.mp (show (Jvm.Cond.and given_1 narrow_1).before args s = true from hpre))
  obtain ⟨hcount, hr_0⟩ := and_e hg
  obtain ⟨hk_0, hr_1⟩ := and_e hr_0
  obtain ⟨hk_1, hr_2⟩ := and_e hr_1
  obtain ⟨hk_2, hr_3⟩ := and_e hr_2
  obtain ⟨hk_3, hr_4⟩ := and_e hr_3
  have hk_4 := hr_4
  obtain ⟨w0, w1, w2, w3, w4, rfl⟩ : ∃ w0 w1 w2 w3 w4 : Value, args = #[w0, w1, w2, w3, w4] := by
    have hs : args.size = 5 := by simpa [Cond.value, given_1] using hcount
    obtain ⟨L⟩ := args
    match L, hs with
    | [w0, w1, w2, w3, w4], _ => exact ⟨w0, w1, w2, w3, w4, rfl⟩
  have hw := fun d (hd : d ∈ tables_1) => atoms_spec (ws := Jvm.Cond.code x code maxLocals ret :: tables_1) hat d (List.mem_cons_of_mem _ hd)
  obtain ⟨hsets, hown0⟩ := atoms_of _ (rest_1_c_eq ▸ (show rest_1_c.before _ s = true from hrest))
  have hfit : Fit s := fun {y c} hc i hi => by
    obtain ⟨ha, rfl⟩ := Array.getElem?_eq_some_iff.mp hc
    have q := List.all_eq_true.mp ((Array.all_eq_true_iff_forall_mem.mp hF) _ (Array.getElem_mem ha)) i (List.mem_range.mpr hi)
    simpa [Array.getElem?_eq_getElem hi] using q
  obtain ⟨p0, e_0⟩ := is_v hk_0
  obtain rfl : w0 = (.int p0) := Option.some.inj e_0
  obtain ⟨p1, e_1⟩ := is_v hk_1
  obtain rfl : w1 = (.int p1) := Option.some.inj e_1
  obtain ⟨p2, e_2⟩ := is_v hk_2
  obtain rfl : w2 = (.int p2) := Option.some.inj e_2
  obtain ⟨p3, e_3⟩ := is_v hk_3
  obtain rfl : w3 = (.int p3) := Option.some.inj e_3
  obtain ⟨p4, e_4⟩ := is_v hk_4
  obtain rfl : w4 = (.int p4) := Option.some.inj e_4
  obtain ⟨cz, e_cz⟩ := is_v (Cond.before_iff.mp (hsets _ (List.mem_of_getElem? (i := 1) rfl)))
  have S_cs : Sta s s.heap "java/lang/String" "COMPACT_STRINGS" "Z" (.int cz) := Sta.start e_cz (Or.inl (hsets _ (List.mem_of_getElem? (i := 0) rfl)))
  have c_cs : ¬ (cz = (0 : Int32)) := gotF (Cond.eq_ints e_cz (Term.int_eval (0))) (not_v (Cond.before_iff.mp (hsets _ (List.mem_of_getElem? (i := 2) rfl))))
  obtain ⟨fv, e_fv, r_fv⟩ := isR_v (Cond.before_iff.mp (hsets _ (List.mem_of_getElem? (i := 8) rfl)))
  have S_fv : Sta s s.heap "jdk/internal/util/Preconditions" "SIOOBE_FORMATTER" "Ljava/util/function/BiFunction;" fv := Sta.start e_fv (Or.inl (hsets _ (List.mem_of_getElem? (i := 7) rfl)))
  have hEW : EW s #[.int p0, .int p1, .int p2, .int p3, .int p4] ELc := EW.cons (hw _ (List.mem_of_getElem? (i := 18) rfl)) (by decide) (EW.cons (hw _ (List.mem_of_getElem? (i := 92) rfl)) (by decide) (EW.nil))
  have hCH : CHv s ELc s.vm s.heap := CHv.start hEW (fun q hq => hcalls.1 q hq) (hsets _ (List.mem_of_getElem? (i := 2) rfl)) (hw _ (List.mem_of_getElem? (i := 19) rfl)) (hw _ (List.mem_of_getElem? (i := 6) rfl))
  have hB : Base s #[.int p0, .int p1, .int p2, .int p3, .int p4] := ⟨hw, hEW, ⟨cz, S_cs, c_cs⟩, ⟨fv, S_fv, r_fv⟩, trivial⟩
  obtain ⟨n, o, h1, h2, h3, v, L, sf', rfl, rfl, N, -, -, -, hq⟩ := c_law (l := l) (n0 := s.heap.size) hB tables_1 p0 p1 p2 p3 p4 (h := s.heap) p e ha hc hk s m _ below hf ((Spec.applies_iff_loose hf).mp happ).1 ⟨rfl, State.Warmed39.refl s, rfl, hCH, OwnL.nil, Old.start s⟩ trivial
  refine ⟨n, _, h1, h2, h3, hpost _ _ _ _ _ _ ⟨Cond.after_iff.mpr rfl, Cond.after_iff.mpr (eq_i res_at (Term.int_eval (1)) rfl), trivial⟩ ⟨hq.1, hq.2.1, hq.2.2.1, (hq.2.2.2.sift fun y hy => Or.inr (N y hy)).mono (by decide) (by decide)⟩⟩
theorem main_1_1 : Claimed_1_1 := comes_1 fun _ _ _ _ _ _ h hF => ⟨h.1, hF⟩
theorem main_1_2 : Claimed_1_2 := comes_1 fun _ _ _ _ _ _ h hF => ⟨h.2.1, hF⟩
end Jvm.Pilot.@@N@@
namespace Jvm.Pilot.@@N@@
open Jvm Jvm.ClassFile Sem Op Lib Jvm.Free Jvm.Stand Jvm.Pilot.@@N@@.Jvm.D
/-! MADE BY PROGRAM (witnessworld.py) out of the Statement's table words and the real class files: 23 classes; the members and pool entries that the words name. The judged class is class 1, her method 3. -/
namespace start1
open Jvm.ClassFile
def u (s : String) : CpInfo := .utf8 (stringToUtf16 s)
/-- a pool by its gaps: so many unusable entries, then the entry; so many at the end -/
def gap : Nat → List CpInfo → List CpInfo
  | 0, r => r
  | n + 1, r => .unusable :: gap n r
def poolList (es : List (Nat × CpInfo)) (last : Nat) : List CpInfo := es.foldr (fun e r => gap e.1 (e.2 :: r)) (gap last [])
def pool (es : List (Nat × CpInfo)) (last : Nat) : Array CpInfo := ⟨poolList es last⟩
def fileOf (pool : Array CpInfo) (this : Nat) (attrs : Array Attribute := #[]) (ms : Array MethodInfo := #[]) (fl : Nat := 33) (sup : Nat := 0) (ifs : Array Nat := #[]) (fds : Array FieldInfo := #[]) : ClassFile where
  minorVersion := 0
  majorVersion := 65
  constantPool := pool
  accessFlags := fl
  thisClass := this
  superClass := sup
  interfaces := ifs
  fields := fds
  methods := ms
  attributes := attrs
def plain (name : String) (sup : Option ClassId) : Class where
  name := name
  kind := .ordinary
  loader := none
  accessFlags := 33
  super := sup
  interfaces := #[]
  cf := none
  fields := #[]
  methods := #[]
  instanceTypes := #[]
  staticTypes := #[]
  resolved := #[]
  callSites := []
  init := .initialized
  statics := none
  mirror := none

def pool0 : Array CpInfo := pool [(5, u "<init>"), (0, u "()V"), (1, .class_ 10), (1, u "java/lang/Object")] 113

def k0c0 : Code := { maxStack := 0, maxLocals := 1, code := object_method_1_code, exceptionTable := #[], attributes := #[] }
def k0m0 : Method := { name := "<init>", desc := "()V", sig := { parameters := [], returnType := none }, accessFlags := 1, code := some k0c0 }
/-- java/lang/Object -/
def k0 : Class := { plain "java/lang/Object" none with
  accessFlags := 33
  interfaces := #[]
  cf := some (fileOf pool0 8 #[] #[{ accessFlags := 1, nameIndex := 5, descriptorIndex := 6, attributes := #[] }] 33 0 #[] #[])
  fields := #[]
  methods := #[k0m0]
  instanceTypes := #[]
  staticTypes := #[]
  resolved := Array.replicate 124 none
  statics := none }

def pool1 : Array CpInfo := pool [(2, .class_ 4), (1, u "java/lang/Object"), (0, u "<init>"), (0, u "()V"), (0, .methodref 8 9), (0, .class_ 10), (0, .nameAndType 11 12), (0, u "java/lang/String"), (0, u "charAt"), (0, u "(I)C"), (0, .methodref 14 15), (0, .class_ 16), (0, .nameAndType 17 12), (0, u "com/example/puffin/puffin/conversion/StoredFormUnpaddedPinLaw"), (0, u "ch"), (0, .methodref 8 19), (0, .nameAndType 5 20), (0, u "([C)V"), (0, .methodref 22 23), (0, .class_ 24), (0, .nameAndType 25 26), (0, u "com/example/puffin/puffin/conversion/StoredForm"), (0, u "unpadded"), (0, u "(Ljava/lang/String;)Ljava/lang/String;"), (0, .methodref 8 28), (0, .nameAndType 29 30), (0, u "length"), (0, u "()I"), (0, .methodref 14 32), (0, .nameAndType 33 34), (0, u "at"), (0, u "(Ljava/lang/String;II[CI)Z"), (3, u "law"), (0, u "(IIIII)Z")] 4

def k1m0 : Method := { name := "<init>", desc := "()V", sig := { parameters := [], returnType := none }, accessFlags := 1, code := none }
def k1c1 : Code := { maxStack := 2, maxLocals := 1, code := method_2_code, exceptionTable := #[], attributes := #[] }
def k1m1 : Method := { name := "ch", desc := "(I)C", sig := { parameters := [.int], returnType := some .char }, accessFlags := 10, code := some k1c1 }
def k1c2 : Code := { maxStack := 3, maxLocals := 5, code := method_3_code, exceptionTable := #[], attributes := #[] }
def k1m2 : Method := { name := "at", desc := "(Ljava/lang/String;II[CI)Z", sig := { parameters := [(.object "java/lang/String"), .int, .int, (.array .char), .int], returnType := some .boolean }, accessFlags := 10, code := some k1c2 }
def k1c3 : Code := { maxStack := 5, maxLocals := 11, code := code, exceptionTable := #[], attributes := #[] }
def k1m3 : Method := { name := "law", desc := "(IIIII)Z", sig := { parameters := [.int, .int, .int, .int, .int], returnType := some .boolean }, accessFlags := 9, code := some k1c3 }
/-- com/example/puffin/puffin/conversion/StoredFormUnpaddedPinLaw -/
def k1 : Class := { plain "com/example/puffin/puffin/conversion/StoredFormUnpaddedPinLaw" (some 0) with
  accessFlags := 49
  interfaces := #[]
  cf := some (fileOf pool1 14 #[] #[{ accessFlags := 1, nameIndex := 5, descriptorIndex := 6, attributes := #[] }, { accessFlags := 10, nameIndex := 17, descriptorIndex := 12, attributes := #[] }, { accessFlags := 10, nameIndex := 33, descriptorIndex := 34, attributes := #[] }, { accessFlags := 9, nameIndex := 38, descriptorIndex := 39, attributes := #[] }] 49 2 #[] #[])
  fields := #[]
  methods := #[k1m0, k1m1, k1m2, k1m3]
  instanceTypes := #[]
  staticTypes := #[]
  resolved := Array.replicate 44 none
  statics := none }

def pool2 : Array CpInfo := pool [(1, .class_ 2), (0, u "java/io/Serializable"), (0, .class_ 4), (0, u "java/lang/Object")] 2

/-- java/io/Serializable -/
def k2 : Class := { plain "java/io/Serializable" (some 0) with
  accessFlags := 1537
  interfaces := #[]
  cf := some (fileOf pool2 1 #[] #[] 1537 3 #[] #[])
  fields := #[]
  methods := #[]
  instanceTypes := #[]
  staticTypes := #[]
  resolved := Array.replicate 7 none
  statics := none }

def pool3 : Array CpInfo := pool [(1, .class_ 2), (0, u "java/lang/Comparable"), (0, .class_ 4), (0, u "java/lang/Object")] 7

/-- java/lang/Comparable -/
def k3 : Class := { plain "java/lang/Comparable" (some 0) with
  accessFlags := 1537
  interfaces := #[]
  cf := some (fileOf pool3 1 #[] #[] 1537 3 #[] #[])
  fields := #[]
  methods := #[]
  instanceTypes := #[]
  staticTypes := #[]
  resolved := Array.replicate 12 none
  statics := none }

def pool4 : Array CpInfo := pool [(2, .class_ 4), (1, u "java/lang/CharSequence"), (42, .class_ 48), (0, u "java/lang/CharSequence$1CodePointIterator"), (10, .class_ 60), (0, u "java/lang/CharSequence$1CharIterator"), (5, .class_ 67), (0, u "java/lang/Object")] 63

/-- java/lang/CharSequence -/
def k4 : Class := { plain "java/lang/CharSequence" (some 0) with
  accessFlags := 1537
  interfaces := #[]
  cf := some (fileOf pool4 2 #[.nestMembers #[47, 59]] #[] 1537 66 #[] #[])
  fields := #[]
  methods := #[]
  instanceTypes := #[]
  staticTypes := #[]
  resolved := Array.replicate 131 none
  statics := none }

def pool5 : Array CpInfo := pool [(1, .class_ 2), (0, u "java/lang/constant/Constable"), (0, .class_ 4), (0, u "java/lang/Object")] 6

/-- java/lang/constant/Constable -/
def k5 : Class := { plain "java/lang/constant/Constable" (some 0) with
  accessFlags := 1537
  interfaces := #[]
  cf := some (fileOf pool5 1 #[] #[] 1537 3 #[] #[])
  fields := #[]
  methods := #[]
  instanceTypes := #[]
  staticTypes := #[]
  resolved := Array.replicate 11 none
  statics := none }

def pool6 : Array CpInfo := pool [(1, .class_ 2), (0, u "java/lang/constant/ConstantDesc"), (0, .class_ 4), (0, u "java/lang/Object")] 32

/-- java/lang/constant/ConstantDesc -/
def k6 : Class := { plain "java/lang/constant/ConstantDesc" (some 0) with
  accessFlags := 1537
  interfaces := #[]
  cf := some (fileOf pool6 1 #[] #[] 1537 3 #[] #[])
  fields := #[]
  methods := #[]
  instanceTypes := #[]
  staticTypes := #[]
  resolved := Array.replicate 37 none
  statics := none }

def pool7 : Array CpInfo := pool [(1, .methodref 2 3), (0, .class_ 4), (0, .nameAndType 5 6), (0, u "java/lang/Object"), (0, u "<init>"), (0, u "()V"), (0, .string 8), (0, u ""), (0, .fieldref 10 11), (0, .class_ 12), (0, .nameAndType 13 14), (0, u "java/lang/String"), (0, u "value"), (0, u "[B"), (0, .fieldref 10 16), (0, .nameAndType 17 18), (0, u "coder"), (0, u "B"), (2, u "hash"), (0, u "I"), (2, u "hashIsZero"), (0, u "Z"), (0, .methodref 10 28), (0, .nameAndType 5 29), (0, u "([CIILjava/lang/Void;)V"), (8, .fieldref 10 39), (0, .nameAndType 40 26), (0, u "COMPACT_STRINGS"), (1, .class_ 44), (1, u "java/lang/StringUTF16"), (0, u "compress"), (1, .methodref 42 48), (0, .nameAndType 49 50), (0, u "coderFromArrayLen"), (0, u "([BI)B"), (56, .class_ 109), (1, u "java/lang/StringLatin1"), (32, u "()Z"), (34, .methodref 42 178), (0, .nameAndType 45 179), (0, u "([CII)[B"), (31, u "([BB)V"), (122, u "()I"), (0, .methodref 10 336), (0, .nameAndType 17 337), (0, u "()B"), (25, u "([BI)C"), (27, u "(II)V"), (35, u "(I)C"), (64, .methodref 10 493), (0, .nameAndType 494 142), (0, u "isLatin1"), (0, .methodref 107 496), (0, .nameAndType 497 363), (0, u "charAt"), (3, u "checkIndex"), (3, .methodref 10 506), (0, .nameAndType 507 334), (0, u "length"), (5, u "checkFromToIndex"), (7, .methodref 10 522), (0, .nameAndType 523 524), (0, u "checkBoundsBeginEnd"), (0, u "(III)V"), (50, .class_ 576), (0, u "java/lang/CharSequence"), (22, u "CASE_INSENSITIVE_ORDER"), (0, u "Ljava/util/Comparator;"), (82, u "substring"), (0, u "(II)Ljava/lang/String;"), (0, .methodref 107 686), (0, .nameAndType 687 688), (0, u "newString"), (0, u "([BII)Ljava/lang/String;"), (321, u "([C)V"), (42, .fieldref 1054 1055), (0, .class_ 1056), (0, .nameAndType 1057 1058), (0, u "jdk/internal/util/Preconditions"), (0, u "SIOOBE_FORMATTER"), (0, u "Ljava/util/function/BiFunction;"), (0, .methodref 1054 1060), (0, .nameAndType 501 1061), (0, u "(IILjava/util/function/BiFunction;)I"), (0, .methodref 1054 1063), (0, .nameAndType 513 1064), (0, u "(IIILjava/util/function/BiFunction;)I"), (36, u "serialPersistentFields"), (0, u "[Ljava/io/ObjectStreamField;"), (0, .class_ 1104), (0, u "java/lang/String$CaseInsensitiveComparator"), (1, .class_ 1107), (0, u "java/io/Serializable"), (0, .class_ 1109), (0, u "java/lang/Comparable"), (0, .class_ 1111), (0, u "java/lang/constant/Constable"), (0, .class_ 1113), (0, u "java/lang/constant/ConstantDesc"), (2, u "serialVersionUID"), (0, u "J"), (3, u "REPL"), (0, u "C"), (2, u "LATIN1"), (1, u "UTF16")] 323

def k7m0 : Method := { name := "<init>", desc := "()V", sig := { parameters := [], returnType := none }, accessFlags := 1, code := none }
def k7c1 : Code := { maxStack := 5, maxLocals := 2, code := jdk_42_method_3_code, exceptionTable := #[], attributes := #[] }
def k7m1 : Method := { name := "<init>", desc := "([C)V", sig := { parameters := [(.array .char)], returnType := none }, accessFlags := 1, code := some k7c1 }
def k7c2 : Code := { maxStack := 2, maxLocals := 1, code := jdk_42_method_54_code, exceptionTable := #[], attributes := #[] }
def k7m2 : Method := { name := "length", desc := "()I", sig := { parameters := [], returnType := some .int }, accessFlags := 1, code := some k7c2 }
def k7c3 : Code := { maxStack := 2, maxLocals := 2, code := jdk_42_method_56_code, exceptionTable := #[], attributes := #[] }
def k7m3 : Method := { name := "charAt", desc := "(I)C", sig := { parameters := [.int], returnType := some .char }, accessFlags := 1, code := some k7c3 }
def k7c4 : Code := { maxStack := 3, maxLocals := 5, code := jdk_42_method_92_code, exceptionTable := #[], attributes := #[] }
def k7m4 : Method := { name := "substring", desc := "(II)Ljava/lang/String;", sig := { parameters := [.int, .int], returnType := some (.object "java/lang/String") }, accessFlags := 1, code := some k7c4 }
def k7c5 : Code := { maxStack := 4, maxLocals := 6, code := jdk_42_method_149_code, exceptionTable := #[], attributes := #[] }
def k7m5 : Method := { name := "<init>", desc := "([CIILjava/lang/Void;)V", sig := { parameters := [(.array .char), .int, .int, (.object "java/lang/Void")], returnType := none }, accessFlags := 2, code := some k7c5 }
def k7c6 : Code := { maxStack := 2, maxLocals := 3, code := jdk_42_method_151_code, exceptionTable := #[], attributes := #[] }
def k7m6 : Method := { name := "<init>", desc := "([BB)V", sig := { parameters := [(.array .byte), .byte], returnType := none }, accessFlags := 0, code := some k7c6 }
def k7c7 : Code := { maxStack := 1, maxLocals := 1, code := jdk_42_method_152_code, exceptionTable := #[], attributes := #[] }
def k7m7 : Method := { name := "coder", desc := "()B", sig := { parameters := [], returnType := some .byte }, accessFlags := 0, code := some k7c7 }
def k7c8 : Code := { maxStack := 1, maxLocals := 1, code := jdk_42_method_154_code, exceptionTable := #[], attributes := #[] }
def k7m8 : Method := { name := "isLatin1", desc := "()Z", sig := { parameters := [], returnType := some .boolean }, accessFlags := 0, code := some k7c8 }
def k7c9 : Code := { maxStack := 3, maxLocals := 2, code := jdk_42_method_155_code, exceptionTable := #[], attributes := #[] }
def k7m9 : Method := { name := "checkIndex", desc := "(II)V", sig := { parameters := [.int, .int], returnType := none }, accessFlags := 8, code := some k7c9 }
def k7c10 : Code := { maxStack := 4, maxLocals := 3, code := jdk_42_method_158_code, exceptionTable := #[], attributes := #[] }
def k7m10 : Method := { name := "checkBoundsBeginEnd", desc := "(III)V", sig := { parameters := [.int, .int, .int], returnType := none }, accessFlags := 8, code := some k7c10 }
/-- java/lang/String -/
def k7 : Class := { plain "java/lang/String" (some 0) with
  accessFlags := 49
  interfaces := #[2, 3, 4, 5, 6]
  cf := some (fileOf pool7 10 #[.nestMembers #[1103]] #[{ accessFlags := 1, nameIndex := 5, descriptorIndex := 6, attributes := #[] }, { accessFlags := 1, nameIndex := 5, descriptorIndex := 1010, attributes := #[] }, { accessFlags := 1, nameIndex := 507, descriptorIndex := 334, attributes := #[] }, { accessFlags := 1, nameIndex := 497, descriptorIndex := 427, attributes := #[] }, { accessFlags := 1, nameIndex := 683, descriptorIndex := 684, attributes := #[] }, { accessFlags := 2, nameIndex := 5, descriptorIndex := 29, attributes := #[] }, { accessFlags := 0, nameIndex := 5, descriptorIndex := 211, attributes := #[] }, { accessFlags := 0, nameIndex := 17, descriptorIndex := 337, attributes := #[] }, { accessFlags := 0, nameIndex := 494, descriptorIndex := 142, attributes := #[] }, { accessFlags := 8, nameIndex := 501, descriptorIndex := 391, attributes := #[] }, { accessFlags := 8, nameIndex := 523, descriptorIndex := 524, attributes := #[] }] 49 2 #[1106, 1108, 575, 1110, 1112] #[{ accessFlags := 18, nameIndex := 13, descriptorIndex := 14, attributes := #[] }, { accessFlags := 18, nameIndex := 17, descriptorIndex := 18, attributes := #[] }, { accessFlags := 2, nameIndex := 21, descriptorIndex := 22, attributes := #[] }, { accessFlags := 2, nameIndex := 25, descriptorIndex := 26, attributes := #[] }, { accessFlags := 26, nameIndex := 1116, descriptorIndex := 1117, attributes := #[] }, { accessFlags := 24, nameIndex := 40, descriptorIndex := 26, attributes := #[] }, { accessFlags := 26, nameIndex := 1101, descriptorIndex := 1102, attributes := #[] }, { accessFlags := 26, nameIndex := 1121, descriptorIndex := 1122, attributes := #[] }, { accessFlags := 25, nameIndex := 599, descriptorIndex := 600, attributes := #[] }, { accessFlags := 24, nameIndex := 1125, descriptorIndex := 18, attributes := #[] }, { accessFlags := 24, nameIndex := 1127, descriptorIndex := 18, attributes := #[] }])
  fields := #[{ name := "value", type := (.array .byte), accessFlags := 18, slot := 0, constantValue := 0 }, { name := "coder", type := .byte, accessFlags := 18, slot := 1, constantValue := 0 }, { name := "hash", type := .int, accessFlags := 2, slot := 2, constantValue := 0 }, { name := "hashIsZero", type := .boolean, accessFlags := 2, slot := 3, constantValue := 0 }, { name := "serialVersionUID", type := .long, accessFlags := 26, slot := 0, constantValue := 0 }, { name := "COMPACT_STRINGS", type := .boolean, accessFlags := 24, slot := 1, constantValue := 0 }, { name := "serialPersistentFields", type := (.array (.object "java/io/ObjectStreamField")), accessFlags := 26, slot := 2, constantValue := 0 }, { name := "REPL", type := .char, accessFlags := 26, slot := 3, constantValue := 0 }, { name := "CASE_INSENSITIVE_ORDER", type := (.object "java/util/Comparator"), accessFlags := 25, slot := 4, constantValue := 0 }, { name := "LATIN1", type := .byte, accessFlags := 24, slot := 5, constantValue := 0 }, { name := "UTF16", type := .byte, accessFlags := 24, slot := 6, constantValue := 0 }]
  methods := #[k7m0, k7m1, k7m2, k7m3, k7m4, k7m5, k7m6, k7m7, k7m8, k7m9, k7m10]
  instanceTypes := #[(.array .byte), .byte, .int, .boolean]
  staticTypes := #[.long, .boolean, (.array (.object "java/io/ObjectStreamField")), .char, (.object "java/util/Comparator"), .byte, .byte]
  resolved := Array.replicate 1451 none
  statics := some 0 }

def pool8 : Array CpInfo := pool [(2, .class_ 4), (1, u "java/lang/Object"), (3, .class_ 10), (1, u "com/example/puffin/puffin/conversion/StoredForm"), (0, u "kind"), (0, u "Lcom/example/puffin/puffin/conversion/StoredForm$Kind;"), (2, u "scale"), (0, u "I"), (0, .class_ 18), (0, u "java/lang/String"), (6, u "UNPADDED"), (0, u "Lcom/example/puffin/puffin/conversion/StoredForm;"), (6, .class_ 35), (1, u "com/example/puffin/puffin/conversion/StoredForm$Kind"), (12, u "AS_GIVEN"), (4, u "unpadded"), (0, u "(Ljava/lang/String;)Ljava/lang/String;"), (6, u "()I"), (9, .methodref 17 72), (0, .nameAndType 73 61), (0, u "length"), (0, .methodref 17 75), (0, .nameAndType 76 77), (0, u "charAt"), (0, u "(I)C"), (0, .methodref 17 79), (0, .nameAndType 80 81), (0, u "substring"), (0, u "(II)Ljava/lang/String;")] 23

def k8c0 : Code := { maxStack := 3, maxLocals := 2, code := prog_30_method_5_code, exceptionTable := #[], attributes := #[] }
def k8m0 : Method := { name := "unpadded", desc := "(Ljava/lang/String;)Ljava/lang/String;", sig := { parameters := [(.object "java/lang/String")], returnType := some (.object "java/lang/String") }, accessFlags := 8, code := some k8c0 }
/-- com/example/puffin/puffin/conversion/StoredForm -/
def k8 : Class := { plain "com/example/puffin/puffin/conversion/StoredForm" (some 0) with
  accessFlags := 49
  interfaces := #[]
  cf := some (fileOf pool8 8 #[.nestMembers #[33]] #[{ accessFlags := 8, nameIndex := 53, descriptorIndex := 54, attributes := #[] }] 49 2 #[] #[{ accessFlags := 25, nameIndex := 48, descriptorIndex := 26, attributes := #[] }, { accessFlags := 26, nameIndex := 25, descriptorIndex := 26, attributes := #[] }, { accessFlags := 18, nameIndex := 11, descriptorIndex := 12, attributes := #[] }, { accessFlags := 18, nameIndex := 15, descriptorIndex := 16, attributes := #[] }])
  fields := #[{ name := "AS_GIVEN", type := (.object "com/example/puffin/puffin/conversion/StoredForm"), accessFlags := 25, slot := 0, constantValue := 0 }, { name := "UNPADDED", type := (.object "com/example/puffin/puffin/conversion/StoredForm"), accessFlags := 26, slot := 1, constantValue := 0 }, { name := "kind", type := (.object "com/example/puffin/puffin/conversion/StoredForm$Kind"), accessFlags := 18, slot := 0, constantValue := 0 }, { name := "scale", type := .int, accessFlags := 18, slot := 1, constantValue := 0 }]
  methods := #[k8m0]
  instanceTypes := #[(.object "com/example/puffin/puffin/conversion/StoredForm$Kind"), .int]
  staticTypes := #[(.object "com/example/puffin/puffin/conversion/StoredForm"), (.object "com/example/puffin/puffin/conversion/StoredForm")]
  resolved := Array.replicate 105 none
  statics := none }

def pool9 : Array CpInfo := pool [(2, .class_ 4), (1, u "java/lang/Object"), (0, u "<init>"), (0, u "()V"), (17, .class_ 26), (1, u "jdk/internal/util/Preconditions"), (6, u "checkIndex"), (13, u "checkFromToIndex"), (7, .class_ 56), (0, u "jdk/internal/util/Preconditions$4"), (57, .class_ 115), (0, u "jdk/internal/util/Preconditions$1"), (7, u "SIOOBE_FORMATTER"), (0, u "Ljava/util/function/BiFunction;"), (0, .class_ 126), (0, u "jdk/internal/util/Preconditions$2"), (3, u "AIOOBE_FORMATTER"), (0, .class_ 132), (0, u "jdk/internal/util/Preconditions$3"), (3, u "IOOBE_FORMATTER"), (41, u "(IILjava/util/function/BiFunction;)I"), (4, u "(IIILjava/util/function/BiFunction;)I")] 10

def k9m0 : Method := { name := "<init>", desc := "()V", sig := { parameters := [], returnType := none }, accessFlags := 1, code := none }
def k9c1 : Code := { maxStack := 3, maxLocals := 3, code := jdk_41_method_11_code, exceptionTable := #[], attributes := #[] }
def k9m1 : Method := { name := "checkIndex", desc := "(IILjava/util/function/BiFunction;)I", sig := { parameters := [.int, .int, (.object "java/util/function/BiFunction")], returnType := some .int }, accessFlags := 9, code := some k9c1 }
def k9c2 : Code := { maxStack := 4, maxLocals := 4, code := jdk_41_method_12_code, exceptionTable := #[], attributes := #[] }
def k9m2 : Method := { name := "checkFromToIndex", desc := "(IIILjava/util/function/BiFunction;)I", sig := { parameters := [.int, .int, .int, (.object "java/util/function/BiFunction")], returnType := some .int }, accessFlags := 9, code := some k9c2 }
/-- jdk/internal/util/Preconditions -/
def k9 : Class := { plain "jdk/internal/util/Preconditions" (some 0) with
  accessFlags := 33
  interfaces := #[]
  cf := some (fileOf pool9 24 #[.nestMembers #[55, 131, 125, 114]] #[{ accessFlags := 1, nameIndex := 5, descriptorIndex := 6, attributes := #[] }, { accessFlags := 9, nameIndex := 33, descriptorIndex := 178, attributes := #[] }, { accessFlags := 9, nameIndex := 47, descriptorIndex := 183, attributes := #[] }] 33 2 #[] #[{ accessFlags := 25, nameIndex := 123, descriptorIndex := 124, attributes := #[] }, { accessFlags := 25, nameIndex := 130, descriptorIndex := 124, attributes := #[] }, { accessFlags := 25, nameIndex := 136, descriptorIndex := 124, attributes := #[] }])
  fields := #[{ name := "SIOOBE_FORMATTER", type := (.object "java/util/function/BiFunction"), accessFlags := 25, slot := 0, constantValue := 0 }, { name := "AIOOBE_FORMATTER", type := (.object "java/util/function/BiFunction"), accessFlags := 25, slot := 1, constantValue := 0 }, { name := "IOOBE_FORMATTER", type := (.object "java/util/function/BiFunction"), accessFlags := 25, slot := 2, constantValue := 0 }]
  methods := #[k9m0, k9m1, k9m2]
  instanceTypes := #[]
  staticTypes := #[(.object "java/util/function/BiFunction"), (.object "java/util/function/BiFunction"), (.object "java/util/function/BiFunction")]
  resolved := Array.replicate 194 none
  statics := some 1 }

def pool10 : Array CpInfo := pool [(6, .class_ 8), (1, u "java/lang/Object"), (0, u "<init>"), (0, u "()V"), (1, .class_ 14), (1, u "java/lang/StringUTF16"), (31, u "$assertionsDisabled"), (0, u "Z"), (13, u "HI_BYTE_SHIFT"), (0, u "I"), (2, u "LO_BYTE_SHIFT"), (49, .methodref 12 116), (0, .nameAndType 117 118), (0, u "compress"), (0, u "([CI[BII)I"), (3, u "([CII)[B"), (138, u "coderFromArrayLen"), (0, u "([BI)B"), (106, .class_ 371), (1, u "java/lang/StringUTF16$LinesSpliterator"), (58, u "MAX_LENGTH"), (196, .class_ 628), (0, u "java/lang/StringUTF16$CodePointsSpliterator"), (0, .class_ 630), (0, u "java/lang/StringUTF16$CharsSpliterator")] 4

def k10m0 : Method := { name := "<init>", desc := "()V", sig := { parameters := [], returnType := none }, accessFlags := 0, code := none }
def k10c1 : Code := { maxStack := 2, maxLocals := 2, code := jdk_52_method_15_code, exceptionTable := #[], attributes := #[] }
def k10m1 : Method := { name := "coderFromArrayLen", desc := "([BI)B", sig := { parameters := [(.array .byte), .int], returnType := some .byte }, accessFlags := 8, code := some k10c1 }
def k10c2 : Code := { maxStack := 5, maxLocals := 6, code := jdk_52_method_16_code, exceptionTable := #[], attributes := #[] }
def k10m2 : Method := { name := "compress", desc := "([CII)[B", sig := { parameters := [(.array .char), .int, .int], returnType := some (.array .byte) }, accessFlags := 9, code := some k10c2 }
def k10c3 : Code := { maxStack := 3, maxLocals := 7, code := jdk_52_method_21_code, exceptionTable := #[], attributes := #[] }
def k10m3 : Method := { name := "compress", desc := "([CI[BII)I", sig := { parameters := [(.array .char), .int, (.array .byte), .int, .int], returnType := some .int }, accessFlags := 9, code := some k10c3 }
/-- java/lang/StringUTF16 -/
def k10 : Class := { plain "java/lang/StringUTF16" (some 0) with
  accessFlags := 48
  interfaces := #[]
  cf := some (fileOf pool10 12 #[.nestMembers #[627, 629, 369]] #[{ accessFlags := 0, nameIndex := 9, descriptorIndex := 10, attributes := #[] }, { accessFlags := 8, nameIndex := 261, descriptorIndex := 262, attributes := #[] }, { accessFlags := 9, nameIndex := 117, descriptorIndex := 122, attributes := #[] }, { accessFlags := 9, nameIndex := 117, descriptorIndex := 118, attributes := #[] }] 48 6 #[] #[{ accessFlags := 26, nameIndex := 61, descriptorIndex := 62, attributes := #[] }, { accessFlags := 26, nameIndex := 65, descriptorIndex := 62, attributes := #[] }, { accessFlags := 24, nameIndex := 430, descriptorIndex := 62, attributes := #[] }, { accessFlags := 4120, nameIndex := 46, descriptorIndex := 47, attributes := #[] }])
  fields := #[{ name := "HI_BYTE_SHIFT", type := .int, accessFlags := 26, slot := 0, constantValue := 0 }, { name := "LO_BYTE_SHIFT", type := .int, accessFlags := 26, slot := 1, constantValue := 0 }, { name := "MAX_LENGTH", type := .int, accessFlags := 24, slot := 2, constantValue := 0 }, { name := "$assertionsDisabled", type := .boolean, accessFlags := 4120, slot := 3, constantValue := 0 }]
  methods := #[k10m0, k10m1, k10m2, k10m3]
  instanceTypes := #[]
  staticTypes := #[.int, .int, .int, .boolean]
  resolved := Array.replicate 635 none
  statics := none }

def pool11 : Array CpInfo := pool [(1, .class_ 2), (0, u "java/lang/String"), (1, .class_ 6), (1, u "java/lang/Object"), (0, u "<init>"), (0, u "()V"), (0, .methodref 1 10), (0, .nameAndType 11 12), (0, u "checkIndex"), (0, u "(II)V"), (1, .class_ 16), (1, u "java/lang/StringLatin1"), (36, u "([BI)C"), (58, .methodref 1 113), (0, .nameAndType 7 114), (0, u "([BB)V"), (6, u "$assertionsDisabled"), (0, u "Z"), (8, .class_ 133), (1, u "java/util/Arrays"), (17, .string 152), (0, u ""), (43, u "newString"), (0, u "([BII)Ljava/lang/String;"), (23, .class_ 223), (1, u "java/lang/StringLatin1$LinesSpliterator"), (8, .methodref 131 233), (0, .nameAndType 234 235), (0, u "copyOfRange"), (0, u "([BII)[B"), (16, u "charAt"), (137, .class_ 391), (0, u "java/lang/StringLatin1$CharsSpliterator")] 3

def k11m0 : Method := { name := "<init>", desc := "()V", sig := { parameters := [], returnType := none }, accessFlags := 0, code := none }
def k11c1 : Code := { maxStack := 2, maxLocals := 2, code := jdk_43_method_2_code, exceptionTable := #[], attributes := #[] }
def k11m1 : Method := { name := "charAt", desc := "([BI)C", sig := { parameters := [(.array .byte), .int], returnType := some .char }, accessFlags := 9, code := some k11c1 }
def k11c2 : Code := { maxStack := 6, maxLocals := 3, code := jdk_43_method_47_code, exceptionTable := #[], attributes := #[] }
def k11m2 : Method := { name := "newString", desc := "([BII)Ljava/lang/String;", sig := { parameters := [(.array .byte), .int, .int], returnType := some (.object "java/lang/String") }, accessFlags := 9, code := some k11c2 }
/-- java/lang/StringLatin1 -/
def k11 : Class := { plain "java/lang/StringLatin1" (some 0) with
  accessFlags := 48
  interfaces := #[]
  cf := some (fileOf pool11 14 #[.nestMembers #[390, 221]] #[{ accessFlags := 0, nameIndex := 7, descriptorIndex := 8, attributes := #[] }, { accessFlags := 9, nameIndex := 252, descriptorIndex := 53, attributes := #[] }, { accessFlags := 9, nameIndex := 196, descriptorIndex := 197, attributes := #[] }] 48 4 #[] #[{ accessFlags := 4120, nameIndex := 121, descriptorIndex := 122, attributes := #[] }])
  fields := #[{ name := "$assertionsDisabled", type := .boolean, accessFlags := 4120, slot := 0, constantValue := 0 }]
  methods := #[k11m0, k11m1, k11m2]
  instanceTypes := #[]
  staticTypes := #[.boolean]
  resolved := Array.replicate 395 none
  statics := none }

def pool12 : Array CpInfo := pool [(2, .class_ 4), (1, u "java/lang/Object"), (0, u "<init>"), (0, u "()V"), (7, .class_ 16), (1, u "java/util/Arrays"), (57, .class_ 76), (1, u "java/util/Arrays$NaturalOrder"), (36, .class_ 115), (1, u "java/util/Arrays$LegacyMergeSort"), (1, u "Z"), (21, u "copyOfRange"), (10, .methodref 151 152), (0, .class_ 153), (0, .nameAndType 154 155), (0, u "java/lang/System"), (0, u "arraycopy"), (0, u "(Ljava/lang/Object;ILjava/lang/Object;II)V"), (148, .methodref 305 306), (0, .class_ 307), (0, .nameAndType 308 309), (0, u "java/lang/Math"), (0, u "min"), (0, u "(II)I"), (29, .methodref 14 340), (0, .nameAndType 341 342), (0, u "copyOfRangeByte"), (0, u "([BII)[B"), (0, .methodref 14 344), (0, .nameAndType 345 346), (0, u "checkLength"), (0, u "(II)V"), (28, .class_ 376), (0, u "java/util/Arrays$ArrayList"), (68, u "$assertionsDisabled"), (269, u "MIN_ARRAY_SORT_GRAN"), (0, u "I"), (2, u "INSERTIONSORT_THRESHOLD"), (255, .class_ 976), (0, u "java/util/Arrays$ArrayItr")] 52

def k12m0 : Method := { name := "<init>", desc := "()V", sig := { parameters := [], returnType := none }, accessFlags := 2, code := none }
def k12c1 : Code := { maxStack := 4, maxLocals := 2, code := jdk_65_method_131_code, exceptionTable := #[], attributes := #[] }
def k12m1 : Method := { name := "checkLength", desc := "(II)V", sig := { parameters := [.int, .int], returnType := none }, accessFlags := 10, code := some k12c1 }
def k12c2 : Code := { maxStack := 3, maxLocals := 3, code := jdk_65_method_132_code, exceptionTable := #[], attributes := #[] }
def k12m2 : Method := { name := "copyOfRange", desc := "([BII)[B", sig := { parameters := [(.array .byte), .int, .int], returnType := some (.array .byte) }, accessFlags := 9, code := some k12c2 }
def k12c3 : Code := { maxStack := 6, maxLocals := 5, code := jdk_65_method_133_code, exceptionTable := #[], attributes := #[] }
def k12m3 : Method := { name := "copyOfRangeByte", desc := "([BII)[B", sig := { parameters := [(.array .byte), .int, .int], returnType := some (.array .byte) }, accessFlags := 10, code := some k12c3 }
/-- java/util/Arrays -/
def k12 : Class := { plain "java/util/Arrays" (some 0) with
  accessFlags := 49
  interfaces := #[]
  cf := some (fileOf pool12 14 #[.nestMembers #[975, 375, 113, 74]] #[{ accessFlags := 2, nameIndex := 5, descriptorIndex := 6, attributes := #[] }, { accessFlags := 10, nameIndex := 345, descriptorIndex := 346, attributes := #[] }, { accessFlags := 9, nameIndex := 139, descriptorIndex := 342, attributes := #[] }, { accessFlags := 10, nameIndex := 341, descriptorIndex := 342, attributes := #[] }] 49 2 #[] #[{ accessFlags := 26, nameIndex := 715, descriptorIndex := 716, attributes := #[] }, { accessFlags := 26, nameIndex := 719, descriptorIndex := 716, attributes := #[] }, { accessFlags := 4120, nameIndex := 445, descriptorIndex := 117, attributes := #[] }])
  fields := #[{ name := "MIN_ARRAY_SORT_GRAN", type := .int, accessFlags := 26, slot := 0, constantValue := 0 }, { name := "INSERTIONSORT_THRESHOLD", type := .int, accessFlags := 26, slot := 1, constantValue := 0 }, { name := "$assertionsDisabled", type := .boolean, accessFlags := 4120, slot := 2, constantValue := 0 }]
  methods := #[k12m0, k12m1, k12m2, k12m3]
  instanceTypes := #[]
  staticTypes := #[.int, .int, .boolean]
  resolved := Array.replicate 1029 none
  statics := none }

def pool13 : Array CpInfo := pool [(1, .class_ 2), (0, u "java/lang/Math"), (1, .class_ 6), (1, u "java/lang/Object"), (0, u "<init>"), (0, u "()V"), (89, .class_ 100), (1, u "java/lang/Math$RandomNumberGeneratorHolder"), (71, u "negativeZeroFloatBits"), (0, u "J"), (2, u "negativeZeroDoubleBits"), (24, u "min"), (43, u "$assertionsDisabled"), (0, u "Z"), (88, u "(II)I"), (2, u "twoToTheDoubleScaleDown"), (0, u "D"), (4, u "twoToTheDoubleScaleUp"), (9, u "E"), (3, u "PI"), (2, u "TAU"), (2, u "DEGREES_TO_RADIANS"), (0, u "RADIANS_TO_DEGREES")] 94

def k13m0 : Method := { name := "<init>", desc := "()V", sig := { parameters := [], returnType := none }, accessFlags := 2, code := none }
def k13c1 : Code := { maxStack := 2, maxLocals := 2, code := jdk_29_method_69_code, exceptionTable := #[], attributes := #[] }
def k13m1 : Method := { name := "min", desc := "(II)I", sig := { parameters := [.int, .int], returnType := some .int }, accessFlags := 9, code := some k13c1 }
/-- java/lang/Math -/
def k13 : Class := { plain "java/lang/Math" (some 0) with
  accessFlags := 49
  interfaces := #[]
  cf := some (fileOf pool13 1 #[.nestMembers #[98]] #[{ accessFlags := 2, nameIndex := 7, descriptorIndex := 8, attributes := #[] }, { accessFlags := 9, nameIndex := 201, descriptorIndex := 335, attributes := #[] }] 49 4 #[] #[{ accessFlags := 25, nameIndex := 354, descriptorIndex := 339, attributes := #[] }, { accessFlags := 25, nameIndex := 358, descriptorIndex := 339, attributes := #[] }, { accessFlags := 25, nameIndex := 361, descriptorIndex := 339, attributes := #[] }, { accessFlags := 26, nameIndex := 364, descriptorIndex := 339, attributes := #[] }, { accessFlags := 26, nameIndex := 365, descriptorIndex := 339, attributes := #[] }, { accessFlags := 26, nameIndex := 172, descriptorIndex := 173, attributes := #[] }, { accessFlags := 26, nameIndex := 176, descriptorIndex := 173, attributes := #[] }, { accessFlags := 8, nameIndex := 344, descriptorIndex := 339, attributes := #[] }, { accessFlags := 8, nameIndex := 338, descriptorIndex := 339, attributes := #[] }, { accessFlags := 4120, nameIndex := 245, descriptorIndex := 246, attributes := #[] }])
  fields := #[{ name := "E", type := .double, accessFlags := 25, slot := 0, constantValue := 0 }, { name := "PI", type := .double, accessFlags := 25, slot := 1, constantValue := 0 }, { name := "TAU", type := .double, accessFlags := 25, slot := 2, constantValue := 0 }, { name := "DEGREES_TO_RADIANS", type := .double, accessFlags := 26, slot := 3, constantValue := 0 }, { name := "RADIANS_TO_DEGREES", type := .double, accessFlags := 26, slot := 4, constantValue := 0 }, { name := "negativeZeroFloatBits", type := .long, accessFlags := 26, slot := 5, constantValue := 0 }, { name := "negativeZeroDoubleBits", type := .long, accessFlags := 26, slot := 6, constantValue := 0 }, { name := "twoToTheDoubleScaleUp", type := .double, accessFlags := 8, slot := 7, constantValue := 0 }, { name := "twoToTheDoubleScaleDown", type := .double, accessFlags := 8, slot := 8, constantValue := 0 }, { name := "$assertionsDisabled", type := .boolean, accessFlags := 4120, slot := 9, constantValue := 0 }]
  methods := #[k13m0, k13m1]
  instanceTypes := #[]
  staticTypes := #[.double, .double, .double, .double, .double, .long, .long, .double, .double, .boolean]
  resolved := Array.replicate 460 none
  statics := none }

def pool14 : Array CpInfo := pool [(2, .class_ 4), (1, u "java/lang/Object"), (0, u "<init>"), (0, u "()V"), (1, .class_ 10), (1, u "java/lang/System"), (0, u "allowSecurityManager"), (0, u "I"), (16, u "cons"), (0, u "Ljava/io/Console;"), (77, .class_ 110), (1, u "java/lang/System$CallersHolder"), (43, u "initialErrStream"), (0, u "Ljava/io/PrintStream;"), (19, u "security"), (0, u "Ljava/lang/SecurityManager;"), (31, .class_ 209), (0, u "java/lang/System$1"), (7, u "props"), (0, u "Ljava/util/Properties;"), (2, u "lineSeparator"), (0, u "Ljava/lang/String;"), (96, .class_ 321), (1, u "java/lang/System$LoggerFinder"), (5, .class_ 328), (0, u "java/lang/System$Logger"), (67, u "err"), (2, u "out"), (91, u "notSupportedJnuEncoding"), (15, u "in"), (17, u "initialIn"), (0, u "Ljava/io/InputStream;"), (35, u "bootLayer"), (0, u "Ljava/lang/ModuleLayer;"), (99, .class_ 664), (0, u "java/lang/System$2"), (9, u "NEVER"), (2, u "MAYBE"), (49, u "arraycopy"), (0, u "(Ljava/lang/Object;ILjava/lang/Object;II)V"), (72, .class_ 802), (0, u "java/lang/System$Logger$Level")] 31

def k14m0 : Method := { name := "<init>", desc := "()V", sig := { parameters := [], returnType := none }, accessFlags := 2, code := none }
def k14m1 : Method := { name := "arraycopy", desc := "(Ljava/lang/Object;ILjava/lang/Object;II)V", sig := { parameters := [(.object "java/lang/Object"), .int, (.object "java/lang/Object"), .int, .int], returnType := none }, accessFlags := 265, code := none }
/-- java/lang/System -/
def k14 : Class := { plain "java/lang/System" (some 0) with
  accessFlags := 49
  interfaces := #[]
  cf := some (fileOf pool14 8 #[.nestMembers #[319, 327, 801, 108, 663, 208]] #[{ accessFlags := 2, nameIndex := 5, descriptorIndex := 6, attributes := #[] }, { accessFlags := 265, nameIndex := 727, descriptorIndex := 728, attributes := #[] }] 49 2 #[] #[{ accessFlags := 25, nameIndex := 507, descriptorIndex := 526, attributes := #[] }, { accessFlags := 25, nameIndex := 399, descriptorIndex := 155, attributes := #[] }, { accessFlags := 25, nameIndex := 396, descriptorIndex := 155, attributes := #[] }, { accessFlags := 10, nameIndex := 525, descriptorIndex := 526, attributes := #[] }, { accessFlags := 26, nameIndex := 674, descriptorIndex := 12, attributes := #[] }, { accessFlags := 26, nameIndex := 677, descriptorIndex := 12, attributes := #[] }, { accessFlags := 10, nameIndex := 11, descriptorIndex := 12, attributes := #[] }, { accessFlags := 74, nameIndex := 175, descriptorIndex := 176, attributes := #[] }, { accessFlags := 10, nameIndex := 491, descriptorIndex := 222, attributes := #[] }, { accessFlags := 74, nameIndex := 29, descriptorIndex := 30, attributes := #[] }, { accessFlags := 74, nameIndex := 154, descriptorIndex := 155, attributes := #[] }, { accessFlags := 10, nameIndex := 217, descriptorIndex := 218, attributes := #[] }, { accessFlags := 10, nameIndex := 221, descriptorIndex := 222, attributes := #[] }, { accessFlags := 8, nameIndex := 562, descriptorIndex := 563, attributes := #[] }])
  fields := #[{ name := "in", type := (.object "java/io/InputStream"), accessFlags := 25, slot := 0, constantValue := 0 }, { name := "out", type := (.object "java/io/PrintStream"), accessFlags := 25, slot := 1, constantValue := 0 }, { name := "err", type := (.object "java/io/PrintStream"), accessFlags := 25, slot := 2, constantValue := 0 }, { name := "initialIn", type := (.object "java/io/InputStream"), accessFlags := 10, slot := 3, constantValue := 0 }, { name := "NEVER", type := .int, accessFlags := 26, slot := 4, constantValue := 0 }, { name := "MAYBE", type := .int, accessFlags := 26, slot := 5, constantValue := 0 }, { name := "allowSecurityManager", type := .int, accessFlags := 10, slot := 6, constantValue := 0 }, { name := "security", type := (.object "java/lang/SecurityManager"), accessFlags := 74, slot := 7, constantValue := 0 }, { name := "notSupportedJnuEncoding", type := (.object "java/lang/String"), accessFlags := 10, slot := 8, constantValue := 0 }, { name := "cons", type := (.object "java/io/Console"), accessFlags := 74, slot := 9, constantValue := 0 }, { name := "initialErrStream", type := (.object "java/io/PrintStream"), accessFlags := 74, slot := 10, constantValue := 0 }, { name := "props", type := (.object "java/util/Properties"), accessFlags := 10, slot := 11, constantValue := 0 }, { name := "lineSeparator", type := (.object "java/lang/String"), accessFlags := 10, slot := 12, constantValue := 0 }, { name := "bootLayer", type := (.object "java/lang/ModuleLayer"), accessFlags := 8, slot := 13, constantValue := 0 }]
  methods := #[k14m0, k14m1]
  instanceTypes := #[]
  staticTypes := #[(.object "java/io/InputStream"), (.object "java/io/PrintStream"), (.object "java/io/PrintStream"), (.object "java/io/InputStream"), .int, .int, .int, (.object "java/lang/SecurityManager"), (.object "java/lang/String"), (.object "java/io/Console"), (.object "java/io/PrintStream"), (.object "java/util/Properties"), (.object "java/lang/String"), (.object "java/lang/ModuleLayer")]
  resolved := Array.replicate 834 none
  statics := none }

def pool15 : Array CpInfo := pool [(9, u "<init>"), (6, .class_ 18), (1, u "java/lang/Object"), (0, u "()V"), (1, .class_ 23), (1, u "jdk/internal/util/ArraysSupport"), (0, u "LOG2_ARRAY_LONG_INDEX_SCALE"), (0, u "I"), (2, u "U"), (0, u "Ljdk/internal/misc/Unsafe;"), (8, u "BIG_ENDIAN"), (0, u "Z"), (8, u "LOG2_BYTE_BIT_SIZE"), (4, u "LOG2_ARRAY_INT_INDEX_SCALE"), (54, u "JLA"), (0, u "Ljdk/internal/access/JavaLangAccess;"), (11, u "LOG2_ARRAY_BOOLEAN_INDEX_SCALE"), (9, u "LOG2_ARRAY_BYTE_INDEX_SCALE"), (5, u "LOG2_ARRAY_CHAR_INDEX_SCALE"), (5, u "LOG2_ARRAY_SHORT_INDEX_SCALE"), (18, u "LOG2_ARRAY_FLOAT_INDEX_SCALE"), (24, u "LOG2_ARRAY_DOUBLE_INDEX_SCALE"), (89, u "T_BOOLEAN"), (2, u "T_CHAR"), (1, u "T_FLOAT"), (1, u "T_DOUBLE"), (1, u "T_BYTE"), (1, u "T_SHORT"), (1, u "T_INT"), (1, u "T_LONG"), (1, u "SOFT_MAX_ARRAY_LENGTH")] 83

def k15m0 : Method := { name := "<init>", desc := "()V", sig := { parameters := [], returnType := none }, accessFlags := 2, code := none }
/-- jdk/internal/util/ArraysSupport -/
def k15 : Class := { plain "jdk/internal/util/ArraysSupport" (some 0) with
  accessFlags := 33
  interfaces := #[]
  cf := some (fileOf pool15 21 #[] #[{ accessFlags := 2, nameIndex := 9, descriptorIndex := 19, attributes := #[] }] 33 16 #[] #[{ accessFlags := 24, nameIndex := 28, descriptorIndex := 29, attributes := #[] }, { accessFlags := 26, nameIndex := 38, descriptorIndex := 39, attributes := #[] }, { accessFlags := 25, nameIndex := 121, descriptorIndex := 25, attributes := #[] }, { accessFlags := 25, nameIndex := 131, descriptorIndex := 25, attributes := #[] }, { accessFlags := 25, nameIndex := 137, descriptorIndex := 25, attributes := #[] }, { accessFlags := 25, nameIndex := 143, descriptorIndex := 25, attributes := #[] }, { accessFlags := 25, nameIndex := 53, descriptorIndex := 25, attributes := #[] }, { accessFlags := 25, nameIndex := 24, descriptorIndex := 25, attributes := #[] }, { accessFlags := 25, nameIndex := 162, descriptorIndex := 25, attributes := #[] }, { accessFlags := 25, nameIndex := 187, descriptorIndex := 25, attributes := #[] }, { accessFlags := 26, nameIndex := 48, descriptorIndex := 25, attributes := #[] }, { accessFlags := 25, nameIndex := 277, descriptorIndex := 25, attributes := #[] }, { accessFlags := 25, nameIndex := 280, descriptorIndex := 25, attributes := #[] }, { accessFlags := 25, nameIndex := 282, descriptorIndex := 25, attributes := #[] }, { accessFlags := 25, nameIndex := 284, descriptorIndex := 25, attributes := #[] }, { accessFlags := 25, nameIndex := 286, descriptorIndex := 25, attributes := #[] }, { accessFlags := 25, nameIndex := 288, descriptorIndex := 25, attributes := #[] }, { accessFlags := 25, nameIndex := 290, descriptorIndex := 25, attributes := #[] }, { accessFlags := 25, nameIndex := 292, descriptorIndex := 25, attributes := #[] }, { accessFlags := 26, nameIndex := 108, descriptorIndex := 109, attributes := #[] }, { accessFlags := 25, nameIndex := 294, descriptorIndex := 25, attributes := #[] }])
  fields := #[{ name := "U", type := (.object "jdk/internal/misc/Unsafe"), accessFlags := 24, slot := 0, constantValue := 0 }, { name := "BIG_ENDIAN", type := .boolean, accessFlags := 26, slot := 1, constantValue := 0 }, { name := "LOG2_ARRAY_BOOLEAN_INDEX_SCALE", type := .int, accessFlags := 25, slot := 2, constantValue := 0 }, { name := "LOG2_ARRAY_BYTE_INDEX_SCALE", type := .int, accessFlags := 25, slot := 3, constantValue := 0 }, { name := "LOG2_ARRAY_CHAR_INDEX_SCALE", type := .int, accessFlags := 25, slot := 4, constantValue := 0 }, { name := "LOG2_ARRAY_SHORT_INDEX_SCALE", type := .int, accessFlags := 25, slot := 5, constantValue := 0 }, { name := "LOG2_ARRAY_INT_INDEX_SCALE", type := .int, accessFlags := 25, slot := 6, constantValue := 0 }, { name := "LOG2_ARRAY_LONG_INDEX_SCALE", type := .int, accessFlags := 25, slot := 7, constantValue := 0 }, { name := "LOG2_ARRAY_FLOAT_INDEX_SCALE", type := .int, accessFlags := 25, slot := 8, constantValue := 0 }, { name := "LOG2_ARRAY_DOUBLE_INDEX_SCALE", type := .int, accessFlags := 25, slot := 9, constantValue := 0 }, { name := "LOG2_BYTE_BIT_SIZE", type := .int, accessFlags := 26, slot := 10, constantValue := 0 }, { name := "T_BOOLEAN", type := .int, accessFlags := 25, slot := 11, constantValue := 0 }, { name := "T_CHAR", type := .int, accessFlags := 25, slot := 12, constantValue := 0 }, { name := "T_FLOAT", type := .int, accessFlags := 25, slot := 13, constantValue := 0 }, { name := "T_DOUBLE", type := .int, accessFlags := 25, slot := 14, constantValue := 0 }, { name := "T_BYTE", type := .int, accessFlags := 25, slot := 15, constantValue := 0 }, { name := "T_SHORT", type := .int, accessFlags := 25, slot := 16, constantValue := 0 }, { name := "T_INT", type := .int, accessFlags := 25, slot := 17, constantValue := 0 }, { name := "T_LONG", type := .int, accessFlags := 25, slot := 18, constantValue := 0 }, { name := "JLA", type := (.object "jdk/internal/access/JavaLangAccess"), accessFlags := 26, slot := 19, constantValue := 0 }, { name := "SOFT_MAX_ARRAY_LENGTH", type := .int, accessFlags := 25, slot := 20, constantValue := 0 }]
  methods := #[k15m0]
  instanceTypes := #[]
  staticTypes := #[(.object "jdk/internal/misc/Unsafe"), .boolean, .int, .int, .int, .int, .int, .int, .int, .int, .int, .int, .int, .int, .int, .int, .int, .int, .int, (.object "jdk/internal/access/JavaLangAccess"), .int]
  resolved := Array.replicate 378 none
  statics := none }

def pool16 : Array CpInfo := pool [(1, u "java/lang/Cloneable"), (0, .class_ 1), (0, u "java/lang/Object"), (0, .class_ 3)] 3

/-- java/lang/Cloneable -/
def k16 : Class := { plain "java/lang/Cloneable" (some 0) with
  accessFlags := 1537
  interfaces := #[]
  cf := some (fileOf pool16 2 #[] #[] 1537 4 #[] #[])
  fields := #[]
  methods := #[]
  instanceTypes := #[]
  staticTypes := #[]
  resolved := Array.replicate 8 none
  statics := none }

/-- the primitive byte -/
def k17 : Class := { plain "byte" none with kind := .primitive 'B', accessFlags := 0x411 }
/-- [B -/
def k18 : Class := { plain "[B" (some 0) with kind := .array 17 .byte, interfaces := #[16, 2], accessFlags := 1041 }

/-- the primitive char -/
def k19 : Class := { plain "char" none with kind := .primitive 'C', accessFlags := 0x411 }
/-- [C -/
def k20 : Class := { plain "[C" (some 0) with kind := .array 19 .char, interfaces := #[16, 2], accessFlags := 1041 }

/-- the primitive int -/
def k21 : Class := { plain "int" none with kind := .primitive 'I', accessFlags := 0x411 }
/-- [I -/
def k22 : Class := { plain "[I" (some 0) with kind := .array 21 .int, interfaces := #[16, 2], accessFlags := 1041 }

def heap : Heap := #[{ cls := 7, slots := #[.long 0, .int 1, .null, .int 0, .null, .int 0, .int 0], vm := .statics 7 },
  { cls := 9, slots := #[.null, .null, .null], vm := .statics 9 }]
def classes : Array Class := #[k0, k1, k2, k3, k4, k5, k6, k7, k8, k9, k10, k11, k12, k13, k14, k15, k16, k17, k18, k19, k20, k21, k22]
def interned : List (Array UInt16 × Addr) := []
def slotsUsed : Nat := 10
def theMethod : MethodId := ⟨1, 3⟩
def args0 : Array Value := #[.int 3, .int 321, .int 322, .int 0, .int 5]
def aboutOver (below : List Frame) : State where
  vm := { classes := classes, interned := interned.toArray }
  heap := heap
  slotsUsed := slotsUsed
  threads := #[{ frames := .invoking theMethod args0 :: below }]
def below0 : List Frame := [.native { method := ⟨0, 0⟩, args := #[] }]
def about1 : State := aboutOver below0
def p0 : Program := .bare "" "" ""
def e0 : Env := launch0.env 0 0 0
theorem w_frames : about1.frames = Frame.invoking theMethod args0 :: below0 := rfl
set_option maxRecDepth 65536 in
theorem w_args : argsFit about1.vm theMethod args0 = true := by decide +kernel
set_option maxRecDepth 65536 in
theorem w_heap : heapFits about1 = true := by decide +kernel
set_option maxRecDepth 65536 in
theorem w_runnable : about1.curStatus? = some .runnable := by decide +kernel
set_option maxRecDepth 65536 in
theorem w_alone : about1.alone = true := by decide +kernel
set_option maxRecDepth 65536 in
theorem w_named : about1.methodNamed? x = some theMethod := by decide +kernel
set_option maxRecDepth 65536 in
theorem w_hears : about1.hears theMethod below0 = true := by decide +kernel
set_option maxRecDepth 65536 in
theorem w_ripe : about1.ripe theMethod args0 below0 = true := by decide +kernel
theorem w_running : about1.status = .running := rfl
set_option maxRecDepth 65536 in
theorem w_room : about1.hasRoom e0.platform room_1 = true :=
  launch0.hasRoom_least _ room_1 (by decide +kernel) (by decide +kernel) (by decide +kernel) (by decide +kernel) (by decide +kernel) (by decide +kernel)
theorem allAtoms_all (ts : List Jvm.Cond) (a : Array Jvm.Value) (st : Jvm.State) : (allAtoms ts).before a st = ts.all (fun c => c.before a st) := by
  induction ts with
  | nil => rfl
  | cons c t ih =>
    show (Jvm.Cond.and c (allAtoms t)).before a st = _
    rw [Jvm.Cond.before_and, ih, List.all_cons]
def words1 : List Jvm.Cond := Jvm.Cond.code x code maxLocals ret :: tables_1
/-- a 'code' word, met by the world's own term for the bytes: nothing is compared byte by byte -/
theorem code_word {y : MethodName} {bytes : ByteArray} {mx : Nat} {rt : Option FieldType} {a : Array Value} {s : State} {m : MethodId} {meth : Method} {c : Code} (h1 : s.methodNamed? y = some m) (h2 : s.vm.method? m = some meth) (h3 : meth.code = some c) (h4 : c.code = bytes)
    (h5 : (c.maxLocals == mx && c.exceptionTable.isEmpty && decide (c.maxStack ≤ mostOperands) && decide (meth.sig.returnType = rt) && !meth.locks && decide (parseMethodDescriptor y.desc = some meth.sig)) = true) : (Jvm.Cond.code y bytes mx rt).before a s = true := by
  simp only [Bool.and_eq_true, beq_iff_eq, Bool.not_eq_true', decide_eq_true_eq] at h5
  obtain ⟨⟨⟨⟨⟨g1, g2⟩, g3⟩, g4⟩, g5⟩, g6⟩ := h5
  simp [Cond.before, Cond.holds, Cond.value, h1, h2, h3, h4, g1, g2, g3, g4, g5, g6]
def isCode : Jvm.Cond → Bool
  | .code _ _ _ _ => true
  | _ => false
theorem all_split {L : List Jvm.Cond} {P : Jvm.Cond → Bool} (h1 : L.all (fun c => isCode c || P c) = true) (h2 : ∀ c ∈ L.filter isCode, P c = true) : L.all P = true := by
  refine List.all_eq_true.mpr fun c hc => ?_
  have h := List.all_eq_true.mp h1 c hc
  rcases Bool.eq_false_or_eq_true (isCode c) with hi | hi
  · exact h2 c (List.mem_filter.mpr ⟨hc, hi⟩)
  · simpa [hi] using h
set_option maxRecDepth 65536 in
theorem w_c0 : (Jvm.Cond.code x code maxLocals ret).before args0 about1 = true := code_word (m := ⟨1, 3⟩) (meth := k1m3) (c := k1c3) (by decide +kernel) rfl rfl rfl (by decide +kernel)
set_option maxRecDepth 65536 in
theorem w_c1 : (Jvm.Cond.code ({ cls := "com/example/puffin/puffin/conversion/StoredFormUnpaddedPinLaw", name := "ch", desc := "(I)C" } : Jvm.MethodName) method_2_code (1 : Nat) (Option.some Jvm.ClassFile.FieldType.char)).before args0 about1 = true := code_word (m := ⟨1, 1⟩) (meth := k1m1) (c := k1c1) (by decide +kernel) rfl rfl rfl (by decide +kernel)
set_option maxRecDepth 65536 in
theorem w_c2 : (Jvm.Cond.code ({ cls := "java/lang/String", name := "<init>", desc := "([C)V" } : Jvm.MethodName) jdk_42_method_3_code (2 : Nat) (Option.none : Option Jvm.ClassFile.FieldType)).before args0 about1 = true := code_word (m := ⟨7, 1⟩) (meth := k7m1) (c := k7c1) (by decide +kernel) rfl rfl rfl (by decide +kernel)
set_option maxRecDepth 65536 in
theorem w_c3 : (Jvm.Cond.code ({ cls := "java/lang/String", name := "<init>", desc := "([CIILjava/lang/Void;)V" } : Jvm.MethodName) jdk_42_method_149_code (6 : Nat) (Option.none : Option Jvm.ClassFile.FieldType)).before args0 about1 = true := code_word (m := ⟨7, 5⟩) (meth := k7m5) (c := k7c5) (by decide +kernel) rfl rfl rfl (by decide +kernel)
set_option maxRecDepth 65536 in
theorem w_c4 : (Jvm.Cond.code ({ cls := "java/lang/Object", name := "<init>", desc := "()V" } : Jvm.MethodName) object_method_1_code (1 : Nat) (Option.none : Option Jvm.ClassFile.FieldType)).before args0 about1 = true := code_word (m := ⟨0, 0⟩) (meth := k0m0) (c := k0c0) (by decide +kernel) rfl rfl rfl (by decide +kernel)
set_option maxRecDepth 65536 in
theorem w_c5 : (Jvm.Cond.code ({ cls := "com/example/puffin/puffin/conversion/StoredForm", name := "unpadded", desc := "(Ljava/lang/String;)Ljava/lang/String;" } : Jvm.MethodName) prog_30_method_5_code (2 : Nat) (Option.some (Jvm.ClassFile.FieldType.object "java/lang/String"))).before args0 about1 = true := code_word (m := ⟨8, 0⟩) (meth := k8m0) (c := k8c0) (by decide +kernel) rfl rfl rfl (by decide +kernel)
set_option maxRecDepth 65536 in
theorem w_c6 : (Jvm.Cond.code ({ cls := "java/lang/String", name := "length", desc := "()I" } : Jvm.MethodName) jdk_42_method_54_code (1 : Nat) (Option.some Jvm.ClassFile.FieldType.int)).before args0 about1 = true := code_word (m := ⟨7, 2⟩) (meth := k7m2) (c := k7c2) (by decide +kernel) rfl rfl rfl (by decide +kernel)
set_option maxRecDepth 65536 in
theorem w_c7 : (Jvm.Cond.code ({ cls := "java/lang/String", name := "coder", desc := "()B" } : Jvm.MethodName) jdk_42_method_152_code (1 : Nat) (Option.some Jvm.ClassFile.FieldType.byte)).before args0 about1 = true := code_word (m := ⟨7, 7⟩) (meth := k7m7) (c := k7c7) (by decide +kernel) rfl rfl rfl (by decide +kernel)
set_option maxRecDepth 65536 in
theorem w_c8 : (Jvm.Cond.code ({ cls := "java/lang/String", name := "substring", desc := "(II)Ljava/lang/String;" } : Jvm.MethodName) jdk_42_method_92_code (5 : Nat) (Option.some (Jvm.ClassFile.FieldType.object "java/lang/String"))).before args0 about1 = true := code_word (m := ⟨7, 4⟩) (meth := k7m4) (c := k7c4) (by decide +kernel) rfl rfl rfl (by decide +kernel)
set_option maxRecDepth 65536 in
theorem w_c9 : (Jvm.Cond.code ({ cls := "java/lang/String", name := "checkBoundsBeginEnd", desc := "(III)V" } : Jvm.MethodName) jdk_42_method_158_code (3 : Nat) (Option.none : Option Jvm.ClassFile.FieldType)).before args0 about1 = true := code_word (m := ⟨7, 10⟩) (meth := k7m10) (c := k7c10) (by decide +kernel) rfl rfl rfl (by decide +kernel)
set_option maxRecDepth 65536 in
theorem w_c10 : (Jvm.Cond.code ({ cls := "jdk/internal/util/Preconditions", name := "checkFromToIndex", desc := "(IIILjava/util/function/BiFunction;)I" } : Jvm.MethodName) jdk_41_method_12_code (4 : Nat) (Option.some Jvm.ClassFile.FieldType.int)).before args0 about1 = true := code_word (m := ⟨9, 2⟩) (meth := k9m2) (c := k9c2) (by decide +kernel) rfl rfl rfl (by decide +kernel)
set_option maxRecDepth 65536 in
theorem w_c11 : (Jvm.Cond.code ({ cls := "com/example/puffin/puffin/conversion/StoredFormUnpaddedPinLaw", name := "at", desc := "(Ljava/lang/String;II[CI)Z" } : Jvm.MethodName) method_3_code (5 : Nat) (Option.some Jvm.ClassFile.FieldType.boolean)).before args0 about1 = true := code_word (m := ⟨1, 2⟩) (meth := k1m2) (c := k1c2) (by decide +kernel) rfl rfl rfl (by decide +kernel)
set_option maxRecDepth 65536 in
theorem w_c12 : (Jvm.Cond.code ({ cls := "java/lang/StringUTF16", name := "compress", desc := "([CII)[B" } : Jvm.MethodName) jdk_52_method_16_code (6 : Nat) (Option.some (Jvm.ClassFile.FieldType.array Jvm.ClassFile.FieldType.byte))).before args0 about1 = true := code_word (m := ⟨10, 2⟩) (meth := k10m2) (c := k10c2) (by decide +kernel) rfl rfl rfl (by decide +kernel)
set_option maxRecDepth 65536 in
theorem w_c13 : (Jvm.Cond.code ({ cls := "java/lang/StringUTF16", name := "compress", desc := "([CI[BII)I" } : Jvm.MethodName) jdk_52_method_21_code (7 : Nat) (Option.some Jvm.ClassFile.FieldType.int)).before args0 about1 = true := code_word (m := ⟨10, 3⟩) (meth := k10m3) (c := k10c3) (by decide +kernel) rfl rfl rfl (by decide +kernel)
set_option maxRecDepth 65536 in
theorem w_c14 : (Jvm.Cond.code ({ cls := "java/lang/StringUTF16", name := "coderFromArrayLen", desc := "([BI)B" } : Jvm.MethodName) jdk_52_method_15_code (2 : Nat) (Option.some Jvm.ClassFile.FieldType.byte)).before args0 about1 = true := code_word (m := ⟨10, 1⟩) (meth := k10m1) (c := k10c1) (by decide +kernel) rfl rfl rfl (by decide +kernel)
set_option maxRecDepth 65536 in
theorem w_c15 : (Jvm.Cond.code ({ cls := "java/lang/String", name := "charAt", desc := "(I)C" } : Jvm.MethodName) jdk_42_method_56_code (2 : Nat) (Option.some Jvm.ClassFile.FieldType.char)).before args0 about1 = true := code_word (m := ⟨7, 3⟩) (meth := k7m3) (c := k7c3) (by decide +kernel) rfl rfl rfl (by decide +kernel)
set_option maxRecDepth 65536 in
theorem w_c16 : (Jvm.Cond.code ({ cls := "java/lang/String", name := "isLatin1", desc := "()Z" } : Jvm.MethodName) jdk_42_method_154_code (1 : Nat) (Option.some Jvm.ClassFile.FieldType.boolean)).before args0 about1 = true := code_word (m := ⟨7, 8⟩) (meth := k7m8) (c := k7c8) (by decide +kernel) rfl rfl rfl (by decide +kernel)
set_option maxRecDepth 65536 in
theorem w_c17 : (Jvm.Cond.code ({ cls := "java/lang/StringLatin1", name := "charAt", desc := "([BI)C" } : Jvm.MethodName) jdk_43_method_2_code (2 : Nat) (Option.some Jvm.ClassFile.FieldType.char)).before args0 about1 = true := code_word (m := ⟨11, 1⟩) (meth := k11m1) (c := k11c1) (by decide +kernel) rfl rfl rfl (by decide +kernel)
set_option maxRecDepth 65536 in
theorem w_c18 : (Jvm.Cond.code ({ cls := "java/lang/String", name := "checkIndex", desc := "(II)V" } : Jvm.MethodName) jdk_42_method_155_code (2 : Nat) (Option.none : Option Jvm.ClassFile.FieldType)).before args0 about1 = true := code_word (m := ⟨7, 9⟩) (meth := k7m9) (c := k7c9) (by decide +kernel) rfl rfl rfl (by decide +kernel)
set_option maxRecDepth 65536 in
theorem w_c19 : (Jvm.Cond.code ({ cls := "jdk/internal/util/Preconditions", name := "checkIndex", desc := "(IILjava/util/function/BiFunction;)I" } : Jvm.MethodName) jdk_41_method_11_code (3 : Nat) (Option.some Jvm.ClassFile.FieldType.int)).before args0 about1 = true := code_word (m := ⟨9, 1⟩) (meth := k9m1) (c := k9c1) (by decide +kernel) rfl rfl rfl (by decide +kernel)
set_option maxRecDepth 65536 in
theorem w_c20 : (Jvm.Cond.code ({ cls := "java/lang/StringLatin1", name := "newString", desc := "([BII)Ljava/lang/String;" } : Jvm.MethodName) jdk_43_method_47_code (3 : Nat) (Option.some (Jvm.ClassFile.FieldType.object "java/lang/String"))).before args0 about1 = true := code_word (m := ⟨11, 2⟩) (meth := k11m2) (c := k11c2) (by decide +kernel) rfl rfl rfl (by decide +kernel)
set_option maxRecDepth 65536 in
theorem w_c21 : (Jvm.Cond.code ({ cls := "java/util/Arrays", name := "copyOfRange", desc := "([BII)[B" } : Jvm.MethodName) jdk_65_method_132_code (3 : Nat) (Option.some (Jvm.ClassFile.FieldType.array Jvm.ClassFile.FieldType.byte))).before args0 about1 = true := code_word (m := ⟨12, 2⟩) (meth := k12m2) (c := k12c2) (by decide +kernel) rfl rfl rfl (by decide +kernel)
set_option maxRecDepth 65536 in
theorem w_c22 : (Jvm.Cond.code ({ cls := "java/util/Arrays", name := "copyOfRangeByte", desc := "([BII)[B" } : Jvm.MethodName) jdk_65_method_133_code (5 : Nat) (Option.some (Jvm.ClassFile.FieldType.array Jvm.ClassFile.FieldType.byte))).before args0 about1 = true := code_word (m := ⟨12, 3⟩) (meth := k12m3) (c := k12c3) (by decide +kernel) rfl rfl rfl (by decide +kernel)
set_option maxRecDepth 65536 in
theorem w_c23 : (Jvm.Cond.code ({ cls := "java/util/Arrays", name := "checkLength", desc := "(II)V" } : Jvm.MethodName) jdk_65_method_131_code (2 : Nat) (Option.none : Option Jvm.ClassFile.FieldType)).before args0 about1 = true := code_word (m := ⟨12, 1⟩) (meth := k12m1) (c := k12c1) (by decide +kernel) rfl rfl rfl (by decide +kernel)
set_option maxRecDepth 65536 in
theorem w_c24 : (Jvm.Cond.code ({ cls := "java/lang/Math", name := "min", desc := "(II)I" } : Jvm.MethodName) jdk_29_method_69_code (2 : Nat) (Option.some Jvm.ClassFile.FieldType.int)).before args0 about1 = true := code_word (m := ⟨13, 1⟩) (meth := k13m1) (c := k13c1) (by decide +kernel) rfl rfl rfl (by decide +kernel)
set_option maxRecDepth 65536 in
theorem w_c25 : (Jvm.Cond.code ({ cls := "java/lang/String", name := "<init>", desc := "([BB)V" } : Jvm.MethodName) jdk_42_method_151_code (3 : Nat) (Option.none : Option Jvm.ClassFile.FieldType)).before args0 about1 = true := code_word (m := ⟨7, 6⟩) (meth := k7m6) (c := k7c6) (by decide +kernel) rfl rfl rfl (by decide +kernel)
def codes1 : List Jvm.Cond := [Jvm.Cond.code x code maxLocals ret, Jvm.Cond.code ({ cls := "com/example/puffin/puffin/conversion/StoredFormUnpaddedPinLaw", name := "ch", desc := "(I)C" } : Jvm.MethodName) method_2_code (1 : Nat) (Option.some Jvm.ClassFile.FieldType.char), Jvm.Cond.code ({ cls := "java/lang/String", name := "<init>", desc := "([C)V" } : Jvm.MethodName) jdk_42_method_3_code (2 : Nat) (Option.none : Option Jvm.ClassFile.FieldType), Jvm.Cond.code ({ cls := "java/lang/String", name := "<init>", desc := "([CIILjava/lang/Void;)V" } : Jvm.MethodName) jdk_42_method_149_code (6 : Nat) (Option.none : Option Jvm.ClassFile.FieldType), Jvm.Cond.code ({ cls := "java/lang/Object", name := "<init>", desc := "()V" } : Jvm.MethodName) object_method_1_code (1 : Nat) (Option.none : Option Jvm.ClassFile.FieldType), Jvm.Cond.code ({ cls := "com/example/puffin/puffin/conversion/StoredForm", name := "unpadded", desc := "(Ljava/lang/String;)Ljava/lang/String;" } : Jvm.MethodName) prog_30_method_5_code (2 : Nat) (Option.some (Jvm.ClassFile.FieldType.object "java/lang/String")), Jvm.Cond.code ({ cls := "java/lang/String", name := "length", desc := "()I" } : Jvm.MethodName) jdk_42_method_54_code (1 : Nat) (Option.some Jvm.ClassFile.FieldType.int), Jvm.Cond.code ({ cls := "java/lang/String", name := "coder", desc := "()B" } : Jvm.MethodName) jdk_42_method_152_code (1 : Nat) (Option.some Jvm.ClassFile.FieldType.byte), Jvm.Cond.code ({ cls := "java/lang/String", name := "substring", desc := "(II)Ljava/lang/String;" } : Jvm.MethodName) jdk_42_method_92_code (5 : Nat) (Option.some (Jvm.ClassFile.FieldType.object "java/lang/String")), Jvm.Cond.code ({ cls := "java/lang/String", name := "checkBoundsBeginEnd", desc := "(III)V" } : Jvm.MethodName) jdk_42_method_158_code (3 : Nat) (Option.none : Option Jvm.ClassFile.FieldType), Jvm.Cond.code ({ cls := "jdk/internal/util/Preconditions", name := "checkFromToIndex", desc := "(IIILjava/util/function/BiFunction;)I" } : Jvm.MethodName) jdk_41_method_12_code (4 : Nat) (Option.some Jvm.ClassFile.FieldType.int), Jvm.Cond.code ({ cls := "com/example/puffin/puffin/conversion/StoredFormUnpaddedPinLaw", name := "at", desc := "(Ljava/lang/String;II[CI)Z" } : Jvm.MethodName) method_3_code (5 : Nat) (Option.some Jvm.ClassFile.FieldType.boolean), Jvm.Cond.code ({ cls := "java/lang/StringUTF16", name := "compress", desc := "([CII)[B" } : Jvm.MethodName) jdk_52_method_16_code (6 : Nat) (Option.some (Jvm.ClassFile.FieldType.array Jvm.ClassFile.FieldType.byte)), Jvm.Cond.code ({ cls := "java/lang/StringUTF16", name := "compress", desc := "([CI[BII)I" } : Jvm.MethodName) jdk_52_method_21_code (7 : Nat) (Option.some Jvm.ClassFile.FieldType.int), Jvm.Cond.code ({ cls := "java/lang/StringUTF16", name := "coderFromArrayLen", desc := "([BI)B" } : Jvm.MethodName) jdk_52_method_15_code (2 : Nat) (Option.some Jvm.ClassFile.FieldType.byte), Jvm.Cond.code ({ cls := "java/lang/String", name := "charAt", desc := "(I)C" } : Jvm.MethodName) jdk_42_method_56_code (2 : Nat) (Option.some Jvm.ClassFile.FieldType.char), Jvm.Cond.code ({ cls := "java/lang/String", name := "isLatin1", desc := "()Z" } : Jvm.MethodName) jdk_42_method_154_code (1 : Nat) (Option.some Jvm.ClassFile.FieldType.boolean), Jvm.Cond.code ({ cls := "java/lang/StringLatin1", name := "charAt", desc := "([BI)C" } : Jvm.MethodName) jdk_43_method_2_code (2 : Nat) (Option.some Jvm.ClassFile.FieldType.char), Jvm.Cond.code ({ cls := "java/lang/String", name := "checkIndex", desc := "(II)V" } : Jvm.MethodName) jdk_42_method_155_code (2 : Nat) (Option.none : Option Jvm.ClassFile.FieldType), Jvm.Cond.code ({ cls := "jdk/internal/util/Preconditions", name := "checkIndex", desc := "(IILjava/util/function/BiFunction;)I" } : Jvm.MethodName) jdk_41_method_11_code (3 : Nat) (Option.some Jvm.ClassFile.FieldType.int), Jvm.Cond.code ({ cls := "java/lang/StringLatin1", name := "newString", desc := "([BII)Ljava/lang/String;" } : Jvm.MethodName) jdk_43_method_47_code (3 : Nat) (Option.some (Jvm.ClassFile.FieldType.object "java/lang/String")), Jvm.Cond.code ({ cls := "java/util/Arrays", name := "copyOfRange", desc := "([BII)[B" } : Jvm.MethodName) jdk_65_method_132_code (3 : Nat) (Option.some (Jvm.ClassFile.FieldType.array Jvm.ClassFile.FieldType.byte)), Jvm.Cond.code ({ cls := "java/util/Arrays", name := "copyOfRangeByte", desc := "([BII)[B" } : Jvm.MethodName) jdk_65_method_133_code (5 : Nat) (Option.some (Jvm.ClassFile.FieldType.array Jvm.ClassFile.FieldType.byte)), Jvm.Cond.code ({ cls := "java/util/Arrays", name := "checkLength", desc := "(II)V" } : Jvm.MethodName) jdk_65_method_131_code (2 : Nat) (Option.none : Option Jvm.ClassFile.FieldType), Jvm.Cond.code ({ cls := "java/lang/Math", name := "min", desc := "(II)I" } : Jvm.MethodName) jdk_29_method_69_code (2 : Nat) (Option.some Jvm.ClassFile.FieldType.int), Jvm.Cond.code ({ cls := "java/lang/String", name := "<init>", desc := "([BB)V" } : Jvm.MethodName) jdk_42_method_151_code (3 : Nat) (Option.none : Option Jvm.ClassFile.FieldType)]
set_option maxRecDepth 65536 in
theorem codes_eq : words1.filter isCode = codes1 := rfl
theorem w_codes : ∀ c ∈ words1.filter isCode, c.before args0 about1 = true := by
  rw [codes_eq]
  intro c hc
  simp only [codes1, List.mem_cons, List.not_mem_nil, or_false] at hc
  rcases hc with rfl | rfl | rfl | rfl | rfl | rfl | rfl | rfl | rfl | rfl | rfl | rfl | rfl | rfl | rfl | rfl | rfl | rfl | rfl | rfl | rfl | rfl | rfl | rfl | rfl | rfl
  · exact w_c0
  · exact w_c1
  · exact w_c2
  · exact w_c3
  · exact w_c4
  · exact w_c5
  · exact w_c6
  · exact w_c7
  · exact w_c8
  · exact w_c9
  · exact w_c10
  · exact w_c11
  · exact w_c12
  · exact w_c13
  · exact w_c14
  · exact w_c15
  · exact w_c16
  · exact w_c17
  · exact w_c18
  · exact w_c19
  · exact w_c20
  · exact w_c21
  · exact w_c22
  · exact w_c23
  · exact w_c24
  · exact w_c25
set_option maxRecDepth 65536 in
theorem w_t1 : (words1.take 24).all (fun c => isCode c || c.before args0 about1) = true := by decide +kernel
set_option maxRecDepth 65536 in
theorem w_t2 : ((words1.drop 24).take 24).all (fun c => isCode c || c.before args0 about1) = true := by decide +kernel
set_option maxRecDepth 65536 in
theorem w_t3 : (((words1.drop 24).drop 24).take 24).all (fun c => isCode c || c.before args0 about1) = true := by decide +kernel
set_option maxRecDepth 65536 in
theorem w_t4 : ((((words1.drop 24).drop 24).drop 24).take 24).all (fun c => isCode c || c.before args0 about1) = true := by decide +kernel
set_option maxRecDepth 65536 in
theorem w_t5 : ((((words1.drop 24).drop 24).drop 24).drop 24).all (fun c => isCode c || c.before args0 about1) = true := by decide +kernel
theorem w_tables : (allAtoms (Jvm.Cond.code x code maxLocals ret :: tables_1)).before args0 about1 = true := by
  rw [allAtoms_all]
  show words1.all (fun c => c.before args0 about1) = true
  refine all_split ?_ w_codes
  rw [← List.take_append_drop 24 words1, List.all_append, w_t1, ← List.take_append_drop 24 (words1.drop 24), List.all_append, w_t2, ← List.take_append_drop 24 ((words1.drop 24).drop 24), List.all_append, w_t3, ← List.take_append_drop 24 (((words1.drop 24).drop 24).drop 24), List.all_append, w_t4, w_t5]
  rfl
set_option maxRecDepth 65536 in
theorem w_rest : rest_1_c.before args0 about1 = true := by decide +kernel
set_option maxRecDepth 65536 in
theorem w_case : (Jvm.Cond.and given_1 narrow_1).before args0 about1 = true := by decide +kernel
set_option maxRecDepth 65536 in
theorem w_consts : constsHeld consts_1 about1 := Jvm.Lit.constsHeldB_iff.mp (by decide +kernel)
theorem w_applies : (headSpec (Jvm.Cond.code x code maxLocals ret :: tables_1) room_1).applies x e0.platform about1 = true :=
  (Spec.applies_iff w_frames).mpr ⟨w_running, w_runnable, w_alone, w_named, w_hears, w_ripe, w_room, w_tables⟩
theorem atStart : AtStart classFile x code maxLocals ret World_1 tables_1 room_1 Calls_1 rest_1 Pre_1 launch0 p0 e0 about1 theMethod args0 below0 :=
  ⟨lists_1, trivial, launch0.admits_env _ _ _, launch0.least_env, fairChoices_fair.cas, fairChoices_fair.clock, w_frames, w_args, w_heap, w_applies, ⟨w_consts, trivial⟩, w_rest, w_case⟩
end start1
theorem witness_1 : WitnessClaimed_1 := ⟨start1.p0, start1.e0, start1.about1, start1.theMethod, start1.args0, start1.below0, start1.atStart⟩
end Jvm.Pilot.@@N@@
