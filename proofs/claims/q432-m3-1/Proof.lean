import JvmDerived
import JvmDerived.Pilot.@@N@@Statement
import JvmDerived.Pilot.@@N@@Code
set_option linter.unusedVariables false
set_option linter.unusedSimpArgs false
namespace Jvm.Pilot.@@N@@
open Jvm Jvm.ClassFile Sem Op Lib Jvm.Free Jvm.Stand Jvm.LawKit Jvm.RoadKit Bundle Jvm.Pilot.@@N@@.Jvm.D
/-- cells made since the law began, none of them a booked literal's -/
def OwnL (Z : State) (EL : List (String × Nat)) (n0 : Nat) (vm : Vm) (h : Heap) (sf : List Addr) : Prop := ∀ x ∈ sf, x < h.size ∧ n0 ≤ x ∧ Safe Z EL vm h x
/-- all that a walk bears at one point -/
def Wk (l : Launch) (Z : State) (a0 : Array Value) (EL : List (String × Nat)) (n0 : Nat) (R : Room) (own : String) (bytes : ByteArray) (maxL : Nat) (ret : Option FieldType) (nm : String) (h : Heap) (sf : List Addr) (ce sl : Nat)
    (p : Program) (e : Env) (s : State) (m : MethodId) (args : Array Value) (below : List Frame) (meth : Method) (c : Code) (T : State) : Prop :=
  (p.tables.exec = Jvm.exec ∧ c.code = bytes ∧ c.maxLocals = maxL ∧ meth.sig.returnType = ret ∧ meth.name = nm ∧ meth.locks = false ∧ EW Z a0 EL ∧ Old Z n0 h) ∧
    ∃ (vm0 : Vm) (locs : List Loc) (k0 : Nat), Stand p l e R (s.setVm vm0) m args below meth c T locs ce sl ∧ T.heap = h ∧ s.Since vm0 k0 ∧ k0 ≤ h.size ∧ Z.Warmed39 vm0 ∧ vm0.findClass own = some m.cls ∧ Fr n0 locs ∧ CHr Z EL s.vm s.heap vm0 h ∧ OwnL Z EL n0 vm0 h sf
/-- the run from here ends as Q says -/
def Fin1 (Z : State) (EL : List (String × Nat)) (n0 : Nat) (R : Room) (Q : Option Value → Heap → List Addr → Prop) (p : Program) (e : Env) (s : State) (below : List Frame) (U : State) : Prop :=
  ∃ t o, Steps p.tables e below U t ∧ t.status = .running ∧ Ended t below o ∧ ∃ v L sf, o = .returned v ∧ Q v t.heap sf ∧ Fr n0 L ∧ CHr Z EL s.vm s.heap t.vm t.heap ∧ OwnL Z EL n0 t.vm t.heap sf ∧ Old Z n0 t.heap ∧ ReturnedEndW s o t L R.cells R.slots
/-- from every such point, with this frame on top, the run ends as Q says -/
def Go (l : Launch) (Z : State) (a0 : Array Value) (EL : List (String × Nat)) (n0 : Nat) (R : Room) (own : String) (bytes : ByteArray) (maxL : Nat) (ret : Option FieldType) (nm : String) (Q : Option Value → Heap → List Addr → Prop)
    (h : Heap) (sf : List Addr) (ce sl pc : Nat) (ls : Array Slot) (st : List Value) : Prop :=
  ∀ p e s m args below meth c T, Wk l Z a0 EL n0 R own bytes maxL ret nm h sf ce sl p e s m args below meth c T → Fin1 Z EL n0 R Q p e s below (T.setTop (mkF m pc ls st))
/-- a body's contract -/
def Con (l : Launch) (Z : State) (EL : List (String × Nat)) (n0 : Nat) (y : MethodName) (bytes : ByteArray) (maxL : Nat) (ret : Option FieldType) (ws : List Jvm.Cond) (R : Room) (as : Array Value) (h : Heap) (sf : List Addr) (Q : Option Value → Heap → List Addr → Prop) : Prop :=
  MetFree l y (head1 (Jvm.Cond.code y bytes maxL ret :: ws) R) (fun a U => a = as ∧ Z.Warmed39 U.vm ∧ U.heap = h ∧ CHv Z EL U.vm h ∧ OwnL Z EL n0 U.vm h sf ∧ Old Z n0 h) (fun _ _ _ _ _ => True)
    (fun _ U o U' => ∃ v L sf', o = .returned v ∧ Q v U'.heap sf' ∧ Fr n0 L ∧ CHr Z EL U.vm U.heap U'.vm U'.heap ∧ OwnL Z EL n0 U'.vm U'.heap sf' ∧ Old Z n0 U'.heap ∧ ReturnedEndW U o U' L R.cells R.slots)
section Walk
variable {l : Launch} {Z : State} {a0 : Array Value} {EL : List (String × Nat)} {n0 : Nat} {R : Room} {own : String} {bytes : ByteArray} {maxL : Nat} {ret : Option FieldType} {nm : String} {Q : Option Value → Heap → List Addr → Prop}
  {h : Heap} {sf : List Addr} {ce sl pc pc' pt : Nat} {ls ls' : Array Slot} {st rest : List Value}
theorem OwnL.nil {vm : Vm} : OwnL Z EL n0 vm h [] := fun _ q => nomatch q
theorem OwnL.cons {vm : Vm} {x : Addr} (h1 : x < h.size) (h2 : n0 ≤ x) (h3 : Safe Z EL vm h x) (O : OwnL Z EL n0 vm h sf) : OwnL Z EL n0 vm h (x :: sf) := fun y q => by
  rcases List.mem_cons.mp q with rfl | q
  · exact ⟨h1, h2, h3⟩
  · exact O y q
theorem OwnL.app {vm : Vm} {sf' : List Addr} (A : OwnL Z EL n0 vm h sf') (B : OwnL Z EL n0 vm h sf) : OwnL Z EL n0 vm h (sf' ++ sf) := fun y q => (List.mem_append.mp q).elim (A y) (B y)
theorem OwnL.sub {vm : Vm} {sf' : List Addr} (B : OwnL Z EL n0 vm h sf) (q : ∀ x ∈ sf', x ∈ sf) : OwnL Z EL n0 vm h sf' := fun y r => B y (q y r)
theorem OwnL.mv {vm vm1 : Vm} {h' : Heap} (A : CHr Z EL vm h vm1 h') (B : OwnL Z EL n0 vm h sf) : OwnL Z EL n0 vm1 h' sf := fun y r => by
  obtain ⟨q1, q2, q3⟩ := B y r
  exact ⟨Nat.lt_of_lt_of_le q1 A.2.1, q2, A.safe q1 q3⟩
/-- fewer owned cells, the same walk -/
theorem Go.sub {sf' : List Addr} (hr : Go l Z a0 EL n0 R own bytes maxL ret nm Q h sf' ce sl pc ls st) (q : ∀ x ∈ sf', x ∈ sf) : Go l Z a0 EL n0 R own bytes maxL ret nm Q h sf ce sl pc ls st := by
  intro p e s m args below meth c T W
  obtain ⟨W1, vm0, locs, k0, X, eT, hS, hk, hZ, hown, N, C, O⟩ := W
  exact hr p e s m args below meth c T ⟨W1, vm0, locs, k0, X, eT, hS, hk, hZ, hown, N, C, O.sub q⟩
theorem Go.old (hr : Old Z n0 h → Go l Z a0 EL n0 R own bytes maxL ret nm Q h sf ce sl pc ls st) : Go l Z a0 EL n0 R own bytes maxL ret nm Q h sf ce sl pc ls st := by
  intro p e s m args below meth c T W
  exact hr W.1.2.2.2.2.2.2.2 p e s m args below meth c T W
theorem Go.owned (hr : (∀ x ∈ sf, x < h.size ∧ n0 ≤ x) → Go l Z a0 EL n0 R own bytes maxL ret nm Q h sf ce sl pc ls st) : Go l Z a0 EL n0 R own bytes maxL ret nm Q h sf ce sl pc ls st := by
  intro p e s m args below meth c T W
  refine hr (fun x q => ?_) p e s m args below meth c T W
  obtain ⟨W1, vm0, locs, k0, X, eT, hS, hk, hZ, hown, N, C, O⟩ := W
  exact ⟨(O x q).1, (O x q).2.1⟩
theorem Go.more {ce' sl' : Nat} (hr : Go l Z a0 EL n0 R own bytes maxL ret nm Q h sf ce' sl' pc ls st) (q1 : ce ≤ ce') (q2 : sl ≤ sl') : Go l Z a0 EL n0 R own bytes maxL ret nm Q h sf ce sl pc ls st := by
  intro p e s m args below meth c T W
  obtain ⟨W1, vm0, locs, k0, X, r⟩ := W
  exact hr p e s m args below meth c T ⟨W1, vm0, locs, k0, ⟨X.admits, X.cas, X.clock, X.frames, X.room, X.hears, X.method, X.code, X.here, X.tail, X.warmed, X.limits, X.bytes, X.same.mono q1 q2⟩, r⟩
theorem Go.mono {Q' : Option Value → Heap → List Addr → Prop} (hr : Go l Z a0 EL n0 R own bytes maxL ret nm Q' h sf ce sl pc ls st) (q : ∀ v h' sf', Q' v h' sf' → Q v h' sf') : Go l Z a0 EL n0 R own bytes maxL ret nm Q h sf ce sl pc ls st := by
  intro p e s m args below meth c T W
  obtain ⟨t, o, h1, h2, h3, v, L, sf', e1, h4, h5⟩ := hr p e s m args below meth c T W
  exact ⟨t, o, h1, h2, h3, v, L, sf', e1, q _ _ _ h4, h5⟩
/-- one step that moves the frame alone -/
theorem go_step (hr : Go l Z a0 EL n0 R own bytes maxL ret nm Q h sf ce sl pc' ls' rest)
    (k : ∀ {p : Program} {e : Env} {m : MethodId} {below : List Frame} {c : Code} {T t : State}, At T m c below → p.tables.exec = Jvm.exec → c.code = bytes → Steps p.tables e below (T.setTop (mkF m pc' ls' rest)) t → Steps p.tables e below (T.setTop (mkF m pc ls st)) t) :
    Go l Z a0 EL n0 R own bytes maxL ret nm Q h sf ce sl pc ls st := by
  intro p e s m args below meth c T W
  obtain ⟨t, o, h1, h2⟩ := hr p e s m args below meth c T W
  obtain ⟨⟨hx, hby, -⟩, vm0, locs, k0, X, -⟩ := W
  exact ⟨t, o, k X.here hx hby h1, h2⟩
/-- one step that may resolve an entry: the heap as it was -/
theorem go_move (hr : Go l Z a0 EL n0 R own bytes maxL ret nm Q h sf ce sl pc' ls' rest)
    (k : ∀ {p : Program} {e : Env} {s : State} {m : MethodId} {args : Array Value} {below : List Frame} {meth : Method} {c : Code} {T : State} {locs : List Loc}, Stand p l e R s m args below meth c T locs ce sl → p.tables.exec = Jvm.exec → c.code = bytes → c.maxLocals = maxL → T.heap = h → Z.Warmed39 s.vm → s.vm.findClass own = some m.cls → Old Z n0 h →
      ∃ T', Stand p l e R s m args below meth c T' locs ce sl ∧ T'.heap = h ∧ ∀ t, Steps p.tables e below (T'.setTop (mkF m pc' ls' rest)) t → Steps p.tables e below (T.setTop (mkF m pc ls st)) t) :
    Go l Z a0 EL n0 R own bytes maxL ret nm Q h sf ce sl pc ls st := by
  intro p e s m args below meth c T W
  obtain ⟨⟨hx, hby, hml, hret, hnm, hlk, hEL, hOld⟩, vm0, locs, k0, X, eT, hS, hk, hZ, hown, N, C, O⟩ := W
  obtain ⟨T', X', eT', st'⟩ := k (s := s.setVm vm0) X hx hby hml eT hZ hown hOld
  obtain ⟨t, o, h1, h2⟩ := hr p e s m args below meth c T' ⟨⟨hx, hby, hml, hret, hnm, hlk, hEL, hOld⟩, vm0, locs, k0, X', eT', hS, hk, hZ, hown, N, C, O⟩
  exact ⟨t, o, st' _ h1, h2⟩
/-- one step that makes cells -/
theorem go_make {P : Heap → Addr → Prop} {ce' sl' : Nat}
    (k : ∀ {p : Program} {e : Env} {s : State} {m : MethodId} {args : Array Value} {below : List Frame} {meth : Method} {c : Code} {T : State} {locs : List Loc}, Stand p l e R s m args below meth c T locs ce sl → p.tables.exec = Jvm.exec → c.code = bytes → c.maxLocals = maxL → T.heap = h → Z.Warmed39 s.vm → s.vm.findClass own = some m.cls →
      ∃ T' h', Stand p l e R s m args below meth c T' locs ce' sl' ∧ T'.heap = h' ∧ Ext h h' ∧ h.size < h'.size ∧ P h' h.size ∧ ∀ t, Steps p.tables e below (T'.setTop (mkF m pc' ls' (.ref h.size :: rest))) t → Steps p.tables e below (T.setTop (mkF m pc ls st)) t)
    (hr : ∀ h' x, x = h.size → Ext h h' → P h' x → Go l Z a0 EL n0 R own bytes maxL ret nm Q h' (x :: sf) ce' sl' pc' ls' (.ref x :: rest)) :
    Go l Z a0 EL n0 R own bytes maxL ret nm Q h sf ce sl pc ls st := by
  intro p e s m args below meth c T W
  obtain ⟨⟨hx, hby, hml, hret, hnm, hlk, hEL, hOld⟩, vm0, locs, k0, X, eT, hS, hk, hZ, hown, N, C, O⟩ := W
  obtain ⟨T', h', X', eT', E, hlt, hP, st'⟩ := k (s := s.setVm vm0) X hx hby hml eT hZ hown
  have A := CHr.ext E C.1
  have hn : n0 ≤ h.size := by have := hOld.1; have := hOld.2.1; omega
  obtain ⟨t, o, h1, h2⟩ := hr h' h.size rfl E hP p e s m args below meth c T' ⟨⟨hx, hby, hml, hret, hnm, hlk, hEL, hOld.ext E⟩, vm0, locs, k0, X', eT', hS, Nat.le_trans hk E.1, hZ, hown, N, C.trans A,
    OwnL.cons hlt hn (Safe.ext E C.1 (Safe.new (Nat.le_refl _))) (O.mv A)⟩
  exact ⟨t, o, st' _ h1, h2⟩
/-- one step that writes one place of an owned cell -/
theorem go_write {x : Addr} {k1 : Nat} {v1 : Value} (hm : x ∈ sf)
    (k : ∀ {p : Program} {e : Env} {s : State} {m : MethodId} {args : Array Value} {below : List Frame} {meth : Method} {c : Code} {T : State} {locs : List Loc}, Stand p l e R s m args below meth c T locs ce sl → p.tables.exec = Jvm.exec → c.code = bytes → meth.name = nm → T.heap = h → Z.Warmed39 s.vm → s.vm.findClass own = some m.cls →
      ∃ T' h', Stand p l e R s m args below meth c T' (locs ++ [⟨x, k1⟩]) ce sl ∧ T'.heap = h' ∧ Wr h h' x k1 v1 ∧ ∀ t, Steps p.tables e below (T'.setTop (mkF m pc' ls' rest)) t → Steps p.tables e below (T.setTop (mkF m pc ls st)) t)
    (hr : ∀ h', Wr h h' x k1 v1 → Go l Z a0 EL n0 R own bytes maxL ret nm Q h' sf ce sl pc' ls' rest) :
    Go l Z a0 EL n0 R own bytes maxL ret nm Q h sf ce sl pc ls st := by
  intro p e s m args below meth c T W
  obtain ⟨⟨hx, hby, hml, hret, hnm, hlk, hEL, hOld⟩, vm0, locs, k0, X, eT, hS, hk, hZ, hown, N, C, O⟩ := W
  obtain ⟨T', h', X', eT', Ww, st'⟩ := k (s := s.setVm vm0) X hx hby hnm eT hZ hown
  obtain ⟨q1, q2, q3⟩ := O x hm
  have A := CHr.wr Ww q3 C.1
  obtain ⟨t, o, h1, h2⟩ := hr h' Ww p e s m args below meth c T' ⟨⟨hx, hby, hml, hret, hnm, hlk, hEL, hOld.wr Ww q2⟩, vm0, _, k0, X', eT', hS, by rw [Ww.size]; exact hk, hZ, hown, N.snoc X' q2, C.trans A, O.mv A⟩
  exact ⟨t, o, st' _ h1, h2⟩
/-- the end -/
theorem go_out {v : Option Value} {sf' : List Addr} (hv : ret = none → v = none) (hc : ce ≤ R.cells) (hs : sl ≤ R.slots) (hsub : ∀ x ∈ sf', x ∈ sf)
    (k : ∀ {p : Program} {e : Env} {s : State} {m : MethodId} {args : Array Value} {below : List Frame} {meth : Method} {c : Code} {T : State} {locs : List Loc} {fs : List Frame}, Stand p l e R s m args below meth c T locs ce sl → p.tables.exec = Jvm.exec → c.code = bytes → meth.sig.returnType = ret →
      (∀ (f : JFrame) (acts : List Action), f.method = m → f.locked = none → f.entered = [] → (doReturn e (T.setTop f) acts v).1 = T.setFrames fs) → Steps p.tables e below (T.setTop (mkF m pc ls st)) (T.setFrames fs))
    (hq : Q v h sf') : Go l Z a0 EL n0 R own bytes maxL ret nm Q h sf ce sl pc ls st := by
  intro p e s m args below meth c T W
  obtain ⟨⟨hx, hby, hml, hret, hnm, hlk, hEL, hOld⟩, vm0, locs, k0, X, eT, hS, hk, hZ, hown, N, C, O⟩ := W
  obtain ⟨fs, hl, hrun, hend, hR⟩ := X.leaveW (v := v) hS (by rw [eT]; exact hk) (by rw [hret]; exact hv) hlk
  have A := CHv.at X hZ hEL C.1
  subst eT
  refine ⟨_, _, k (s := s.setVm vm0) X hx hby hret hl, hrun, hend, v, locs, sf', rfl, hq, N, C.trans A, (O.mv A).sub hsub, hOld, hR.1, hR.2.1, hR.2.2.1, hR.2.2.2.mono hc hs⟩
/-- into a body -/
theorem con_of {y : MethodName} {ws : List Jvm.Cond} {as : Array Value} (hpl : plainFor y = true) (hEW : EW Z a0 EL) (hE : ∀ m, entryFrame m as maxL = mkF m 0 ls [])
    (hr : Go l Z a0 EL n0 R y.cls bytes maxL ret y.name Q h sf 0 0 0 ls []) : Con l Z EL n0 y bytes maxL ret ws R as h sf Q := by
  refine MetFree.of_bodySF hpl hisR ?_
  intro p e s m args below meth c s₁ Bd hml0 hP hK
  obtain ⟨rfl, hZ, hh, hC, hO, hOld⟩ := hP
  have X0 : Stand p l e R s m args below meth c s₁ [] 0 0 := Stand.of_body Bd
  have e0 : s₁.heap = h := by rw [← hh, Bd.state]; rfl
  subst hh
  obtain ⟨t, o, h1, h2⟩ := hr p e s m args below meth c s₁ ⟨⟨Bd.exec, Bd.bytes, hml0, Bd.returns, (name_of_methodNamed Bd.named Bd.method).1, Bd.notSynchronized, hEW, hOld⟩, s.vm, [], 0, X0, e0, (State.WarmedH.refl s).since 0, Nat.zero_le _, hZ, findClass_of_methodNamed Bd.named, Fr.nil n0, CHr.refl hC, hO⟩
  exact ⟨t, o, castTop (hE m) h1, h2⟩
/-- a contract as a payer -/
theorem back_of {p : Program} {e : Env} {s : State} {args : Array Value} {below : List Frame} {vm0 : Vm} {R' : Room} {y : MethodName} {as : Array Value} {len W : Nat}
    (hM : Con l Z EL n0 y bytes maxL ret [] R' as h sf Q) (hZ : Z.Warmed39 vm0) (wc : (Jvm.Cond.code y bytes maxL ret).before a0 Z = true) (wz : (Jvm.Cond.initialized y.cls).before a0 Z = true) (hf : R'.frames + 1 ≤ R.frames) (hl : W + (maxL + 11) + R'.locals ≤ R.locals) (hEL : EW Z a0 EL) (H : CHv Z EL vm0 h) (O : OwnL Z EL n0 vm0 h sf) (hOld : Old Z n0 h) :
    BackS l R p e below (s.setVm vm0) args y len W (fun A a => a = as ∧ A.U.heap = h ∧ A.cells + R'.cells ≤ R.cells ∧ A.slots + R'.slots ≤ R.slots)
      (fun A _ v B => ∃ L sf', Q v B.U.heap sf' ∧ Fr n0 L ∧ OwnL Z EL n0 B.U.vm B.U.heap sf' ∧ Old Z n0 B.U.heap ∧ B.locs = A.locs ++ L ∧ B.cells = A.cells + R'.cells ∧ B.slots = A.slots + R'.slots ∧ CHr Z EL vm0 h B.U.vm B.U.heap) :=
  BackS.of_freeW (bytes := bytes) (maxL := maxL) (ret := ret) (E := fun _ first o t L k n => k = R'.cells ∧ n = R'.slots ∧ Fr n0 L ∧ (∃ v sf', o = .returned v ∧ Q v t.heap sf' ∧ OwnL Z EL n0 t.vm t.heap sf' ∧ Old Z n0 t.heap) ∧ CHr Z EL first.vm first.heap t.vm t.heap) hM hf hl
    (fun m meth c A a Y hp => have hU : Z.Warmed39 A.U.vm := wtrans (s := s.setVm vm0) hZ Y.warmed
      ⟨by show (Jvm.Cond.and _ .tt).before a A.U = true; rw [Cond.before_and, RoadKit.mv hU wc]; rfl, RoadKit.mv hU wc, RoadKit.mv hU wz, hp.2.2.1, hp.2.2.2⟩)
    (fun m meth c A a g mk Y hp => ⟨hp.1, wtrans (s := s.setVm vm0) hZ Y.warmed, hp.2.1, (CHv.at Y hZ hEL H).1, show OwnL Z EL n0 A.U.vm h sf from O.mv (CHv.at Y hZ hEL H), hOld⟩) (fun _ _ _ _ _ _ _ _ _ => trivial)
    (fun _ _ _ _ ⟨v, L, sf', h1, h2, h3, h4, h5, h6, h7⟩ => ⟨L, _, _, h7, rfl, rfl, h3, ⟨v, sf', h1, h2, h5, h6⟩, h4⟩)
    (fun m meth c A a g mk v t L k n Y hp _ _ ⟨e1, e2, e3, ⟨v', sf', e4, e5, e6, e7⟩, e8⟩ => by
      cases e4; subst e1 e2
      refine ⟨L, sf', e5, e3, e6, e7, rfl, rfl, rfl, (CHv.at Y hZ hEL H).trans ?_⟩
      rw [← hp.2.1]; exact e8)
theorem go_aloadN {k : Fin 4} {v : Value} (hd : decode bytes pc = .ok (.aload_n k, 1)) (hp : pc + 1 = pc') (hl : ls[k.val]? = some (.val v)) (hv : v.isRef = true) (hr : Go l Z a0 EL n0 R own bytes maxL ret nm Q h sf ce sl pc' ls (v :: st)) : Go l Z a0 EL n0 R own bytes maxL ret nm Q h sf ce sl pc ls st := by
  subst hp
  exact go_step hr fun A hx hb kk => XS.aloadN A hx rfl (Jvm.hb hb hd) hl hv kk
theorem go_aload {k : Nat} {v : Value} (hd : decode bytes pc = .ok (.aload k, 2)) (hp : pc + 2 = pc') (hl : ls[k]? = some (.val v)) (hv : v.isRef = true) (hr : Go l Z a0 EL n0 R own bytes maxL ret nm Q h sf ce sl pc' ls (v :: st)) : Go l Z a0 EL n0 R own bytes maxL ret nm Q h sf ce sl pc ls st := by
  subst hp
  exact go_step hr fun A hx hb kk => XS.aload A hx rfl (Jvm.hb hb hd) hl hv kk
theorem go_iloadN {k : Fin 4} {v : Int32} (hd : decode bytes pc = .ok (.iload_n k, 1)) (hp : pc + 1 = pc') (hl : ls[k.val]? = some (.val (.int v))) (hr : Go l Z a0 EL n0 R own bytes maxL ret nm Q h sf ce sl pc' ls (.int v :: st)) : Go l Z a0 EL n0 R own bytes maxL ret nm Q h sf ce sl pc ls st := by
  subst hp
  exact go_step hr fun A hx hb kk => XS.iloadN A hx rfl (Jvm.hb hb hd) hl kk
theorem go_iload {k : Nat} {v : Int32} (hd : decode bytes pc = .ok (.iload k, 2)) (hp : pc + 2 = pc') (hl : ls[k]? = some (.val (.int v))) (hr : Go l Z a0 EL n0 R own bytes maxL ret nm Q h sf ce sl pc' ls (.int v :: st)) : Go l Z a0 EL n0 R own bytes maxL ret nm Q h sf ce sl pc ls st := by
  subst hp
  exact go_step hr fun A hx hb kk => XS.iload A hx rfl (Jvm.hb hb hd) hl kk
theorem go_lloadN {k : Fin 4} {v : Int64} (hd : decode bytes pc = .ok (.lload_n k, 1)) (hp : pc + 1 = pc') (hl : ls[k.val]? = some (.val (.long v))) (hr : Go l Z a0 EL n0 R own bytes maxL ret nm Q h sf ce sl pc' ls (.long v :: st)) : Go l Z a0 EL n0 R own bytes maxL ret nm Q h sf ce sl pc ls st := by
  subst hp
  exact go_step hr fun A hx hb kk => XT.lloadN A hx rfl (Jvm.hb hb hd) hl kk
theorem go_lload {k : Nat} {v : Int64} (hd : decode bytes pc = .ok (.lload k, 2)) (hp : pc + 2 = pc') (hl : ls[k]? = some (.val (.long v))) (hr : Go l Z a0 EL n0 R own bytes maxL ret nm Q h sf ce sl pc' ls (.long v :: st)) : Go l Z a0 EL n0 R own bytes maxL ret nm Q h sf ce sl pc ls st := by
  subst hp
  exact go_step hr fun A hx hb kk => XT.lload A hx rfl (Jvm.hb hb hd) hl kk
theorem go_iconst {i : Int} (v : Int32) (hd : decode bytes pc = .ok (.iconst i, 1)) (hp : pc + 1 = pc') (hv : Int32.ofInt i = v) (hr : Go l Z a0 EL n0 R own bytes maxL ret nm Q h sf ce sl pc' ls (.int v :: st)) : Go l Z a0 EL n0 R own bytes maxL ret nm Q h sf ce sl pc ls st := by
  subst hp
  exact go_step hr fun A hx hb kk => XT.iconstV A hx rfl v (Jvm.hb hb hd) hv kk
theorem go_bipush {i : Int} (v : Int32) (hd : decode bytes pc = .ok (.bipush i, 2)) (hp : pc + 2 = pc') (hv : (Int8.ofInt i).toInt32 = v) (hr : Go l Z a0 EL n0 R own bytes maxL ret nm Q h sf ce sl pc' ls (.int v :: st)) : Go l Z a0 EL n0 R own bytes maxL ret nm Q h sf ce sl pc ls st := by
  subst hp
  exact go_step hr fun A hx hb kk => XT.bipushV A hx rfl v (Jvm.hb hb hd) hv kk
theorem go_sipush {i : Int} (v : Int32) (hd : decode bytes pc = .ok (.sipush i, 3)) (hp : pc + 3 = pc') (hv : (Int16.ofInt i).toInt32 = v) (hr : Go l Z a0 EL n0 R own bytes maxL ret nm Q h sf ce sl pc' ls (.int v :: st)) : Go l Z a0 EL n0 R own bytes maxL ret nm Q h sf ce sl pc ls st := by
  subst hp
  exact go_step hr fun A hx hb kk => XT.sipushV A hx rfl v (Jvm.hb hb hd) hv kk
theorem go_lconst {k : Fin 2} (v : Int64) (hd : decode bytes pc = .ok (.lconst k, 1)) (hp : pc + 1 = pc') (hv : Int64.ofNat k = v) (hr : Go l Z a0 EL n0 R own bytes maxL ret nm Q h sf ce sl pc' ls (.long v :: st)) : Go l Z a0 EL n0 R own bytes maxL ret nm Q h sf ce sl pc ls st := by
  subst hp
  exact go_step hr fun A hx hb kk => XT.lconstV A hx rfl v (Jvm.hb hb hd) hv kk
theorem go_aconstNull (hd : decode bytes pc = .ok (.aconst_null, 1)) (hp : pc + 1 = pc') (hr : Go l Z a0 EL n0 R own bytes maxL ret nm Q h sf ce sl pc' ls (.null :: st)) : Go l Z a0 EL n0 R own bytes maxL ret nm Q h sf ce sl pc ls st := by
  subst hp
  exact go_step hr fun A hx hb kk => XS.aconstNull A hx rfl (Jvm.hb hb hd) kk
theorem go_iadd {x y : Int32} (hd : decode bytes pc = .ok (.iadd, 1)) (hp : pc + 1 = pc') (hr : Go l Z a0 EL n0 R own bytes maxL ret nm Q h sf ce sl pc' ls (.int (x + y) :: st)) : Go l Z a0 EL n0 R own bytes maxL ret nm Q h sf ce sl pc ls (.int y :: .int x :: st) := by
  subst hp
  exact go_step hr fun A hx hb kk => XS.iadd A hx rfl (Jvm.hb hb hd) rfl kk
theorem go_isub {x y : Int32} (hd : decode bytes pc = .ok (.isub, 1)) (hp : pc + 1 = pc') (hr : Go l Z a0 EL n0 R own bytes maxL ret nm Q h sf ce sl pc' ls (.int (x - y) :: st)) : Go l Z a0 EL n0 R own bytes maxL ret nm Q h sf ce sl pc ls (.int y :: .int x :: st) := by
  subst hp
  exact go_step hr fun A hx hb kk => XS.isub A hx rfl (Jvm.hb hb hd) rfl kk
theorem go_imul {x y : Int32} (hd : decode bytes pc = .ok (.imul, 1)) (hp : pc + 1 = pc') (hr : Go l Z a0 EL n0 R own bytes maxL ret nm Q h sf ce sl pc' ls (.int (x * y) :: st)) : Go l Z a0 EL n0 R own bytes maxL ret nm Q h sf ce sl pc ls (.int y :: .int x :: st) := by
  subst hp
  exact go_step hr fun A hx hb kk => XS.imul A hx rfl (Jvm.hb hb hd) rfl kk
theorem go_iand {x y : Int32} (hd : decode bytes pc = .ok (.iand, 1)) (hp : pc + 1 = pc') (hr : Go l Z a0 EL n0 R own bytes maxL ret nm Q h sf ce sl pc' ls (.int (x &&& y) :: st)) : Go l Z a0 EL n0 R own bytes maxL ret nm Q h sf ce sl pc ls (.int y :: .int x :: st) := by
  subst hp
  exact go_step hr fun A hx hb kk => XS.iand A hx rfl (Jvm.hb hb hd) rfl kk
theorem go_ior {x y : Int32} (hd : decode bytes pc = .ok (.ior, 1)) (hp : pc + 1 = pc') (hr : Go l Z a0 EL n0 R own bytes maxL ret nm Q h sf ce sl pc' ls (.int (x ||| y) :: st)) : Go l Z a0 EL n0 R own bytes maxL ret nm Q h sf ce sl pc ls (.int y :: .int x :: st) := by
  subst hp
  exact go_step hr fun A hx hb kk => XT.ior A hx rfl (Jvm.hb hb hd) rfl kk
theorem go_ixor {x y : Int32} (hd : decode bytes pc = .ok (.ixor, 1)) (hp : pc + 1 = pc') (hr : Go l Z a0 EL n0 R own bytes maxL ret nm Q h sf ce sl pc' ls (.int (x ^^^ y) :: st)) : Go l Z a0 EL n0 R own bytes maxL ret nm Q h sf ce sl pc ls (.int y :: .int x :: st) := by
  subst hp
  exact go_step hr fun A hx hb kk => XT.ixor A hx rfl (Jvm.hb hb hd) rfl kk
theorem go_iushr {x y : Int32} (hd : decode bytes pc = .ok (.iushr, 1)) (hp : pc + 1 = pc') (hr : Go l Z a0 EL n0 R own bytes maxL ret nm Q h sf ce sl pc' ls (.int (XT.ushr x y) :: st)) : Go l Z a0 EL n0 R own bytes maxL ret nm Q h sf ce sl pc ls (.int y :: .int x :: st) := by
  subst hp
  exact go_step hr fun A hx hb kk => XT.iushr A hx rfl (Jvm.hb hb hd) rfl kk
theorem go_ishl {x y : Int32} (hd : decode bytes pc = .ok (.ishl, 1)) (hp : pc + 1 = pc') (hr : Go l Z a0 EL n0 R own bytes maxL ret nm Q h sf ce sl pc' ls (.int (x <<< (y &&& 31)) :: st)) : Go l Z a0 EL n0 R own bytes maxL ret nm Q h sf ce sl pc ls (.int y :: .int x :: st) := by
  subst hp
  exact go_step hr fun A hx hb kk => XT.ishl A hx rfl (Jvm.hb hb hd) rfl kk
theorem go_ishr {x y : Int32} (hd : decode bytes pc = .ok (.ishr, 1)) (hp : pc + 1 = pc') (hr : Go l Z a0 EL n0 R own bytes maxL ret nm Q h sf ce sl pc' ls (.int (x >>> (y &&& 31)) :: st)) : Go l Z a0 EL n0 R own bytes maxL ret nm Q h sf ce sl pc ls (.int y :: .int x :: st) := by
  subst hp
  exact go_step hr fun A hx hb kk => XT.ishr A hx rfl (Jvm.hb hb hd) rfl kk
theorem go_ineg {x : Int32} (hd : decode bytes pc = .ok (.ineg, 1)) (hp : pc + 1 = pc') (hr : Go l Z a0 EL n0 R own bytes maxL ret nm Q h sf ce sl pc' ls (.int (-x) :: st)) : Go l Z a0 EL n0 R own bytes maxL ret nm Q h sf ce sl pc ls (.int x :: st) := by
  subst hp
  exact go_step hr fun A hx hb kk => XS.ineg A hx rfl (Jvm.hb hb hd) rfl kk
theorem go_i2b {x : Int32} (hd : decode bytes pc = .ok (.i2b, 1)) (hp : pc + 1 = pc') (hr : Go l Z a0 EL n0 R own bytes maxL ret nm Q h sf ce sl pc' ls (.int x.toInt8.toInt32 :: st)) : Go l Z a0 EL n0 R own bytes maxL ret nm Q h sf ce sl pc ls (.int x :: st) := by
  subst hp
  exact go_step hr fun A hx hb kk => XT.i2b A hx rfl (Jvm.hb hb hd) rfl kk
theorem go_i2c {x : Int32} (hd : decode bytes pc = .ok (.i2c, 1)) (hp : pc + 1 = pc') (hr : Go l Z a0 EL n0 R own bytes maxL ret nm Q h sf ce sl pc' ls (.int x.toUInt32.toUInt16.toUInt32.toInt32 :: st)) : Go l Z a0 EL n0 R own bytes maxL ret nm Q h sf ce sl pc ls (.int x :: st) := by
  subst hp
  exact go_step hr fun A hx hb kk => XT.i2c A hx rfl (Jvm.hb hb hd) rfl kk
theorem go_i2l {x : Int32} (hd : decode bytes pc = .ok (.i2l, 1)) (hp : pc + 1 = pc') (hr : Go l Z a0 EL n0 R own bytes maxL ret nm Q h sf ce sl pc' ls (.long x.toInt64 :: st)) : Go l Z a0 EL n0 R own bytes maxL ret nm Q h sf ce sl pc ls (.int x :: st) := by
  subst hp
  exact go_step hr fun A hx hb kk => XT.i2l A hx rfl (Jvm.hb hb hd) rfl kk
theorem go_l2i {x : Int64} (hd : decode bytes pc = .ok (.l2i, 1)) (hp : pc + 1 = pc') (hr : Go l Z a0 EL n0 R own bytes maxL ret nm Q h sf ce sl pc' ls (.int x.toInt32 :: st)) : Go l Z a0 EL n0 R own bytes maxL ret nm Q h sf ce sl pc ls (.long x :: st) := by
  subst hp
  exact go_step hr fun A hx hb kk => XT.l2i A hx rfl (Jvm.hb hb hd) rfl kk
theorem go_land {x y : Int64} (hd : decode bytes pc = .ok (.land, 1)) (hp : pc + 1 = pc') (hr : Go l Z a0 EL n0 R own bytes maxL ret nm Q h sf ce sl pc' ls (.long (x &&& y) :: st)) : Go l Z a0 EL n0 R own bytes maxL ret nm Q h sf ce sl pc ls (.long y :: .long x :: st) := by
  subst hp
  exact go_step hr fun A hx hb kk => XT.land A hx rfl (Jvm.hb hb hd) rfl kk
theorem go_lushr {x : Int64} {y : Int32} (hd : decode bytes pc = .ok (.lushr, 1)) (hp : pc + 1 = pc') (hr : Go l Z a0 EL n0 R own bytes maxL ret nm Q h sf ce sl pc' ls (.long (XT.ushrL x y) :: st)) : Go l Z a0 EL n0 R own bytes maxL ret nm Q h sf ce sl pc ls (.int y :: .long x :: st) := by
  subst hp
  exact go_step hr fun A hx hb kk => XT.lushr A hx rfl (Jvm.hb hb hd) rfl kk
theorem go_dup {x : Value} (hd : decode bytes pc = .ok (.dup, 1)) (hp : pc + 1 = pc') (hc : x.category = 1) (hr : Go l Z a0 EL n0 R own bytes maxL ret nm Q h sf ce sl pc' ls (x :: x :: st)) : Go l Z a0 EL n0 R own bytes maxL ret nm Q h sf ce sl pc ls (x :: st) := by
  subst hp
  exact go_step hr fun A hx hb kk => XS.dup A hx rfl (Jvm.hb hb hd) rfl hc kk
theorem go_pop {x : Value} (hd : decode bytes pc = .ok (.pop, 1)) (hp : pc + 1 = pc') (hc : x.category = 1) (hr : Go l Z a0 EL n0 R own bytes maxL ret nm Q h sf ce sl pc' ls st) : Go l Z a0 EL n0 R own bytes maxL ret nm Q h sf ce sl pc ls (x :: st) := by
  subst hp
  exact go_step hr fun A hx hb kk => XT.pop A hx rfl (Jvm.hb hb hd) rfl hc kk
theorem go_dupX1 {x y : Value} (hd : decode bytes pc = .ok (.dup_x1, 1)) (hp : pc + 1 = pc') (hc : x.category = 1) (hc' : y.category = 1) (hr : Go l Z a0 EL n0 R own bytes maxL ret nm Q h sf ce sl pc' ls (x :: y :: x :: st)) : Go l Z a0 EL n0 R own bytes maxL ret nm Q h sf ce sl pc ls (x :: y :: st) := by
  subst hp
  exact go_step hr fun A hx hb kk => XT.dupX1 A hx rfl (Jvm.hb hb hd) rfl hc hc' kk
theorem go_dup2 {x y : Value} (hd : decode bytes pc = .ok (.dup2, 1)) (hp : pc + 1 = pc') (hc : x.category = 1) (hc' : y.category = 1) (hr : Go l Z a0 EL n0 R own bytes maxL ret nm Q h sf ce sl pc' ls (x :: y :: x :: y :: st)) : Go l Z a0 EL n0 R own bytes maxL ret nm Q h sf ce sl pc ls (x :: y :: st) := by
  subst hp
  exact go_step hr fun A hx hb kk => XT.dup2 A hx rfl (Jvm.hb hb hd) rfl hc hc' kk
theorem go_istoreN {k : Fin 4} {x : Int32} (hd : decode bytes pc = .ok (.istore_n k, 1)) (hp : pc + 1 = pc') (ls' : Array Slot) (hl : storeLocals ls k.val (.int x) = some ls') (hr : Go l Z a0 EL n0 R own bytes maxL ret nm Q h sf ce sl pc' ls' st) : Go l Z a0 EL n0 R own bytes maxL ret nm Q h sf ce sl pc ls (.int x :: st) := by
  subst hp
  exact go_step hr fun A hx hb kk => XS.istoreN A hx rfl (Jvm.hb hb hd) rfl hl kk
theorem go_istore {k : Nat} {x : Int32} (hd : decode bytes pc = .ok (.istore k, 2)) (hp : pc + 2 = pc') (ls' : Array Slot) (hl : storeLocals ls k (.int x) = some ls') (hr : Go l Z a0 EL n0 R own bytes maxL ret nm Q h sf ce sl pc' ls' st) : Go l Z a0 EL n0 R own bytes maxL ret nm Q h sf ce sl pc ls (.int x :: st) := by
  subst hp
  exact go_step hr fun A hx hb kk => XS.istore A hx rfl (Jvm.hb hb hd) rfl hl kk
theorem go_astoreN {k : Fin 4} {x : Value} (hd : decode bytes pc = .ok (.astore_n k, 1)) (hp : pc + 1 = pc') (ls' : Array Slot) (hv : x.isRef = true) (hl : storeLocals ls k.val x = some ls') (hr : Go l Z a0 EL n0 R own bytes maxL ret nm Q h sf ce sl pc' ls' st) : Go l Z a0 EL n0 R own bytes maxL ret nm Q h sf ce sl pc ls (x :: st) := by
  subst hp
  exact go_step hr fun A hx hb kk => XS.astoreN A hx rfl (Jvm.hb hb hd) rfl hv hl kk
theorem go_astore {k : Nat} {x : Value} (hd : decode bytes pc = .ok (.astore k, 2)) (hp : pc + 2 = pc') (ls' : Array Slot) (hv : x.isRef = true) (hl : storeLocals ls k x = some ls') (hr : Go l Z a0 EL n0 R own bytes maxL ret nm Q h sf ce sl pc' ls' st) : Go l Z a0 EL n0 R own bytes maxL ret nm Q h sf ce sl pc ls (x :: st) := by
  subst hp
  exact go_step hr fun A hx hb kk => XS.astore A hx rfl (Jvm.hb hb hd) rfl hv hl kk
theorem go_lstoreN {k : Fin 4} {x : Int64} (hd : decode bytes pc = .ok (.lstore_n k, 1)) (hp : pc + 1 = pc') (ls' : Array Slot) (hl : storeLocals ls k.val (.long x) = some ls') (hr : Go l Z a0 EL n0 R own bytes maxL ret nm Q h sf ce sl pc' ls' st) : Go l Z a0 EL n0 R own bytes maxL ret nm Q h sf ce sl pc ls (.long x :: st) := by
  subst hp
  exact go_step hr fun A hx hb kk => XT.lstoreN A hx rfl (Jvm.hb hb hd) rfl hl kk
theorem go_lstore {k : Nat} {x : Int64} (hd : decode bytes pc = .ok (.lstore k, 2)) (hp : pc + 2 = pc') (ls' : Array Slot) (hl : storeLocals ls k (.long x) = some ls') (hr : Go l Z a0 EL n0 R own bytes maxL ret nm Q h sf ce sl pc' ls' st) : Go l Z a0 EL n0 R own bytes maxL ret nm Q h sf ce sl pc ls (.long x :: st) := by
  subst hp
  exact go_step hr fun A hx hb kk => XT.lstore A hx rfl (Jvm.hb hb hd) rfl hl kk
theorem go_iinc {k : Nat} {cst : Int} {x : Int32} (v : Int32) (hd : decode bytes pc = .ok (.iinc k cst, 3)) (hp : pc + 3 = pc') (ls' : Array Slot) (hv : Int32.ofInt cst = v) (hl : ls[k]? = some (.val (.int x))) (hl' : storeLocals ls k (.int (x + v)) = some ls') (hr : Go l Z a0 EL n0 R own bytes maxL ret nm Q h sf ce sl pc' ls' st) : Go l Z a0 EL n0 R own bytes maxL ret nm Q h sf ce sl pc ls st := by
  subst hp
  exact go_step hr fun A hx hb kk => XT.iincV A hx rfl v (Jvm.hb hb hd) hv hl hl' kk
theorem go_goto {o : Int} (hd : decode bytes pc = .ok (.goto o, 3)) (ho : 0 ≤ (pc : Int) + o) (ht : ((pc : Int) + o).toNat = pt) (hr : Go l Z a0 EL n0 R own bytes maxL ret nm Q h sf ce sl pt ls st) : Go l Z a0 EL n0 R own bytes maxL ret nm Q h sf ce sl pc ls st := go_step hr fun A hx hb kk => XS.goto A hx rfl rfl (Jvm.hb hb hd) ho ht kk
theorem go_icmp_eq_t {o : Int} {x y : Int32} (hd : decode bytes pc = .ok (.if_icmp .eq o, 3)) (ho : 0 ≤ (pc : Int) + o) (ht : ((pc : Int) + o).toNat = pt) (hc : x = y) (hr : Go l Z a0 EL n0 R own bytes maxL ret nm Q h sf ce sl pt ls st) : Go l Z a0 EL n0 R own bytes maxL ret nm Q h sf ce sl pc ls (.int y :: .int x :: st) := go_step hr fun A hx hb kk => XS.icmpYes A hx rfl rfl (Jvm.hb hb hd) rfl (XT.ii_eq_t hc) ho ht kk
theorem go_icmp_eq_f {o : Int} {x y : Int32} (hd : decode bytes pc = .ok (.if_icmp .eq o, 3)) (hp : pc + 3 = pc') (hc : ¬ x = y) (hr : Go l Z a0 EL n0 R own bytes maxL ret nm Q h sf ce sl pc' ls st) : Go l Z a0 EL n0 R own bytes maxL ret nm Q h sf ce sl pc ls (.int y :: .int x :: st) := by
  subst hp
  exact go_step hr fun A hx hb kk => XS.icmpNo A hx rfl (Jvm.hb hb hd) rfl (XT.ii_eq_f hc) kk
theorem go_if_eq_t {o : Int} {x : Int32} (hd : decode bytes pc = .ok (.ifCond .eq o, 3)) (ho : 0 ≤ (pc : Int) + o) (ht : ((pc : Int) + o).toNat = pt) (hc : x = 0) (hr : Go l Z a0 EL n0 R own bytes maxL ret nm Q h sf ce sl pt ls st) : Go l Z a0 EL n0 R own bytes maxL ret nm Q h sf ce sl pc ls (.int x :: st) := go_step hr fun A hx hb kk => XS.ifYes A hx rfl rfl (Jvm.hb hb hd) rfl (XT.i0_eq_t hc) ho ht kk
theorem go_if_eq_f {o : Int} {x : Int32} (hd : decode bytes pc = .ok (.ifCond .eq o, 3)) (hp : pc + 3 = pc') (hc : ¬ x = 0) (hr : Go l Z a0 EL n0 R own bytes maxL ret nm Q h sf ce sl pc' ls st) : Go l Z a0 EL n0 R own bytes maxL ret nm Q h sf ce sl pc ls (.int x :: st) := by
  subst hp
  exact go_step hr fun A hx hb kk => XS.ifNo A hx rfl (Jvm.hb hb hd) rfl (XT.i0_eq_f hc) kk
theorem go_icmp_ne_t {o : Int} {x y : Int32} (hd : decode bytes pc = .ok (.if_icmp .ne o, 3)) (ho : 0 ≤ (pc : Int) + o) (ht : ((pc : Int) + o).toNat = pt) (hc : ¬ x = y) (hr : Go l Z a0 EL n0 R own bytes maxL ret nm Q h sf ce sl pt ls st) : Go l Z a0 EL n0 R own bytes maxL ret nm Q h sf ce sl pc ls (.int y :: .int x :: st) := go_step hr fun A hx hb kk => XS.icmpYes A hx rfl rfl (Jvm.hb hb hd) rfl (XT.ii_ne_t hc) ho ht kk
theorem go_icmp_ne_f {o : Int} {x y : Int32} (hd : decode bytes pc = .ok (.if_icmp .ne o, 3)) (hp : pc + 3 = pc') (hc : x = y) (hr : Go l Z a0 EL n0 R own bytes maxL ret nm Q h sf ce sl pc' ls st) : Go l Z a0 EL n0 R own bytes maxL ret nm Q h sf ce sl pc ls (.int y :: .int x :: st) := by
  subst hp
  exact go_step hr fun A hx hb kk => XS.icmpNo A hx rfl (Jvm.hb hb hd) rfl (XT.ii_ne_f hc) kk
theorem go_if_ne_t {o : Int} {x : Int32} (hd : decode bytes pc = .ok (.ifCond .ne o, 3)) (ho : 0 ≤ (pc : Int) + o) (ht : ((pc : Int) + o).toNat = pt) (hc : ¬ x = 0) (hr : Go l Z a0 EL n0 R own bytes maxL ret nm Q h sf ce sl pt ls st) : Go l Z a0 EL n0 R own bytes maxL ret nm Q h sf ce sl pc ls (.int x :: st) := go_step hr fun A hx hb kk => XS.ifYes A hx rfl rfl (Jvm.hb hb hd) rfl (XT.i0_ne_t hc) ho ht kk
theorem go_if_ne_f {o : Int} {x : Int32} (hd : decode bytes pc = .ok (.ifCond .ne o, 3)) (hp : pc + 3 = pc') (hc : x = 0) (hr : Go l Z a0 EL n0 R own bytes maxL ret nm Q h sf ce sl pc' ls st) : Go l Z a0 EL n0 R own bytes maxL ret nm Q h sf ce sl pc ls (.int x :: st) := by
  subst hp
  exact go_step hr fun A hx hb kk => XS.ifNo A hx rfl (Jvm.hb hb hd) rfl (XT.i0_ne_f hc) kk
theorem go_icmp_lt_t {o : Int} {x y : Int32} (hd : decode bytes pc = .ok (.if_icmp .lt o, 3)) (ho : 0 ≤ (pc : Int) + o) (ht : ((pc : Int) + o).toNat = pt) (hc : x < y) (hr : Go l Z a0 EL n0 R own bytes maxL ret nm Q h sf ce sl pt ls st) : Go l Z a0 EL n0 R own bytes maxL ret nm Q h sf ce sl pc ls (.int y :: .int x :: st) := go_step hr fun A hx hb kk => XS.icmpYes A hx rfl rfl (Jvm.hb hb hd) rfl (XT.ii_lt_t hc) ho ht kk
theorem go_icmp_lt_f {o : Int} {x y : Int32} (hd : decode bytes pc = .ok (.if_icmp .lt o, 3)) (hp : pc + 3 = pc') (hc : ¬ x < y) (hr : Go l Z a0 EL n0 R own bytes maxL ret nm Q h sf ce sl pc' ls st) : Go l Z a0 EL n0 R own bytes maxL ret nm Q h sf ce sl pc ls (.int y :: .int x :: st) := by
  subst hp
  exact go_step hr fun A hx hb kk => XS.icmpNo A hx rfl (Jvm.hb hb hd) rfl (XT.ii_lt_f hc) kk
theorem go_if_lt_t {o : Int} {x : Int32} (hd : decode bytes pc = .ok (.ifCond .lt o, 3)) (ho : 0 ≤ (pc : Int) + o) (ht : ((pc : Int) + o).toNat = pt) (hc : x < 0) (hr : Go l Z a0 EL n0 R own bytes maxL ret nm Q h sf ce sl pt ls st) : Go l Z a0 EL n0 R own bytes maxL ret nm Q h sf ce sl pc ls (.int x :: st) := go_step hr fun A hx hb kk => XS.ifYes A hx rfl rfl (Jvm.hb hb hd) rfl (XT.i0_lt_t hc) ho ht kk
theorem go_if_lt_f {o : Int} {x : Int32} (hd : decode bytes pc = .ok (.ifCond .lt o, 3)) (hp : pc + 3 = pc') (hc : ¬ x < 0) (hr : Go l Z a0 EL n0 R own bytes maxL ret nm Q h sf ce sl pc' ls st) : Go l Z a0 EL n0 R own bytes maxL ret nm Q h sf ce sl pc ls (.int x :: st) := by
  subst hp
  exact go_step hr fun A hx hb kk => XS.ifNo A hx rfl (Jvm.hb hb hd) rfl (XT.i0_lt_f hc) kk
theorem go_icmp_ge_t {o : Int} {x y : Int32} (hd : decode bytes pc = .ok (.if_icmp .ge o, 3)) (ho : 0 ≤ (pc : Int) + o) (ht : ((pc : Int) + o).toNat = pt) (hc : ¬ x < y) (hr : Go l Z a0 EL n0 R own bytes maxL ret nm Q h sf ce sl pt ls st) : Go l Z a0 EL n0 R own bytes maxL ret nm Q h sf ce sl pc ls (.int y :: .int x :: st) := go_step hr fun A hx hb kk => XS.icmpYes A hx rfl rfl (Jvm.hb hb hd) rfl (XT.ii_ge_t hc) ho ht kk
theorem go_icmp_ge_f {o : Int} {x y : Int32} (hd : decode bytes pc = .ok (.if_icmp .ge o, 3)) (hp : pc + 3 = pc') (hc : x < y) (hr : Go l Z a0 EL n0 R own bytes maxL ret nm Q h sf ce sl pc' ls st) : Go l Z a0 EL n0 R own bytes maxL ret nm Q h sf ce sl pc ls (.int y :: .int x :: st) := by
  subst hp
  exact go_step hr fun A hx hb kk => XS.icmpNo A hx rfl (Jvm.hb hb hd) rfl (XT.ii_ge_f hc) kk
theorem go_if_ge_t {o : Int} {x : Int32} (hd : decode bytes pc = .ok (.ifCond .ge o, 3)) (ho : 0 ≤ (pc : Int) + o) (ht : ((pc : Int) + o).toNat = pt) (hc : ¬ x < 0) (hr : Go l Z a0 EL n0 R own bytes maxL ret nm Q h sf ce sl pt ls st) : Go l Z a0 EL n0 R own bytes maxL ret nm Q h sf ce sl pc ls (.int x :: st) := go_step hr fun A hx hb kk => XS.ifYes A hx rfl rfl (Jvm.hb hb hd) rfl (XT.i0_ge_t hc) ho ht kk
theorem go_if_ge_f {o : Int} {x : Int32} (hd : decode bytes pc = .ok (.ifCond .ge o, 3)) (hp : pc + 3 = pc') (hc : x < 0) (hr : Go l Z a0 EL n0 R own bytes maxL ret nm Q h sf ce sl pc' ls st) : Go l Z a0 EL n0 R own bytes maxL ret nm Q h sf ce sl pc ls (.int x :: st) := by
  subst hp
  exact go_step hr fun A hx hb kk => XS.ifNo A hx rfl (Jvm.hb hb hd) rfl (XT.i0_ge_f hc) kk
theorem go_icmp_gt_t {o : Int} {x y : Int32} (hd : decode bytes pc = .ok (.if_icmp .gt o, 3)) (ho : 0 ≤ (pc : Int) + o) (ht : ((pc : Int) + o).toNat = pt) (hc : y < x) (hr : Go l Z a0 EL n0 R own bytes maxL ret nm Q h sf ce sl pt ls st) : Go l Z a0 EL n0 R own bytes maxL ret nm Q h sf ce sl pc ls (.int y :: .int x :: st) := go_step hr fun A hx hb kk => XS.icmpYes A hx rfl rfl (Jvm.hb hb hd) rfl (XT.ii_gt_t hc) ho ht kk
theorem go_icmp_gt_f {o : Int} {x y : Int32} (hd : decode bytes pc = .ok (.if_icmp .gt o, 3)) (hp : pc + 3 = pc') (hc : ¬ y < x) (hr : Go l Z a0 EL n0 R own bytes maxL ret nm Q h sf ce sl pc' ls st) : Go l Z a0 EL n0 R own bytes maxL ret nm Q h sf ce sl pc ls (.int y :: .int x :: st) := by
  subst hp
  exact go_step hr fun A hx hb kk => XS.icmpNo A hx rfl (Jvm.hb hb hd) rfl (XT.ii_gt_f hc) kk
theorem go_if_gt_t {o : Int} {x : Int32} (hd : decode bytes pc = .ok (.ifCond .gt o, 3)) (ho : 0 ≤ (pc : Int) + o) (ht : ((pc : Int) + o).toNat = pt) (hc : 0 < x) (hr : Go l Z a0 EL n0 R own bytes maxL ret nm Q h sf ce sl pt ls st) : Go l Z a0 EL n0 R own bytes maxL ret nm Q h sf ce sl pc ls (.int x :: st) := go_step hr fun A hx hb kk => XS.ifYes A hx rfl rfl (Jvm.hb hb hd) rfl (XT.i0_gt_t hc) ho ht kk
theorem go_if_gt_f {o : Int} {x : Int32} (hd : decode bytes pc = .ok (.ifCond .gt o, 3)) (hp : pc + 3 = pc') (hc : ¬ 0 < x) (hr : Go l Z a0 EL n0 R own bytes maxL ret nm Q h sf ce sl pc' ls st) : Go l Z a0 EL n0 R own bytes maxL ret nm Q h sf ce sl pc ls (.int x :: st) := by
  subst hp
  exact go_step hr fun A hx hb kk => XS.ifNo A hx rfl (Jvm.hb hb hd) rfl (XT.i0_gt_f hc) kk
theorem go_icmp_le_t {o : Int} {x y : Int32} (hd : decode bytes pc = .ok (.if_icmp .le o, 3)) (ho : 0 ≤ (pc : Int) + o) (ht : ((pc : Int) + o).toNat = pt) (hc : ¬ y < x) (hr : Go l Z a0 EL n0 R own bytes maxL ret nm Q h sf ce sl pt ls st) : Go l Z a0 EL n0 R own bytes maxL ret nm Q h sf ce sl pc ls (.int y :: .int x :: st) := go_step hr fun A hx hb kk => XS.icmpYes A hx rfl rfl (Jvm.hb hb hd) rfl (XT.ii_le_t hc) ho ht kk
theorem go_icmp_le_f {o : Int} {x y : Int32} (hd : decode bytes pc = .ok (.if_icmp .le o, 3)) (hp : pc + 3 = pc') (hc : y < x) (hr : Go l Z a0 EL n0 R own bytes maxL ret nm Q h sf ce sl pc' ls st) : Go l Z a0 EL n0 R own bytes maxL ret nm Q h sf ce sl pc ls (.int y :: .int x :: st) := by
  subst hp
  exact go_step hr fun A hx hb kk => XS.icmpNo A hx rfl (Jvm.hb hb hd) rfl (XT.ii_le_f hc) kk
theorem go_if_le_t {o : Int} {x : Int32} (hd : decode bytes pc = .ok (.ifCond .le o, 3)) (ho : 0 ≤ (pc : Int) + o) (ht : ((pc : Int) + o).toNat = pt) (hc : ¬ 0 < x) (hr : Go l Z a0 EL n0 R own bytes maxL ret nm Q h sf ce sl pt ls st) : Go l Z a0 EL n0 R own bytes maxL ret nm Q h sf ce sl pc ls (.int x :: st) := go_step hr fun A hx hb kk => XS.ifYes A hx rfl rfl (Jvm.hb hb hd) rfl (XT.i0_le_t hc) ho ht kk
theorem go_if_le_f {o : Int} {x : Int32} (hd : decode bytes pc = .ok (.ifCond .le o, 3)) (hp : pc + 3 = pc') (hc : 0 < x) (hr : Go l Z a0 EL n0 R own bytes maxL ret nm Q h sf ce sl pc' ls st) : Go l Z a0 EL n0 R own bytes maxL ret nm Q h sf ce sl pc ls (.int x :: st) := by
  subst hp
  exact go_step hr fun A hx hb kk => XS.ifNo A hx rfl (Jvm.hb hb hd) rfl (XT.i0_le_f hc) kk
theorem go_ifnull_t {o : Int} (hd : decode bytes pc = .ok (.ifnull o, 3)) (ho : 0 ≤ (pc : Int) + o) (ht : ((pc : Int) + o).toNat = pt) (hr : Go l Z a0 EL n0 R own bytes maxL ret nm Q h sf ce sl pt ls st) : Go l Z a0 EL n0 R own bytes maxL ret nm Q h sf ce sl pc ls (.null :: st) := go_step hr fun A hx hb kk => XS.ifnullYes A hx rfl rfl (Jvm.hb hb hd) rfl ho ht kk
theorem go_ifnull_f {o : Int} {b : Addr} (hd : decode bytes pc = .ok (.ifnull o, 3)) (hp : pc + 3 = pc') (hr : Go l Z a0 EL n0 R own bytes maxL ret nm Q h sf ce sl pc' ls st) : Go l Z a0 EL n0 R own bytes maxL ret nm Q h sf ce sl pc ls (.ref b :: st) := by
  subst hp
  exact go_step hr fun A hx hb kk => XS.ifnullNo A hx rfl (Jvm.hb hb hd) rfl kk
theorem go_ifnonnull_t {o : Int} {b : Addr} (hd : decode bytes pc = .ok (.ifnonnull o, 3)) (ho : 0 ≤ (pc : Int) + o) (ht : ((pc : Int) + o).toNat = pt) (hr : Go l Z a0 EL n0 R own bytes maxL ret nm Q h sf ce sl pt ls st) : Go l Z a0 EL n0 R own bytes maxL ret nm Q h sf ce sl pc ls (.ref b :: st) := go_step hr fun A hx hb kk => XT.ifnonnullYes A hx rfl rfl (Jvm.hb hb hd) rfl ho ht kk
theorem go_ifnonnull_f {o : Int} (hd : decode bytes pc = .ok (.ifnonnull o, 3)) (hp : pc + 3 = pc') (hr : Go l Z a0 EL n0 R own bytes maxL ret nm Q h sf ce sl pc' ls st) : Go l Z a0 EL n0 R own bytes maxL ret nm Q h sf ce sl pc ls (.null :: st) := by
  subst hp
  exact go_step hr fun A hx hb kk => XT.ifnonnullNo A hx rfl (Jvm.hb hb hd) rfl kk
theorem go_irem {x y : Int32} (hd : decode bytes pc = .ok (.irem, 1)) (hp : pc + 1 = pc') (hy : y ≠ 0) (hr : Go l Z a0 EL n0 R own bytes maxL ret nm Q h sf ce sl pc' ls (.int (x % y) :: st)) : Go l Z a0 EL n0 R own bytes maxL ret nm Q h sf ce sl pc ls (.int y :: .int x :: st) := by
  subst hp
  exact go_move hr fun {p e s m args below meth c T locs} X hx hby hml eT hZ ho hOld => ⟨T, X, eT, fun t kk => iremM X hx (g := mkF m pc ls (.int y :: .int x :: st)) rfl (Jvm.hb hby hd) rfl hy kk⟩
theorem go_acmp {cd : ACond} {x y : Value} {o : Int} (same : Bool) (hd : decode bytes pc = .ok (.if_acmp cd o, 3)) (h1 : x.isRef = true) (h2 : y.isRef = true) (hq : decide (x = y) = same) (ho : 0 ≤ (pc : Int) + o) (ht : pt = if acV cd same = true then ((pc : Int) + o).toNat else pc + 3) (hr : Go l Z a0 EL n0 R own bytes maxL ret nm Q h sf ce sl pt ls st) : Go l Z a0 EL n0 R own bytes maxL ret nm Q h sf ce sl pc ls (y :: x :: st) :=
  go_move hr fun {p e s m args below meth c T locs} X hx hby hml eT hZ ho' hOld => ⟨T, X, eT, fun t kk => RoadKit.acmp X hx (g := mkF m pc ls (y :: x :: st)) rfl h1 h2 rfl (Jvm.hb hby hd) rfl hq ho ht kk⟩
/-- a call by its contract -/
theorem go_call {R' : Room} {y : MethodName} {bY : ByteArray} {mY : Nat} {rY : Option FieldType} {as : List Value} {sfY : List Addr} {QY : Option Value → Heap → List Addr → Prop} {len W : Nat}
    (hC : Con l Z EL n0 y bY mY rY [] R' as.toArray h sfY QY) (hsf : ∀ x ∈ sfY, x ∈ sf) (wc : (Jvm.Cond.code y bY mY rY).before a0 Z = true) (wz : (Jvm.Cond.initialized y.cls).before a0 Z = true)
    (hf : R'.frames + 1 ≤ R.frames) (hl : W + (mY + 11) + R'.locals ≤ R.locals) (hc : ce + R'.cells ≤ R.cells) (hs : sl + R'.slots ≤ R.slots)
    (k : ∀ {p : Program} {e : Env} {s : State} {m : MethodId} {args : Array Value} {below : List Frame} {meth : Method} {c : Code} {T : State} {locs : List Loc} {Pre : Free.Pt → Array Value → Prop} {Post : Free.Pt → Array Value → Option Value → Free.Pt → Prop}, Stand p l e R s m args below meth c T locs ce sl → p.tables.exec = Jvm.exec → c.code = bytes → c.maxLocals = maxL → T.heap = h → Z.Warmed39 s.vm → s.vm.findClass own = some m.cls →
      BackS l R p e below s args y len W Pre Post → (∀ vm₁, s.WarmedH vm₁ → Pre ⟨T.setVm vm₁, locs, ce, sl⟩ as.toArray) →
      ∃ (v : Option Value) (vm₁ : Vm) (B : Free.Pt), s.WarmedH vm₁ ∧ Stand p l e R (s.setVm B.U.vm) m args below meth c B.U B.locs B.cells B.slots ∧ s.Since B.U.vm B.U.heap.size ∧ T.heap.size ≤ B.U.heap.size ∧ Post ⟨T.setVm vm₁, locs, ce, sl⟩ as.toArray v B ∧
        Steps p.tables e below (T.setTop (mkF m pc ls st)) (B.U.setTop (mkF m pc' ls (v.toList ++ rest))))
    (hr : ∀ v h' sf', QY v h' sf' → Go l Z a0 EL n0 R own bytes maxL ret nm Q h' (sf' ++ sf) (ce + R'.cells) (sl + R'.slots) pc' ls (v.toList ++ rest)) :
    Go l Z a0 EL n0 R own bytes maxL ret nm Q h sf ce sl pc ls st := by
  intro p e s m args below meth c T W'
  obtain ⟨⟨hx, hby, hml, hret, hnm, hlk, hEL, hOld⟩, vm0, locs, k0, X, eT, hS, hk, hZ, hown, N, C, O⟩ := W'
  have hB := back_of (p := p) (e := e) (s := s) (args := args) (below := below) (R := R) (W := W) (len := len) hC hZ wc wz hf hl hEL C.1 (O.sub hsf) hOld
  obtain ⟨v, vm₁, ⟨U, Lc, kc, nc⟩, -, X', hS', hg, ⟨L, sf', q, fr, ow, ol, e1, e2, e3, ch⟩, st'⟩ := k (s := s.setVm vm0) X hx hby hml eT hZ hown hB (fun vm₁ _ => ⟨rfl, eT, hc, hs⟩)
  obtain ⟨X2, hS2, hZ2, hown2⟩ := rebS (own := own) (Z := Z) hS (Nat.le_trans hk (Nat.le_of_eq (by rw [eT]))) X' hS' hg hZ hown
  dsimp only [Free.Pt.U, Free.Pt.locs, Free.Pt.cells, Free.Pt.slots] at X2 hS2 hZ2 hown2 q ow ol e1 e2 e3 ch st'
  subst e1 e2 e3
  obtain ⟨t, o, h1, h2⟩ := hr v U.heap sf' q p e s m args below meth c U ⟨⟨hx, hby, hml, hret, hnm, hlk, hEL, ol⟩, U.vm, locs ++ L, U.heap.size, X2, rfl, hS2, Nat.le_refl _, hZ2, hown2, N.app fr, C.trans ch, ow.app (O.mv ch)⟩
  exact ⟨t, o, st'.trans h1, h2⟩
theorem go_static {R' : Room} {y : MethodName} {bY : ByteArray} {mY : Nat} {rY : Option FieldType} {sfY : List Addr} {QY : Option Value → Heap → List Addr → Prop} {idx : Nat} (as rest : List Value) (W : Nat)
    (hd : decode bytes pc = .ok (.invokestatic idx, 3)) (hp : pc + 3 = pc') (w1 : (Jvm.Cond.methodLink own idx y).before a0 Z = true) (w2 : (Jvm.Cond.static y).before a0 Z = true) (wz : (Jvm.Cond.initialized y.cls).before a0 Z = true) (wc : (Jvm.Cond.code y bY mY rY).before a0 Z = true)
    (hC : Con l Z EL n0 y bY mY rY [] R' as.toArray h sfY QY) (hsf : ∀ x ∈ sfY, x ∈ sf) (hlen : ∀ sig, parseMethodDescriptor y.desc = some sig → as.length = sig.parameters.length) (hst : st = as.reverse ++ rest) (hsz : ls.size = maxL) (hW : (rest.map fun v => v.category).sum = W)
    (hy : y.cls ≠ "java/lang/invoke/MethodHandle" ∧ y.cls ≠ "java/lang/invoke/VarHandle")
    (hf : R'.frames + 1 ≤ R.frames) (hl : W + (mY + 11) + R'.locals ≤ R.locals) (hc : ce + R'.cells ≤ R.cells) (hs : sl + R'.slots ≤ R.slots)
    (hr : ∀ v h' sf', QY v h' sf' → Go l Z a0 EL n0 R own bytes maxL ret nm Q h' (sf' ++ sf) (ce + R'.cells) (sl + R'.slots) pc' ls (v.toList ++ rest)) :
    Go l Z a0 EL n0 R own bytes maxL ret nm Q h sf ce sl pc ls st := by
  subst hp hst
  exact go_call (len := 3) (W := W) hC hsf wc wz hf hl hc hs (fun {p e s m args below meth c T locs Pre Post} X hx hby hml eT hZ ho hK hpre =>
    callSS X hx ho (mvT hZ w1) (mvT hZ w2) (mvT hZ wz) (mvT hZ wc) hy hK (g := mkF m pc ls (as.reverse ++ rest)) rfl (by rw [hml]; exact hsz) hlen rfl (by show 2 * 0 + (rest.map fun v => v.category).sum ≤ W; omega) (Jvm.hb hby hd) hpre) hr
theorem go_special {R' : Room} {y : MethodName} {bY : ByteArray} {mY : Nat} {sfY : List Addr} {QY : Option Value → Heap → List Addr → Prop} {idx : Nat} (a : Addr) (as rest : List Value) (W : Nat)
    (hd : decode bytes pc = .ok (.invokespecial idx, 3)) (hp : pc + 3 = pc') (hy1 : y.name = "<init>") (w1 : (Jvm.Cond.methodLink own idx y).before a0 Z = true) (w2 : (Jvm.Cond.instanceMethod y).before a0 Z = true) (wz : (Jvm.Cond.initialized y.cls).before a0 Z = true) (wc : (Jvm.Cond.code y bY mY none).before a0 Z = true)
    (hC : Con l Z EL n0 y bY mY none [] R' (.ref a :: as).toArray h sfY QY) (hsf : ∀ x ∈ sfY, x ∈ sf) (hlen : ∀ sig, parseMethodDescriptor y.desc = some sig → as.length = sig.parameters.length) (hst : st = as.reverse ++ .ref a :: rest) (hsz : ls.size = maxL) (hW : (rest.map fun v => v.category).sum = W)
    (hy : y.cls ≠ "java/lang/invoke/MethodHandle" ∧ y.cls ≠ "java/lang/invoke/VarHandle")
    (hf : R'.frames + 1 ≤ R.frames) (hl : W + (mY + 11) + R'.locals ≤ R.locals) (hc : ce + R'.cells ≤ R.cells) (hs : sl + R'.slots ≤ R.slots)
    (hr : ∀ v h' sf', QY v h' sf' → Go l Z a0 EL n0 R own bytes maxL ret nm Q h' (sf' ++ sf) (ce + R'.cells) (sl + R'.slots) pc' ls (v.toList ++ rest)) :
    Go l Z a0 EL n0 R own bytes maxL ret nm Q h sf ce sl pc ls st := by
  subst hp hst
  exact go_call (len := 3) (W := W) hC hsf wc wz hf hl hc hs (fun {p e s m args below meth c T locs Pre Post} X hx hby hml eT hZ ho hK hpre =>
    Stand.specialBackS X hx hy1 ho (mvT hZ w1) (mvT hZ w2) (mvT hZ wc) hy hK (g := mkF m pc ls (as.reverse ++ .ref a :: rest)) rfl (by rw [hml]; exact hsz) (Steps.refl _) hlen rfl (by show 2 * 0 + (rest.map fun v => v.category).sum ≤ W; omega) (Jvm.hb hby hd) hpre) hr
theorem go_virtual {R' : Room} {y z : MethodName} {bY : ByteArray} {mY : Nat} {rY : Option FieldType} {sfY : List Addr} {QY : Option Value → Heap → List Addr → Prop} {idx : Nat} {C : String} (a : Addr) (as rest : List Value) (W : Nat)
    (hd : decode bytes pc = .ok (.invokevirtual idx, 3)) (hp : pc + 3 = pc') (E : Exa Z h a C) (w1 : (Jvm.Cond.methodLink own idx y).before a0 Z = true) (w2 : (Jvm.Cond.declares y).before a0 Z = true) (hnf : ∀ {s : State}, Z.Warmed39 s.vm → NotFace s y) (w3 : (Jvm.Cond.selects C y z).before a0 Z = true) (w4 : (Jvm.Cond.instanceMethod z).before a0 Z = true) (wz : (Jvm.Cond.initialized z.cls).before a0 Z = true) (wc : (Jvm.Cond.code z bY mY rY).before a0 Z = true)
    (hC : Con l Z EL n0 z bY mY rY [] R' (.ref a :: as).toArray h sfY QY) (hsf : ∀ x ∈ sfY, x ∈ sf) (hlen : ∀ sig, parseMethodDescriptor y.desc = some sig → as.length = sig.parameters.length) (hst : st = as.reverse ++ .ref a :: rest) (hsz : ls.size = maxL) (hW : (rest.map fun v => v.category).sum = W)
    (hy : y.cls ≠ "java/lang/invoke/MethodHandle" ∧ y.cls ≠ "java/lang/invoke/VarHandle")
    (hf : R'.frames + 1 ≤ R.frames) (hl : W + (mY + 11) + R'.locals ≤ R.locals) (hc : ce + R'.cells ≤ R.cells) (hs : sl + R'.slots ≤ R.slots)
    (hr : ∀ v h' sf', QY v h' sf' → Go l Z a0 EL n0 R own bytes maxL ret nm Q h' (sf' ++ sf) (ce + R'.cells) (sl + R'.slots) pc' ls (v.toList ++ rest)) :
    Go l Z a0 EL n0 R own bytes maxL ret nm Q h sf ce sl pc ls st := by
  subst hp hst
  exact go_call (len := 3) (W := W) hC hsf wc wz hf hl hc hs (fun {p e s m args below meth c T locs Pre Post} X hx hby hml eT hZ ho hK hpre => by
    obtain ⟨cB, kB, q1, q2, q3⟩ := isOf hZ eT E
    exact Stand.virtualBackS X hx ho (mvT hZ w1) (mvT hZ w2) (hnf hZ) (mvT hZ w3) (mvT hZ w4) hy hK q1 q3 (g := mkF m pc ls (as.reverse ++ .ref a :: rest)) rfl (by rw [hml]; exact hsz) (Steps.refl _) hlen rfl (by show 2 * 0 + (rest.map fun v => v.category).sum ≤ W; omega) (Jvm.hb hby hd) hpre) hr
theorem nf_of {y : MethodName} {C : String} (w : (Jvm.Cond.selects C y y).before a0 Z = true) : ∀ {s : State}, Z.Warmed39 s.vm → NotFace s y := fun hZ => notFace_of_selects (args := #[]) (mvT hZ w)
theorem go_iface {R' : Room} {y xi : MethodName} {bY : ByteArray} {mY : Nat} {rY : Option FieldType} {sfY : List Addr} {QY : Option Value → Heap → List Addr → Prop} {idx cnt : Nat} {C : String} (a : Addr) (as rest : List Value) (W : Nat)
    (hd : decode bytes pc = .ok (.invokeinterface idx cnt, 5)) (hp : pc + 5 = pc') (E : Exa Z h a C) (w1 : (Jvm.Cond.methodLink own idx xi).before a0 Z = true) (w2 : (Jvm.Cond.declares xi).before a0 Z = true) (w3 : (Jvm.Cond.interfaceMethod xi.cls xi.cls xi.name xi.desc).before a0 Z = true) (w3k : ((Jvm.Cond.interfaceMethod xi.cls xi.cls xi.name xi.desc).onTables && (Jvm.Cond.interfaceMethod xi.cls xi.cls xi.name xi.desc).keepsFace) = true) (w4 : (Jvm.Cond.selects C xi y).before a0 Z = true) (w5 : (Jvm.Cond.instanceMethod y).before a0 Z = true) (w6 : (Jvm.Cond.publicMethod y).before a0 Z = true) (w7 : (Jvm.Cond.unhidden C xi.name xi.desc).before a0 Z = true) (w8 : (Jvm.Cond.castable C xi.cls).before a0 Z = true) (wz : (Jvm.Cond.initialized y.cls).before a0 Z = true) (wc : (Jvm.Cond.code y bY mY rY).before a0 Z = true)
    (hC : Con l Z EL n0 y bY mY rY [] R' (.ref a :: as).toArray h sfY QY) (hsf : ∀ x ∈ sfY, x ∈ sf) (hlen : ∀ sig, parseMethodDescriptor xi.desc = some sig → as.length = sig.parameters.length) (hst : st = as.reverse ++ .ref a :: rest) (hsz : ls.size = maxL) (hW : (rest.map fun v => v.category).sum = W)
    (hy : xi.cls ≠ "java/lang/invoke/MethodHandle" ∧ xi.cls ≠ "java/lang/invoke/VarHandle")
    (hf : R'.frames + 1 ≤ R.frames) (hl : W + (mY + 11) + R'.locals ≤ R.locals) (hc : ce + R'.cells ≤ R.cells) (hs : sl + R'.slots ≤ R.slots)
    (hr : ∀ v h' sf', QY v h' sf' → Go l Z a0 EL n0 R own bytes maxL ret nm Q h' (sf' ++ sf) (ce + R'.cells) (sl + R'.slots) pc' ls (v.toList ++ rest)) :
    Go l Z a0 EL n0 R own bytes maxL ret nm Q h sf ce sl pc ls st := by
  subst hp hst
  exact go_call (len := 5) (W := W) hC hsf wc wz hf hl hc hs (fun {p e s m args below meth c T locs Pre Post} X hx hby hml eT hZ ho hK hpre => by
    obtain ⟨cB, kB, q1, q2, q3⟩ := isOf hZ eT E
    exact Stand.interfaceBackS X hx ho (mvT hZ w1) (mvT hZ w2) (mvT hZ w3 w3k) (mvT hZ w4) (mvT hZ w5) (mvT hZ w6) (mvT hZ w7) (mvT hZ w8) hy hK q1 q2 q3 (g := mkF m pc ls (as.reverse ++ .ref a :: rest)) rfl (by rw [hml]; exact hsz) (Steps.refl _) hlen rfl (by show 2 * 0 + (rest.map fun v => v.category).sum ≤ W; omega) (Jvm.hb hby hd) hpre) hr
theorem go_initO {idx : Nat} {a : Addr} (hd : decode bytes pc = .ok (.invokespecial idx, 3)) (hp : pc + 3 = pc') (w1 : (Jvm.Cond.methodLink own idx Lib.objectInit).before a0 Z = true) (w2 : (Jvm.Cond.instanceMethod Lib.objectInit).before a0 Z = true) (w3 : (Jvm.Cond.code Lib.objectInit ⟨#[0xb1]⟩ 1 none).before a0 Z = true)
    (hsz : ls.size = maxL) (hf : 1 ≤ R.frames) (W : Nat) (hW : (st.map fun v => v.category).sum = W) (hl : W + 12 ≤ R.locals) (hr : Go l Z a0 EL n0 R own bytes maxL ret nm Q h sf ce sl pc' ls st) :
    Go l Z a0 EL n0 R own bytes maxL ret nm Q h sf ce sl pc ls (.ref a :: st) := by
  subst hp
  exact go_move hr fun {p e s m args below meth c T locs} X hx hby hml eT hZ ho hOld => initO X hx hZ ho w1 w2 w3 eT (g := mkF m pc ls (.ref a :: st)) rfl (by rw [hml]; exact hsz) rfl (Jvm.hb hby hd) hf (W := W) (by show 2 * 0 + (st.map fun v => v.category).sum ≤ W; omega) hl
theorem go_getfield {idx : Nat} {R0 O f d : String} {a : Addr} {v : Value} (hd : decode bytes pc = .ok (.getfield idx, 3)) (hp : pc + 3 = pc') (w : (Jvm.Cond.fieldLink own idx R0 f d).before a0 Z = true) (via : Via Z R0 O f d) (F : Fld Z h a O f d v)
    (hr : Go l Z a0 EL n0 R own bytes maxL ret nm Q h sf ce sl pc' ls (v :: st)) : Go l Z a0 EL n0 R own bytes maxL ret nm Q h sf ce sl pc ls (.ref a :: st) := by
  subst hp
  exact go_move hr fun {p e s m args below meth c T locs} X hx hby hml eT hZ ho hOld => getF X hx hZ ho (host := "") (Or.inl w) via eT F (g := mkF m pc ls (.ref a :: st)) rfl rfl (Jvm.hb hby hd)
theorem go_getfieldN {idx : Nat} {R0 O f d host : String} {a : Addr} {v : Value} (hd : decode bytes pc = .ok (.getfield idx, 3)) (hp : pc + 3 = pc') (w : (Jvm.Cond.fieldLinkNest own idx R0 f d host).before a0 Z = true) (via : Via Z R0 O f d) (F : Fld Z h a O f d v)
    (hr : Go l Z a0 EL n0 R own bytes maxL ret nm Q h sf ce sl pc' ls (v :: st)) : Go l Z a0 EL n0 R own bytes maxL ret nm Q h sf ce sl pc ls (.ref a :: st) := by
  subst hp
  exact go_move hr fun {p e s m args below meth c T locs} X hx hby hml eT hZ ho hOld => getF X hx hZ ho (Or.inr w) via eT F (g := mkF m pc ls (.ref a :: st)) rfl rfl (Jvm.hb hby hd)
theorem go_getstatic {idx : Nat} {R0 O f d : String} {v : Value} (hd : decode bytes pc = .ok (.getstatic idx, 3)) (hp : pc + 3 = pc') (w : (Jvm.Cond.fieldLink own idx R0 f d).before a0 Z = true) (via : Via Z R0 O f d) (F : Sta Z Z.heap O f d v)
    (hr : Go l Z a0 EL n0 R own bytes maxL ret nm Q h sf ce sl pc' ls (v :: st)) : Go l Z a0 EL n0 R own bytes maxL ret nm Q h sf ce sl pc ls st := by
  subst hp
  exact go_move hr fun {p e s m args below meth c T locs} X hx hby hml eT hZ ho hOld => getS X hx hZ ho (host := "") w via eT (F.ext hOld.2) (g := mkF m pc ls st) rfl (Jvm.hb hby hd)
theorem go_checkcast {idx : Nat} {K : String} {a : Addr} (hd : decode bytes pc = .ok (.checkcast idx, 3)) (hp : pc + 3 = pc') (w : (Jvm.Cond.classLink own idx K).before a0 Z = true) (F : Ins Z h a K true)
    (hr : Go l Z a0 EL n0 R own bytes maxL ret nm Q h sf ce sl pc' ls (.ref a :: st)) : Go l Z a0 EL n0 R own bytes maxL ret nm Q h sf ce sl pc ls (.ref a :: st) := by
  subst hp
  exact go_move hr fun {p e s m args below meth c T locs} X hx hby hml eT hZ ho hOld => castY X hx hZ ho w eT F (g := mkF m pc ls (.ref a :: st)) rfl rfl (Jvm.hb hby hd)
theorem go_instY {idx : Nat} {K : String} {a : Addr} (hd : decode bytes pc = .ok (.instanceof idx, 3)) (hp : pc + 3 = pc') (w : (Jvm.Cond.classLink own idx K).before a0 Z = true) (F : Ins Z h a K true)
    (hr : Go l Z a0 EL n0 R own bytes maxL ret nm Q h sf ce sl pc' ls (.int 1 :: st)) : Go l Z a0 EL n0 R own bytes maxL ret nm Q h sf ce sl pc ls (.ref a :: st) := by
  subst hp
  exact go_move hr fun {p e s m args below meth c T locs} X hx hby hml eT hZ ho hOld => instY X hx hZ ho w eT F (g := mkF m pc ls (.ref a :: st)) rfl rfl (Jvm.hb hby hd)
theorem go_instNo {idx : Nat} {K C : String} {a : Addr} (hd : decode bytes pc = .ok (.instanceof idx, 3)) (hp : pc + 3 = pc') (w : (Jvm.Cond.classLink own idx K).before a0 Z = true) (E : Exa Z h a C) (F : ∃ c t, Z.vm.findClass C = some c ∧ Z.vm.findClass K = some t ∧ Z.vm.assignable c t = false)
    (hr : Go l Z a0 EL n0 R own bytes maxL ret nm Q h sf ce sl pc' ls (.int 0 :: st)) : Go l Z a0 EL n0 R own bytes maxL ret nm Q h sf ce sl pc ls (.ref a :: st) := by
  subst hp
  exact go_move hr fun {p e s m args below meth c T locs} X hx hby hml eT hZ ho hOld => instNo X hx hZ ho w eT E F (g := mkF m pc ls (.ref a :: st)) rfl rfl (Jvm.hb hby hd)
theorem go_ldcI {idx : Nat} {v : Int32} (hd : decode bytes pc = .ok (.ldc idx, 2)) (hp : pc + 2 = pc') (w : (Jvm.Cond.constant own idx v).before a0 Z = true)
    (hr : Go l Z a0 EL n0 R own bytes maxL ret nm Q h sf ce sl pc' ls (.int v :: st)) : Go l Z a0 EL n0 R own bytes maxL ret nm Q h sf ce sl pc ls st := by
  subst hp
  exact go_move hr fun {p e s m args below meth c T locs} X hx hby hml eT hZ ho hOld => ⟨T, X, eT, fun t k => Stand.ldcI X hx ho (mvT hZ w) (g := mkF m pc ls st) rfl (Jvm.hb hby hd) k⟩
theorem go_ldc2J {idx : Nat} {v : Int64} (hd : decode bytes pc = .ok (.ldc2_w idx, 3)) (hp : pc + 3 = pc') (w : (Jvm.Cond.constantLong own idx v).before a0 Z = true)
    (hr : Go l Z a0 EL n0 R own bytes maxL ret nm Q h sf ce sl pc' ls (.long v :: st)) : Go l Z a0 EL n0 R own bytes maxL ret nm Q h sf ce sl pc ls st := by
  subst hp
  exact go_move hr fun {p e s m args below meth c T locs} X hx hby hml eT hZ ho hOld => ⟨T, X, eT, fun t k => Stand.ldc2J X hx ho (mvT hZ w) (g := mkF m pc ls st) rfl (Jvm.hb hby hd) k⟩
/-- ldc of a String constant, opaque -/
theorem go_ldcO {idx : Nat} {text : String} (n : Nat) (hd : decode bytes pc = .ok (.ldc idx, 2)) (hp : pc + 2 = pc') (w : (Jvm.Cond.stringLink own idx text).before a0 Z = true) (wS : ∀ a ∈ Bundle.stringAtoms, a.before a0 Z = true) (hn : 4 * text.toList.length ≤ n) (hbig : n ≤ 536870912) (hc : ce + 2 ≤ R.cells) (hs : sl + (n + 4) ≤ R.slots)
    (hr : ∀ h' a, Ext h h' → Go l Z a0 EL n0 R own bytes maxL ret nm Q h' sf (ce + 2) (sl + (n + 4)) pc' ls (.ref a :: st)) : Go l Z a0 EL n0 R own bytes maxL ret nm Q h sf ce sl pc ls st := by
  subst hp
  intro p e s m args below meth c T W'
  obtain ⟨⟨hx, hby, hml, hret, hnm, hlk, hEL, hOld⟩, vm0, locs, k0, X, eT, hS, hk, hZ, hown, N, C, O⟩ := W'
  obtain ⟨a, T', h', k1, X', e', E, hS', hk', hZ', hown', ch, -, st'⟩ := ldcOH X hx hZ hown w wS eT hS hk hEL C.1 (g := mkF m pc ls st) rfl (Jvm.hb hby hd) hn hbig hc hs
  obtain ⟨t, o, h1, h2⟩ := hr h' a E p e s m args below meth c T' ⟨⟨hx, hby, hml, hret, hnm, hlk, hEL, hOld.ext E⟩, T'.vm, locs, k1, X', e', hS', hk', hZ', hown', N, C.trans ch, O.mv ch⟩
  exact ⟨t, o, st' _ h1, h2⟩
/-- ldc of a String constant of EL, read -/
theorem go_ldcT {idx : Nat} {text : String} (n : Nat) (z : Int32) (vs : List Value) (hd : decode bytes pc = .ok (.ldc idx, 2)) (hp : pc + 2 = pc') (w : (Jvm.Cond.stringLink own idx text).before a0 Z = true) (wS : ∀ a ∈ Bundle.stringAtoms, a.before a0 Z = true) (hmem : (own, idx) ∈ EL)
    (ht : (∀ c ∈ text.toList, c.toNat < 256) ∧ text.toList.map (fun c => Value.int (Jvm.Lit.byteI c.toNat.toUInt16)) = vs) (hz : ¬ z < 0) (hl : z.toNatClampNeg = vs.length) (hn : 4 * text.toList.length ≤ n) (hbig : n ≤ 536870912) (hc : ce + 2 ≤ R.cells) (hs : sl + (n + 4) ≤ R.slots)
    (hr : ∀ h' a b k, Ext h h' → Exa Z h' a "java/lang/String" → Fld Z h' a "java/lang/String" "coder" "B" (.int 0) → Fld Z h' a "java/lang/String" "value" "[B" (.ref b) → Arv Z h' b k .byte z vs (.int 0) → (∀ x ∈ sf, x ≠ a ∧ x ≠ b) →
      Go l Z a0 EL n0 R own bytes maxL ret nm Q h' sf (ce + 2) (sl + (n + 4)) pc' ls (.ref a :: st)) : Go l Z a0 EL n0 R own bytes maxL ret nm Q h sf ce sl pc ls st := by
  subst hp
  intro p e s m args below meth c T W'
  obtain ⟨⟨hx, hby, hml, hret, hnm, hlk, hEL, hOld⟩, vm0, locs, k0, X, eT, hS, hk, hZ, hown, N, C, O⟩ := W'
  obtain ⟨a, T', h', k1, b, k, X', e', E, hS', hk', hZ', hown', f1, f2, f3, f4, -, -, ch, -, hne, st'⟩ := ldcCH X hx hZ hown w wS eT hS hk hEL hmem C.1 ht hz hl (g := mkF m pc ls st) rfl (Jvm.hb hby hd) hn hbig hc hs
  have O' := O.mv ch
  obtain ⟨t, o, h1, h2⟩ := hr h' a b k E f1 f2 f3 f4 (fun x q => hne x (O' x q).2.2) p e s m args below meth c T' ⟨⟨hx, hby, hml, hret, hnm, hlk, hEL, hOld.ext E⟩, T'.vm, locs, k1, X', e', hS', hk', hZ', hown', N, C.trans ch, O'⟩
  exact ⟨t, o, st' _ h1, h2⟩
theorem go_new {idx n : Nat} {C : String} (hd : decode bytes pc = .ok (.new idx, 3)) (hp : pc + 3 = pc') (w : (Jvm.Cond.classLink own idx C).before a0 Z = true) (wi : (Jvm.Cond.instantiable C n).before a0 Z = true) (wz : (Jvm.Cond.initialized C).before a0 Z = true) (hc : ce + 1 ≤ R.cells) (hs : sl + n ≤ R.slots)
    (hr : ∀ h' x, x = h.size → Ext h h' → (Exa Z h' x C ∧ ∀ {O f d : String} {ty : FieldType}, Laid Z a0 C O f d → parseFieldDescriptor d = some ty → Fld Z h' x O f d (defaultValue ty)) →
      Go l Z a0 EL n0 R own bytes maxL ret nm Q h' (x :: sf) (ce + 1) (sl + n) pc' ls (.ref x :: st)) : Go l Z a0 EL n0 R own bytes maxL ret nm Q h sf ce sl pc ls st := by
  subst hp
  refine go_make (P := fun h' x => Exa Z h' x C ∧ ∀ {O f d : String} {ty : FieldType}, Laid Z a0 C O f d → parseFieldDescriptor d = some ty → Fld Z h' x O f d (defaultValue ty)) (fun {p e s m args below meth c T locs} X hx hby hml eT hZ ho => ?_) hr
  obtain ⟨T', h', X', e', E, A, D, -, st'⟩ := newO X hx hZ ho w wi wz eT (g := mkF m pc ls st) rfl (Jvm.hb hby hd) hc hs
  exact ⟨T', h', X', e', E, A.lt, ⟨A, D⟩, st'⟩
theorem go_newarr {aty : ArrayType} {n : Int32} {ty : FieldType} {ad : String} (cap : Nat) (hd : decode bytes pc = .ok (.newarray aty, 2)) (hp : pc + 2 = pc') (hty : newarray.typeOf aty = ty) (w : (Jvm.Cond.arrayClass ty).before a0 Z = true) (hn : ¬ n < 0) (hcap : n.toNatClampNeg ≤ cap) (hb : cap * 8 ≤ 536870912) (had : "[" ++ ty.toString = ad) (hc : ce + 1 ≤ R.cells) (hs : sl + cap ≤ R.slots)
    (hr : ∀ h' x, x = h.size → Ext h h' → (Exa Z h' x ad ∧ ∃ k, Arv Z h' x k ty n [] (defaultValue ty)) → Go l Z a0 EL n0 R own bytes maxL ret nm Q h' (x :: sf) (ce + 1) (sl + cap) pc' ls (.ref x :: st)) :
    Go l Z a0 EL n0 R own bytes maxL ret nm Q h sf ce sl pc ls (.int n :: st) := by
  subst hp hty
  refine go_make (P := fun h' x => Exa Z h' x ad ∧ ∃ k, Arv Z h' x k (newarray.typeOf aty) n [] (defaultValue (newarray.typeOf aty))) (fun {p e s m args below meth c T locs} X hx hby hml eT hZ ho => ?_) hr
  obtain ⟨T', h', cA, X', e', E, A, F, st'⟩ := newPE X hx hZ w eT (g := mkF m pc ls (.int n :: st)) rfl (Jvm.hb hby hd) rfl hn hcap hb hc hs had
  exact ⟨T', h', X', e', E, A.lt, ⟨F, cA, Arv.new A hn⟩, st'⟩
theorem go_putfield {idx kk : Nat} {R0 O f d C : String} {a : Addr} {v old : Value} {ty : FieldType} (hd : decode bytes pc = .ok (.putfield idx, 3)) (hp : pc + 3 = pc') (w : (Jvm.Cond.fieldLink own idx R0 f d).before a0 Z = true) (via : Via Z R0 O f d) (F : Fld Z h a O f d old) (E : Exa Z h a C)
    (L : (Jvm.Cond.lays C O f d).before a0 Z = true ∨ ((Jvm.Cond.laysFinal C O f d).before a0 Z = true ∧ own = O ∧ nm = "<init>")) (wi : (Jvm.Cond.instantiable C kk).before a0 Z = true) (hty : parseFieldDescriptor d = some ty) (hn : narrow ty v = v) (hfit : fits ty v = true) (hm : a ∈ sf)
    (hr : ∀ h', Wr h h' a (RoadKit.slotOf Z O f d) v → Go l Z a0 EL n0 R own bytes maxL ret nm Q h' sf ce sl pc' ls st) : Go l Z a0 EL n0 R own bytes maxL ret nm Q h sf ce sl pc ls (v :: .ref a :: st) := by
  subst hp
  exact go_write hm (fun {p e s m args below meth c T locs} X hx hby hnm eT hZ ho => putF X hx hZ ho (host := "") (Or.inl w) via eT F E (L.imp id fun q => ⟨q.1, q.2.1, by rw [hnm]; exact q.2.2⟩) wi hty hn hfit (g := mkF m pc ls (v :: .ref a :: st)) rfl rfl (Jvm.hb hby hd)) hr
/-- a char, byte, int or boolean into an array at hand -/
theorem go_castore {a : Addr} {k : ClassId} {z j v : Int32} {vs : List Value} {dv : Value} (i : Nat) (v' : Int32) (hd : decode bytes pc = .ok (.castore, 1)) (hp : pc + 1 = pc') (hnv : nar .char v = v') (F : Arv Z h a k .char z vs dv) (hj : ¬ j < 0 ∧ j < z) (hi : j.toNatClampNeg = i) (hl : i < vs.length) (hm : a ∈ sf)
    (hr : ∀ h', Wr h h' a j.toNatClampNeg (.int v') → Arv Z h' a k .char z (vs.set i (.int v')) dv → Go l Z a0 EL n0 R own bytes maxL ret nm Q h' sf ce sl pc' ls st) : Go l Z a0 EL n0 R own bytes maxL ret nm Q h sf ce sl pc ls (.int v :: .int j :: .ref a :: st) := by
  subst hp hnv
  obtain ⟨cl, A, q1, S, q3, H, G⟩ := F
  exact go_write hm (fun {p e s m args below meth c T locs} X hx hby hnm eT hZ ho => stC X hx hZ eT A (inb_of S hj) (g := mkF m pc ls (.int v :: .int j :: .ref a :: st)) rfl rfl (Jvm.hb hby hd)) (fun h' W => hr h' W (Arv.set A q1 S q3 H G (fits_nar_char v) W i hi hl))
theorem go_bastore {a : Addr} {k : ClassId} {z j v : Int32} {vs : List Value} {dv : Value} (i : Nat) (hd : decode bytes pc = .ok (.bastore, 1)) (hp : pc + 1 = pc') (F : Arv Z h a k .byte z vs dv) (hj : ¬ j < 0 ∧ j < z) (hi : j.toNatClampNeg = i) (hl : i < vs.length) (hm : a ∈ sf)
    (hr : ∀ h', Wr h h' a j.toNatClampNeg (.int v.toInt8.toInt32) → Arv Z h' a k .byte z (vs.set i (.int v.toInt8.toInt32)) dv → Go l Z a0 EL n0 R own bytes maxL ret nm Q h' sf ce sl pc' ls st) : Go l Z a0 EL n0 R own bytes maxL ret nm Q h sf ce sl pc ls (.int v :: .int j :: .ref a :: st) := by
  subst hp
  obtain ⟨cl, A, q1, S, q3, H, G⟩ := F
  exact go_write hm (fun {p e s m args below meth c T locs} X hx hby hnm eT hZ ho => stB X hx hZ eT A (inb_of S hj) (g := mkF m pc ls (.int v :: .int j :: .ref a :: st)) rfl rfl (Jvm.hb hby hd)) (fun h' W => hr h' W (Arv.set A q1 S q3 H G (fits_nar_byte v) W i hi hl))
theorem go_iastore {a : Addr} {k : ClassId} {z j v : Int32} {vs : List Value} {dv : Value} (i : Nat) (hd : decode bytes pc = .ok (.iastore, 1)) (hp : pc + 1 = pc') (F : Arv Z h a k .int z vs dv) (hj : ¬ j < 0 ∧ j < z) (hi : j.toNatClampNeg = i) (hl : i < vs.length) (hm : a ∈ sf)
    (hr : ∀ h', Wr h h' a j.toNatClampNeg (.int v) → Arv Z h' a k .int z (vs.set i (.int v)) dv → Go l Z a0 EL n0 R own bytes maxL ret nm Q h' sf ce sl pc' ls st) : Go l Z a0 EL n0 R own bytes maxL ret nm Q h sf ce sl pc ls (.int v :: .int j :: .ref a :: st) := by
  subst hp
  obtain ⟨cl, A, q1, S, q3, H, G⟩ := F
  exact go_write hm (fun {p e s m args below meth c T locs} X hx hby hnm eT hZ ho => stI X hx hZ eT A (inb_of S hj) (g := mkF m pc ls (.int v :: .int j :: .ref a :: st)) rfl rfl (Jvm.hb hby hd)) (fun h' W => hr h' W (Arv.set A q1 S q3 H G rfl W i hi hl))
theorem go_alen {a : Addr} {k : ClassId} {ty : FieldType} {z : Int32} {vs : List Value} {dv : Value} (hd : decode bytes pc = .ok (.arraylength, 1)) (hp : pc + 1 = pc') (F : Arv Z h a k ty z vs dv)
    (hr : Go l Z a0 EL n0 R own bytes maxL ret nm Q h sf ce sl pc' ls (.int z :: st)) : Go l Z a0 EL n0 R own bytes maxL ret nm Q h sf ce sl pc ls (.ref a :: st) := by
  subst hp
  obtain ⟨cl, A, q1, S, q3, H, G⟩ := F
  refine go_move hr fun {p e s m args below meth c T locs} X hx hby hml eT hZ ho hOld => ⟨T, X, eT, fun t kk => ?_⟩
  refine X.arraylength hx (by rw [eT]; exact A.1) (State.isArrayOf_alike hZ.alike A.2.1) (g := mkF m pc ls (.ref a :: st)) rfl rfl (Jvm.hb hby hd) t ?_
  rw [len_of S q3]
  exact kk
theorem go_caload {a : Addr} {k : ClassId} {z j : Int32} {vs : List Value} {dv v : Value} (i : Nat) (hd : decode bytes pc = .ok (.caload, 1)) (hp : pc + 1 = pc') (F : Arv Z h a k .char z vs dv) (hj : ¬ j < 0 ∧ j < z) (hi : j.toNatClampNeg = i) (hv : vs.getD i dv = v)
    (hr : Go l Z a0 EL n0 R own bytes maxL ret nm Q h sf ce sl pc' ls (v :: st)) : Go l Z a0 EL n0 R own bytes maxL ret nm Q h sf ce sl pc ls (.int j :: .ref a :: st) := by
  subst hp
  obtain ⟨cl, A, q1, S, q3, H, G⟩ := F
  exact go_move hr fun {p e s m args below meth c T locs} X hx hby hml eT hZ ho hOld => ⟨T, X, eT, fun t kk =>
    X.caload hx (by rw [eT]; exact A.1) (State.isArrayOf_alike hZ.alike A.2.1) A.2.2 (inb_of S hj) (H.at (inb_of S hj) (by rw [hi]; exact hv)) (g := mkF m pc ls (.int j :: .ref a :: st)) rfl rfl (Jvm.hb hby hd) t kk⟩
theorem go_iaload {a : Addr} {k : ClassId} {z j : Int32} {vs : List Value} {dv v : Value} (i : Nat) (hd : decode bytes pc = .ok (.iaload, 1)) (hp : pc + 1 = pc') (F : Arv Z h a k .int z vs dv) (hj : ¬ j < 0 ∧ j < z) (hi : j.toNatClampNeg = i) (hv : vs.getD i dv = v)
    (hr : Go l Z a0 EL n0 R own bytes maxL ret nm Q h sf ce sl pc' ls (v :: st)) : Go l Z a0 EL n0 R own bytes maxL ret nm Q h sf ce sl pc ls (.int j :: .ref a :: st) := by
  subst hp
  obtain ⟨cl, A, q1, S, q3, H, G⟩ := F
  exact go_move hr fun {p e s m args below meth c T locs} X hx hby hml eT hZ ho hOld => ⟨T, X, eT, fun t kk =>
    X.iaload hx (by rw [eT]; exact A.1) (State.isArrayOf_alike hZ.alike A.2.1) A.2.2 (inb_of S hj) (H.at (inb_of S hj) (by rw [hi]; exact hv)) (g := mkF m pc ls (.int j :: .ref a :: st)) rfl rfl (Jvm.hb hby hd) t kk⟩
theorem go_baload {a : Addr} {k : ClassId} {z j : Int32} {vs : List Value} {dv v : Value} (i : Nat) (hd : decode bytes pc = .ok (.baload, 1)) (hp : pc + 1 = pc') (F : Arv Z h a k .byte z vs dv) (hj : ¬ j < 0 ∧ j < z) (hi : j.toNatClampNeg = i) (hv : vs.getD i dv = v)
    (hr : Go l Z a0 EL n0 R own bytes maxL ret nm Q h sf ce sl pc' ls (v :: st)) : Go l Z a0 EL n0 R own bytes maxL ret nm Q h sf ce sl pc ls (.int j :: .ref a :: st) := by
  subst hp
  obtain ⟨cl, A, q1, S, q3, H, G⟩ := F
  exact go_move hr fun {p e s m args below meth c T locs} X hx hby hml eT hZ ho hOld => ⟨T, X, eT, fun t kk =>
    X.baloadBytes hx (by rw [eT]; exact A.1) (State.isArrayOf_alike hZ.alike A.2.1) A.2.2 (inb_of S hj) (H.at (inb_of S hj) (by rw [hi]; exact hv)) (g := mkF m pc ls (.int j :: .ref a :: st)) rfl rfl (Jvm.hb hby hd) t kk⟩
/-- returns -/
theorem go_ret (hd : decode bytes pc = .ok (.return_, 1)) (sf' : List Addr) (hret : ret = none) (hc : ce ≤ R.cells) (hs : sl ≤ R.slots) (hsub : ∀ x ∈ sf', x ∈ sf) (hq : Q none h sf') : Go l Z a0 EL n0 R own bytes maxL ret nm Q h sf ce sl pc ls [] :=
  go_out (fun _ => rfl) hc hs hsub (fun X hx hby hr hl => X.returnOut hx (hr.trans hret) (Jvm.hb hby hd) hl) hq
theorem go_retN {z : Int32} {t : FieldType} (hd : decode bytes pc = .ok (.ireturn, 1)) (sf' : List Addr) (hret : ret = some t) (ht : t = .boolean ∨ t = .byte ∨ t = .char ∨ t = .short) (hc : ce ≤ R.cells) (hs : sl ≤ R.slots) (hsub : ∀ x ∈ sf', x ∈ sf) (hq : Q (some (.int (nar t z))) h sf') : Go l Z a0 EL n0 R own bytes maxL ret nm Q h sf ce sl pc ls (.int z :: st) :=
  go_out (fun q => by rw [hret] at q; cases q) hc hs hsub (fun X hx hby hr hl => retN X hx (t := t) (hr.trans hret) ht (Jvm.hb hby hd) hl) hq
theorem go_retI {z : Int32} (hd : decode bytes pc = .ok (.ireturn, 1)) (sf' : List Addr) (hret : ret = some .int) (hc : ce ≤ R.cells) (hs : sl ≤ R.slots) (hsub : ∀ x ∈ sf', x ∈ sf) (hq : Q (some (.int z)) h sf') : Go l Z a0 EL n0 R own bytes maxL ret nm Q h sf ce sl pc ls (.int z :: st) :=
  go_out (fun q => by rw [hret] at q; cases q) hc hs hsub (fun X hx hby hr hl => retOut X hx (hr.trans hret) rfl (Or.inl ⟨rfl, Or.inl rfl, _, rfl⟩) (Jvm.hb hby hd) hl) hq
theorem go_retA {v : Value} {t : FieldType} (hd : decode bytes pc = .ok (.areturn, 1)) (sf' : List Addr) (hret : ret = some t) (ht : t.isReference = true) (hv : v.isRef = true) (hn : narrow t v = v) (hc : ce ≤ R.cells) (hs : sl ≤ R.slots) (hsub : ∀ x ∈ sf', x ∈ sf) (hq : Q (some v) h sf') : Go l Z a0 EL n0 R own bytes maxL ret nm Q h sf ce sl pc ls (v :: st) :=
  go_out (fun q => by rw [hret] at q; cases q) hc hs hsub (fun X hx hby hr hl => retOut X hx (hr.trans hret) hn (Or.inr (Or.inr (Or.inr (Or.inr ⟨rfl, ht, hv⟩)))) (Jvm.hb hby hd) hl) hq
theorem ext_of_keep {h0 h1 : Heap} (K : Keep h0 h1 []) : Ext h0 h1 := ⟨K.1, fun a c q => K.2.1 a c q nin0⟩
theorem keep_of_ext {h0 h1 : Heap} (E : Ext h0 h1) (ws : List Addr) : Keep h0 h1 ws := (Keep.refl h0 ws).ext E
theorem go_instNull {idx : Nat} (hd : decode bytes pc = .ok (.instanceof idx, 3)) (hp : pc + 3 = pc') (hr : Go l Z a0 EL n0 R own bytes maxL ret nm Q h sf ce sl pc' ls (.int 0 :: st)) : Go l Z a0 EL n0 R own bytes maxL ret nm Q h sf ce sl pc ls (.null :: st) := by
  subst hp
  exact go_move hr fun {p e s m args below meth c T locs} X hx hby hml eT hZ ho hOld => ⟨T, X, eT, X.instanceofNull hx (g := mkF m pc ls (.null :: st)) rfl rfl (Jvm.hb hby hd)⟩
theorem go_castNull {idx : Nat} (hd : decode bytes pc = .ok (.checkcast idx, 3)) (hp : pc + 3 = pc') (hr : Go l Z a0 EL n0 R own bytes maxL ret nm Q h sf ce sl pc' ls (.null :: st)) : Go l Z a0 EL n0 R own bytes maxL ret nm Q h sf ce sl pc ls (.null :: st) := by
  subst hp
  exact go_move hr fun {p e s m args below meth c T locs} X hx hby hml eT hZ ho hOld => ⟨T, X, eT, X.checkcastNull hx (g := mkF m pc ls (.null :: st)) rfl rfl (Jvm.hb hby hd)⟩
/-- System.arraycopy of numbers into an owned array -/
theorem go_acopy {idx : Nat} {a b : Addr} {k k' : ClassId} {ty : FieldType} {z z' sp dp nn : Int32} {vs vd us : List Value} {dv dd : Value} (hd : decode bytes pc = .ok (.invokestatic idx, 3)) (hp : pc + 3 = pc') (w1 : (Jvm.Cond.methodLink own idx Jvm.Stand.acN).before a0 Z = true) (w2 : (Jvm.Cond.native Jvm.Stand.acN).before a0 Z = true) (w3 : (Jvm.Cond.static Jvm.Stand.acN).before a0 Z = true) (w4 : (Jvm.Cond.initialized "java/lang/System").before a0 Z = true)
    (A : Arv Z h a k ty z vs dv) (B : Arv Z h b k' ty z' vd dd) (hty : refKind ty = false) (h1 : ¬ sp < 0) (h2 : ¬ dp < 0) (h3 : ¬ nn < 0) (h4 : sp.toNatClampNeg + nn.toNatClampNeg ≤ z.toNatClampNeg) (h5 : dp.toNatClampNeg + nn.toNatClampNeg ≤ z'.toNatClampNeg)
    (hus : us = (List.range nn.toNatClampNeg).map fun i => vs.getD (sp.toNatClampNeg + i) dv) (hl : dp.toNatClampNeg + nn.toNatClampNeg ≤ vd.length) (hm : b ∈ sf) (hsz : ls.size = maxL) (hf : 1 ≤ R.frames) (W : Nat) (hW : (st.map fun v => v.category).sum = W) (hlo : W + (nativeFrameWords "java/lang/System" "arraycopy" 5 + 11) ≤ R.locals)
    (hr : ∀ h', Keep h h' [b] → Arv Z h' b k' ty z' (vd.take dp.toNatClampNeg ++ us ++ vd.drop (dp.toNatClampNeg + nn.toNatClampNeg)) dd → Go l Z a0 EL n0 R own bytes maxL ret nm Q h' sf ce sl pc' ls st) :
    Go l Z a0 EL n0 R own bytes maxL ret nm Q h sf ce sl pc ls (.int nn :: .int dp :: .ref b :: .int sp :: .ref a :: st) := by
  subst hp
  intro p e s m args below meth c T W'
  obtain ⟨⟨hx, hby, hml, hret, hnm, hlk, hEL, hOld⟩, vm0, locs, k0, X, eT, hS, hk, hZ, hown, N, C, O⟩ := W'
  obtain ⟨q1, q2, q3⟩ := O b hm
  obtain ⟨T', h', L, X', e', N', K, B', st'⟩ := cpA (s := s.setVm vm0) X hx hZ hown w1 w2 w3 w4 eT A B (Or.inl ⟨rfl, hty⟩) h1 h2 h3 h4 h5 hus hl N q2 (g := mkF m pc ls (.int nn :: .int dp :: .ref b :: .int sp :: .ref a :: st)) rfl (by rw [hml]; exact hsz) rfl (Jvm.hb hby hd) hf (W := W) (by show 2 * 0 + (st.map fun v => v.category).sum ≤ W; omega) hlo
  have A' := CHr.keep K (allS q3 all0) C.1
  obtain ⟨t, o, h1', h2'⟩ := hr h' K B' p e s m args below meth c T' ⟨⟨hx, hby, hml, hret, hnm, hlk, hEL, hOld.keep K (allS q2 all0)⟩, vm0, L, k0, X', e', hS, Nat.le_trans hk K.1, hZ, hown, N', C.trans A', O.mv A'⟩
  exact ⟨t, o, st' _ h1', h2'⟩
end Walk
def ELc : List (String × Nat) := []
def Base (Z : State) (a0 : Array Value) : Prop := (∀ d ∈ tables_1, d.before a0 Z = true) ∧ EW Z a0 ELc ∧ (∃ cz, Sta Z Z.heap "java/lang/String" "COMPACT_STRINGS" "Z" (.int cz) ∧ ¬ cz = 0) ∧ True
theorem wd {Z : State} {a0 : Array Value} {d : Jvm.Cond} (hB : Base Z a0) (k : Nat) (hk : tables_1[k]? = some d) : d.before a0 Z = true := hB.1 d (List.mem_of_getElem? hk)
theorem stA {Z : State} {a0 : Array Value} (hB : Base Z a0) : ∀ a ∈ Bundle.stringAtoms, a.before a0 Z = true := fun d hd => by
  simp only [Bundle.stringAtoms, List.mem_cons, List.not_mem_nil, or_false] at hd
  rcases hd with rfl | rfl | rfl | rfl | rfl | rfl | rfl
  · exact (wd hB 6 rfl)
  · exact (wd hB 5 rfl)
  · exact (wd hB 23 rfl)
  · exact (wd hB 33 rfl)
  · exact (wd hB 31 rfl)
  · exact (wd hB 42 rfl)
  · exact (wd hB 43 rfl)
theorem ofN_int {i : Nat} (h : i < 2147483648) : (Int32.ofNat i).toInt = i := Int32.toInt_ofNat_of_lt h
theorem ofN_lt {i n : Nat} (hi : i < n) (hn : n < 2147483648) : Int32.ofNat i < Int32.ofNat n := by
  rw [Int32.lt_iff_toInt_lt, ofN_int (by omega), ofN_int hn]; omega
theorem ofN_nlt {i n : Nat} (hi : n ≤ i) (hn : i < 2147483648) : ¬ Int32.ofNat i < Int32.ofNat n := by
  rw [Int32.lt_iff_toInt_lt, ofN_int hn, ofN_int (i := n) (by omega)]; omega
theorem ofN_nneg {i : Nat} (h : i < 2147483648) : ¬ Int32.ofNat i < 0 := by
  rw [Int32.lt_iff_toInt_lt, ofN_int h]; show ¬ (i : Int) < 0; omega
theorem ofN_cl {i : Nat} (h : i < 2147483648) : (Int32.ofNat i).toNatClampNeg = i := by
  have := ofN_int h; show (Int32.ofNat i).toInt.toNat = i; omega
theorem ofN_succ (i : Nat) : Int32.ofNat i + 1 = Int32.ofNat (i + 1) := by rw [Int32.ofNat_add]; rfl
theorem ofN_pos {i : Nat} (h0 : 0 < i) (h : i < 2147483648) : ¬ Int32.ofNat i = 0 := fun q => by
  have := ofN_int h; rw [q] at this; have h2 : (0 : Int32).toInt = 0 := rfl; omega
def lo8s (cs : List Int32) : List Value := cs.map fun c => Value.int c.toInt8.toInt32
theorem lo8s_len (cs : List Int32) : (lo8s cs).length = cs.length := by simp [lo8s]
theorem lo8s_set {cs : List Int32} {i j : Nat} {c : Int32} (hc : cs[i]? = some c) (hi : i + (j + 1) = cs.length) : (lo8s (cs.take i) ++ List.replicate (j + 1) (Value.int 0)).set i (Value.int c.toInt8.toInt32) = lo8s (cs.take (i + 1)) ++ List.replicate j (Value.int 0) := by
  have hl : (lo8s (cs.take i)).length = i := by rw [lo8s_len, List.length_take]; omega
  rw [List.set_append_right _ _ (by omega), hl, Nat.sub_self, List.replicate_succ, List.set_cons_zero, List.take_add_one, hc]
  simp [lo8s]
theorem map_at {cs : List Int32} {i : Nat} {c : Int32} (hc : cs[i]? = some c) : (cs.map Value.int).getD i (.int 0) = .int c := by simp [List.getD_eq_getElem?_getD, hc]
theorem at_of {cs : List Int32} {i : Nat} (h : i < cs.length) : ∃ c, cs[i]? = some c ∧ c ∈ cs := ⟨cs[i], List.getElem?_eq_getElem h, List.getElem_mem h⟩
theorem toBV_i8 (x : Int32) : x.toInt8.toInt32.toBitVec = (x.toBitVec.setWidth 8).signExtend 32 := by
  simp only [Int8.toBitVec_toInt32, Int32.toBitVec_toInt8]
  first | rw [BitVec.signExtend_eq_setWidth_of_le x.toBitVec (by omega)] | rw [BitVec.signExtend_eq_setWidth_of_lt x.toBitVec (by omega)] 
theorem sx8 (y : BitVec 8) : (y.signExtend 32).toNat % 256 = y.toNat := by
  rw [BitVec.toNat_signExtend]
  split <;> simp <;> omega
theorem lo8_and (x : Int32) : (x.toInt8.toInt32 &&& 255).toBitVec.toNat = x.toBitVec.toNat % 256 := by
  rw [Int32.toBitVec_and, BitVec.toNat_and]
  have e : (255 : Int32).toBitVec.toNat = 2 ^ 8 - 1 := by decide
  rw [e, Nat.and_two_pow_sub_one_eq_mod, toBV_i8]
  have := sx8 (x.toBitVec.setWidth 8)
  rw [BitVec.toNat_setWidth] at this
  exact this
theorem shl1 {i : Nat} (h : 2 * i < 2147483648) : Int32.ofNat i <<< ((1 : Int32) &&& 31) = Int32.ofNat (2 * i) := by
  have e : ((1 : Int32) &&& 31) = 1 := by decide
  rw [e]
  apply Int32.toBitVec_inj.mp
  apply BitVec.eq_of_toNat_eq
  have a1 : (Int32.ofNat i).toBitVec.toNat = i := by show (BitVec.ofNat 32 i).toNat = i; rw [BitVec.toNat_ofNat]; omega
  have a2 : (Int32.ofNat (2 * i)).toBitVec.toNat = 2 * i := by show (BitVec.ofNat 32 (2 * i)).toNat = 2 * i; rw [BitVec.toNat_ofNat]; omega
  rw [a2, Int32.toBitVec_shiftLeft]
  have e1 : ((1 : Int32).toBitVec.smod 32) = 1#32 := by decide
  rw [e1]
  show ((Int32.ofNat i).toBitVec <<< (1#32).toNat).toNat = 2 * i
  rw [BitVec.toNat_shiftLeft, a1]
  show (i <<< 1) % 2 ^ 32 = 2 * i
  rw [Nat.shiftLeft_eq]; omega
theorem shr0 (c : Int32) : c >>> ((0 : Int32) &&& 31) = c := by
  have e : ((0 : Int32) &&& 31) = 0 := by decide
  rw [e]
  apply Int32.toBitVec_inj.mp
  rw [Int32.toBitVec_shiftRight]
  have e1 : ((0 : Int32).toBitVec.smod 32) = 0#32 := by decide
  rw [e1]
  show c.toBitVec.sshiftRight (0#32).toNat = _
  simp
theorem shl0 (c : Int32) : c <<< ((0 : Int32) &&& 31) = c := by
  have e : ((0 : Int32) &&& 31) = 0 := by decide
  rw [e]
  apply Int32.toBitVec_inj.mp
  rw [Int32.toBitVec_shiftLeft]
  have e1 : ((0 : Int32).toBitVec.smod 32) = 0#32 := by decide
  rw [e1]
  show c.toBitVec <<< (0#32).toNat = _
  simp
theorem shl8_nat {x : Int32} (h : x.toBitVec.toNat < 256) : (x <<< ((8 : Int32) &&& 31)).toBitVec.toNat = x.toBitVec.toNat * 256 := by
  have e : ((8 : Int32) &&& 31) = 8 := by decide
  rw [e, Int32.toBitVec_shiftLeft]
  have e1 : ((8 : Int32).toBitVec.smod 32) = 8#32 := by decide
  rw [e1]
  show (x.toBitVec <<< (8#32).toNat).toNat = _
  rw [BitVec.toNat_shiftLeft]
  show (x.toBitVec.toNat <<< 8) % 2 ^ 32 = _
  rw [Nat.shiftLeft_eq]; omega
theorem shr1 {n : Nat} (h : 2 * n < 2147483648) : Int32.ofNat (2 * n) >>> ((1 : Int32) &&& 31) = Int32.ofNat n := by
  have e : ((1 : Int32) &&& 31) = 1 := by decide
  rw [e]
  apply Int32.toBitVec_inj.mp
  rw [Int32.toBitVec_shiftRight]
  have e1 : ((1 : Int32).toBitVec.smod 32) = 1#32 := by decide
  have a1 : (Int32.ofNat (2 * n)).toBitVec.toNat = 2 * n := by show (BitVec.ofNat 32 (2 * n)).toNat = 2 * n; rw [BitVec.toNat_ofNat]; omega
  have a2 : (Int32.ofNat n).toBitVec.toNat = n := by show (BitVec.ofNat 32 n).toNat = n; rw [BitVec.toNat_ofNat]; omega
  have hm : (Int32.ofNat (2 * n)).toBitVec.msb = false := by rw [BitVec.msb_eq_decide, a1]; simp; omega
  apply BitVec.eq_of_toNat_eq
  rw [e1]
  show ((Int32.ofNat (2 * n)).toBitVec.sshiftRight (1#32).toNat).toNat = _
  rw [BitVec.sshiftRight_eq_of_msb_false hm, BitVec.toNat_ushiftRight, a1, a2]
  show (2 * n) >>> 1 = n
  rw [Nat.shiftRight_eq_div_pow]; omega
theorem nat_of_int {c : Int32} (h : 0 ≤ c.toInt) : c.toInt = (c.toBitVec.toNat : Int) := by
  have h1 : 0 ≤ c.toBitVec.toInt := h
  show c.toBitVec.toInt = _
  rw [BitVec.toInt_eq_toNat_cond] at h1 ⊢
  split at h1
  · rw [if_pos (by assumption)]
  · have := c.toBitVec.isLt; omega
theorem and_rng (x : Int32) {m : Int32} (hm : 0 ≤ m.toInt) : 0 ≤ (x &&& m).toInt ∧ (x &&& m).toInt ≤ m.toInt := by
  have h1 : (x &&& m).toBitVec.toNat ≤ m.toBitVec.toNat := by rw [Int32.toBitVec_and, BitVec.toNat_and]; exact Nat.and_le_right
  have h4 := nat_of_int hm
  have hb : m.toInt < 2147483648 := m.toInt_lt
  have h3 : (x &&& m).toInt = ((x &&& m).toBitVec.toNat : Int) := BitVec.toInt_eq_toNat_of_lt (by omega)
  omega
theorem rem_rng {x m : Int32} (hx : 0 ≤ x.toInt) (hm : 0 < m.toInt) : 0 ≤ (x % m).toInt ∧ (x % m).toInt < m.toInt := by
  rw [Int32.toInt_mod]
  exact ⟨Int.tmod_nonneg _ hx, Int.tmod_lt_of_pos _ hm⟩
theorem ushr_rng (x : Int32) : 0 ≤ (XT.ushr x 16).toInt := by
  have h1 : (XT.ushr x 16).toBitVec.toNat < 65536 := by
    show (x.toUInt32 >>> ((16 : Int32) &&& 31).toUInt32).toNat < 65536
    have : (((16 : Int32) &&& 31).toUInt32) = 16 := by decide
    rw [this, UInt32.toNat_shiftRight]
    have := x.toUInt32.toNat_lt; show x.toUInt32.toNat >>> (16 % 32) < _; rw [Nat.shiftRight_eq_div_pow]
    show x.toUInt32.toNat / 65536 < 65536
    omega
  have h3 : (XT.ushr x 16).toInt = ((XT.ushr x 16).toBitVec.toNat : Int) := BitVec.toInt_eq_toNat_of_lt (by omega)
  omega
theorem ofN_sub {a b : Nat} (h : b ≤ a) (ha : a < 2147483648) : Int32.ofNat a - Int32.ofNat b = Int32.ofNat (a - b) := by
  apply Int32.toInt_inj.mp
  rw [Int32.toInt_sub, ofN_int ha, ofN_int (i := b) (by omega), ofN_int (i := a - b) (by omega)]
  rw [Int.bmod_eq_of_le (by omega) (by omega)]; omega
theorem ofN_add (a b : Nat) : Int32.ofNat a + Int32.ofNat b = Int32.ofNat (a + b) := by rw [Int32.ofNat_add]
def ob (p : Prop) [Decidable p] : Int32 := if p then 1 else 0
theorem ob_t {p : Prop} [Decidable p] (h : p) : ob p = 1 := if_pos h
theorem ob_f {p : Prop} [Decidable p] (h : ¬ p) : ob p = 0 := if_neg h
theorem pd_0 : parseMethodDescriptor "([CI[BII)I" = some ⟨[(.array .char), .int, (.array .byte), .int, .int], (some .int)⟩ := by decide +kernel
theorem pd_1 : parseMethodDescriptor "([CII)[B" = some ⟨[(.array .char), .int, .int], (some (.array .byte))⟩ := by decide +kernel
theorem pd_2 : parseMethodDescriptor "([BI)B" = some ⟨[(.array .byte), .int], (some .byte)⟩ := by decide +kernel
theorem pd_3 : parseMethodDescriptor "([CIILjava/lang/Void;)V" = some ⟨[(.array .char), .int, .int, (.object "java/lang/Void")], none⟩ := by decide +kernel
theorem pd_4 : parseMethodDescriptor "([C)V" = some ⟨[(.array .char)], none⟩ := by decide +kernel
theorem pd_5 : parseMethodDescriptor "(Ljava/lang/Object;Ljava/lang/String;)Ljava/lang/Object;" = some ⟨[(.object "java/lang/Object"), (.object "java/lang/String")], (some (.object "java/lang/Object"))⟩ := by decide +kernel
theorem pd_6 : parseMethodDescriptor "([B[B)Z" = some ⟨[(.array .byte), (.array .byte)], (some .boolean)⟩ := by decide +kernel
theorem pd_7 : parseMethodDescriptor "(Ljava/lang/Object;)Z" = some ⟨[(.object "java/lang/Object")], (some .boolean)⟩ := by decide +kernel
theorem pd_8 : parseMethodDescriptor "(CCI)Ljava/lang/String;" = some ⟨[.char, .char, .int], (some (.object "java/lang/String"))⟩ := by decide +kernel
theorem pd_9 : parseMethodDescriptor "(Ljava/lang/String;II)V" = some ⟨[(.object "java/lang/String"), .int, .int], none⟩ := by decide +kernel
theorem d_b6_0 : decode jdk_52_method_21_code 0 = .ok (.iconst 0, 1) := by decide +kernel
theorem d_b6_1 : decode jdk_52_method_21_code 1 = .ok (.istore 5, 2) := by decide +kernel
theorem d_b6_3 : decode jdk_52_method_21_code 3 = .ok (.iload 5, 2) := by decide +kernel
theorem d_b6_5 : decode jdk_52_method_21_code 5 = .ok (.iload 4, 2) := by decide +kernel
theorem d_b6_7 : decode jdk_52_method_21_code 7 = .ok (.if_icmp .ge 37, 3) := by decide +kernel
theorem d_b6_10 : decode jdk_52_method_21_code 10 = .ok (.aload_n 0, 1) := by decide +kernel
theorem d_b6_11 : decode jdk_52_method_21_code 11 = .ok (.iload_n 1, 1) := by decide +kernel
theorem d_b6_12 : decode jdk_52_method_21_code 12 = .ok (.caload, 1) := by decide +kernel
theorem d_b6_13 : decode jdk_52_method_21_code 13 = .ok (.istore 6, 2) := by decide +kernel
theorem d_b6_15 : decode jdk_52_method_21_code 15 = .ok (.iload 6, 2) := by decide +kernel
theorem d_b6_17 : decode jdk_52_method_21_code 17 = .ok (.sipush 255, 3) := by decide +kernel
theorem d_b6_20 : decode jdk_52_method_21_code 20 = .ok (.if_icmp .le 6, 3) := by decide +kernel
theorem d_b6_26 : decode jdk_52_method_21_code 26 = .ok (.aload_n 2, 1) := by decide +kernel
theorem d_b6_27 : decode jdk_52_method_21_code 27 = .ok (.iload_n 3, 1) := by decide +kernel
theorem d_b6_28 : decode jdk_52_method_21_code 28 = .ok (.iload 6, 2) := by decide +kernel
theorem d_b6_30 : decode jdk_52_method_21_code 30 = .ok (.i2b, 1) := by decide +kernel
theorem d_b6_31 : decode jdk_52_method_21_code 31 = .ok (.bastore, 1) := by decide +kernel
theorem d_b6_32 : decode jdk_52_method_21_code 32 = .ok (.iinc 1 1, 3) := by decide +kernel
theorem d_b6_35 : decode jdk_52_method_21_code 35 = .ok (.iinc 3 1, 3) := by decide +kernel
theorem d_b6_38 : decode jdk_52_method_21_code 38 = .ok (.iinc 5 1, 3) := by decide +kernel
theorem d_b6_41 : decode jdk_52_method_21_code 41 = .ok (.goto (-38), 3) := by decide +kernel
theorem d_b6_44 : decode jdk_52_method_21_code 44 = .ok (.iload 4, 2) := by decide +kernel
theorem d_b6_46 : decode jdk_52_method_21_code 46 = .ok (.ireturn, 1) := by decide +kernel
theorem d_b7_0 : decode jdk_52_method_15_code 0 = .ok (.iload_n 1, 1) := by decide +kernel
theorem d_b7_1 : decode jdk_52_method_15_code 1 = .ok (.aload_n 0, 1) := by decide +kernel
theorem d_b7_2 : decode jdk_52_method_15_code 2 = .ok (.arraylength, 1) := by decide +kernel
theorem d_b7_3 : decode jdk_52_method_15_code 3 = .ok (.isub, 1) := by decide +kernel
theorem d_b7_4 : decode jdk_52_method_15_code 4 = .ok (.bipush 31, 2) := by decide +kernel
theorem d_b7_6 : decode jdk_52_method_15_code 6 = .ok (.iushr, 1) := by decide +kernel
theorem d_b7_7 : decode jdk_52_method_15_code 7 = .ok (.i2b, 1) := by decide +kernel
theorem d_b7_8 : decode jdk_52_method_15_code 8 = .ok (.ireturn, 1) := by decide +kernel
theorem d_b5_0 : decode jdk_52_method_16_code 0 = .ok (.iload_n 2, 1) := by decide +kernel
theorem d_b5_1 : decode jdk_52_method_16_code 1 = .ok (.newarray .byte, 2) := by decide +kernel
theorem d_b5_3 : decode jdk_52_method_16_code 3 = .ok (.astore_n 3, 1) := by decide +kernel
theorem d_b5_4 : decode jdk_52_method_16_code 4 = .ok (.aload_n 0, 1) := by decide +kernel
theorem d_b5_5 : decode jdk_52_method_16_code 5 = .ok (.iload_n 1, 1) := by decide +kernel
theorem d_b5_6 : decode jdk_52_method_16_code 6 = .ok (.aload_n 3, 1) := by decide +kernel
theorem d_b5_7 : decode jdk_52_method_16_code 7 = .ok (.iconst 0, 1) := by decide +kernel
theorem d_b5_8 : decode jdk_52_method_16_code 8 = .ok (.iload_n 2, 1) := by decide +kernel
theorem d_b5_9 : decode jdk_52_method_16_code 9 = .ok (.invokestatic 115, 3) := by decide +kernel
theorem d_b5_12 : decode jdk_52_method_16_code 12 = .ok (.istore 4, 2) := by decide +kernel
theorem d_b5_14 : decode jdk_52_method_16_code 14 = .ok (.iload 4, 2) := by decide +kernel
theorem d_b5_16 : decode jdk_52_method_16_code 16 = .ok (.iload_n 2, 1) := by decide +kernel
theorem d_b5_17 : decode jdk_52_method_16_code 17 = .ok (.if_icmp .eq 40, 3) := by decide +kernel
theorem d_b5_57 : decode jdk_52_method_16_code 57 = .ok (.aload_n 3, 1) := by decide +kernel
theorem d_b5_58 : decode jdk_52_method_16_code 58 = .ok (.areturn, 1) := by decide +kernel
theorem d_b3_0 : decode jdk_42_method_149_code 0 = .ok (.aload_n 0, 1) := by decide +kernel
theorem d_b3_1 : decode jdk_42_method_149_code 1 = .ok (.invokespecial 1, 3) := by decide +kernel
theorem d_b3_4 : decode jdk_42_method_149_code 4 = .ok (.iload_n 3, 1) := by decide +kernel
theorem d_b3_5 : decode jdk_42_method_149_code 5 = .ok (.ifCond .ne 22, 3) := by decide +kernel
theorem d_b3_27 : decode jdk_42_method_149_code 27 = .ok (.getstatic 38, 3) := by decide +kernel
theorem d_b3_30 : decode jdk_42_method_149_code 30 = .ok (.ifCond .eq 28, 3) := by decide +kernel
theorem d_b3_33 : decode jdk_42_method_149_code 33 = .ok (.aload_n 1, 1) := by decide +kernel
theorem d_b3_34 : decode jdk_42_method_149_code 34 = .ok (.iload_n 2, 1) := by decide +kernel
theorem d_b3_35 : decode jdk_42_method_149_code 35 = .ok (.iload_n 3, 1) := by decide +kernel
theorem d_b3_36 : decode jdk_42_method_149_code 36 = .ok (.invokestatic 177, 3) := by decide +kernel
theorem d_b3_39 : decode jdk_42_method_149_code 39 = .ok (.astore 5, 2) := by decide +kernel
theorem d_b3_41 : decode jdk_42_method_149_code 41 = .ok (.aload_n 0, 1) := by decide +kernel
theorem d_b3_42 : decode jdk_42_method_149_code 42 = .ok (.aload 5, 2) := by decide +kernel
theorem d_b3_44 : decode jdk_42_method_149_code 44 = .ok (.iload_n 3, 1) := by decide +kernel
theorem d_b3_45 : decode jdk_42_method_149_code 45 = .ok (.invokestatic 47, 3) := by decide +kernel
theorem d_b3_48 : decode jdk_42_method_149_code 48 = .ok (.putfield 15, 3) := by decide +kernel
theorem d_b3_51 : decode jdk_42_method_149_code 51 = .ok (.aload_n 0, 1) := by decide +kernel
theorem d_b3_52 : decode jdk_42_method_149_code 52 = .ok (.aload 5, 2) := by decide +kernel
theorem d_b3_54 : decode jdk_42_method_149_code 54 = .ok (.putfield 9, 3) := by decide +kernel
theorem d_b3_57 : decode jdk_42_method_149_code 57 = .ok (.return_, 1) := by decide +kernel
theorem d_b2_0 : decode jdk_42_method_3_code 0 = .ok (.aload_n 0, 1) := by decide +kernel
theorem d_b2_1 : decode jdk_42_method_3_code 1 = .ok (.aload_n 1, 1) := by decide +kernel
theorem d_b2_2 : decode jdk_42_method_3_code 2 = .ok (.iconst 0, 1) := by decide +kernel
theorem d_b2_3 : decode jdk_42_method_3_code 3 = .ok (.aload_n 1, 1) := by decide +kernel
theorem d_b2_4 : decode jdk_42_method_3_code 4 = .ok (.arraylength, 1) := by decide +kernel
theorem d_b2_5 : decode jdk_42_method_3_code 5 = .ok (.aconst_null, 1) := by decide +kernel
theorem d_b2_6 : decode jdk_42_method_3_code 6 = .ok (.invokespecial 27, 3) := by decide +kernel
theorem d_b2_9 : decode jdk_42_method_3_code 9 = .ok (.return_, 1) := by decide +kernel
theorem d_b1_0 : decode method_3_code 0 = .ok (.iload_n 2, 1) := by decide +kernel
theorem d_b1_1 : decode method_3_code 1 = .ok (.iconst 1, 1) := by decide +kernel
theorem d_b1_2 : decode method_3_code 2 = .ok (.if_icmp .ne 18, 3) := by decide +kernel
theorem d_b1_5 : decode method_3_code 5 = .ok (.new 22, 3) := by decide +kernel
theorem d_b1_8 : decode method_3_code 8 = .ok (.dup, 1) := by decide +kernel
theorem d_b1_9 : decode method_3_code 9 = .ok (.iconst 1, 1) := by decide +kernel
theorem d_b1_10 : decode method_3_code 10 = .ok (.newarray .char, 2) := by decide +kernel
theorem d_b1_12 : decode method_3_code 12 = .ok (.dup, 1) := by decide +kernel
theorem d_b1_13 : decode method_3_code 13 = .ok (.iconst 0, 1) := by decide +kernel
theorem d_b1_14 : decode method_3_code 14 = .ok (.iload_n 0, 1) := by decide +kernel
theorem d_b1_15 : decode method_3_code 15 = .ok (.castore, 1) := by decide +kernel
theorem d_b1_16 : decode method_3_code 16 = .ok (.invokespecial 24, 3) := by decide +kernel
theorem d_b1_19 : decode method_3_code 19 = .ok (.areturn, 1) := by decide +kernel
theorem d_b1_20 : decode method_3_code 20 = .ok (.new 22, 3) := by decide +kernel
theorem d_b1_23 : decode method_3_code 23 = .ok (.dup, 1) := by decide +kernel
theorem d_b1_24 : decode method_3_code 24 = .ok (.iconst 2, 1) := by decide +kernel
theorem d_b1_25 : decode method_3_code 25 = .ok (.newarray .char, 2) := by decide +kernel
theorem d_b1_27 : decode method_3_code 27 = .ok (.dup, 1) := by decide +kernel
theorem d_b1_28 : decode method_3_code 28 = .ok (.iconst 0, 1) := by decide +kernel
theorem d_b1_29 : decode method_3_code 29 = .ok (.iload_n 0, 1) := by decide +kernel
theorem d_b1_30 : decode method_3_code 30 = .ok (.castore, 1) := by decide +kernel
theorem d_b1_31 : decode method_3_code 31 = .ok (.dup, 1) := by decide +kernel
theorem d_b1_32 : decode method_3_code 32 = .ok (.iconst 1, 1) := by decide +kernel
theorem d_b1_33 : decode method_3_code 33 = .ok (.iload_n 1, 1) := by decide +kernel
theorem d_b1_34 : decode method_3_code 34 = .ok (.castore, 1) := by decide +kernel
theorem d_b1_35 : decode method_3_code 35 = .ok (.invokespecial 24, 3) := by decide +kernel
theorem d_b1_38 : decode method_3_code 38 = .ok (.areturn, 1) := by decide +kernel
theorem d_b9_0 : decode jdk_31_method_11_code 0 = .ok (.aload_n 0, 1) := by decide +kernel
theorem d_b9_1 : decode jdk_31_method_11_code 1 = .ok (.ifnonnull 12, 3) := by decide +kernel
theorem d_b9_13 : decode jdk_31_method_11_code 13 = .ok (.aload_n 0, 1) := by decide +kernel
theorem d_b9_14 : decode jdk_31_method_11_code 14 = .ok (.areturn, 1) := by decide +kernel
theorem d_b8_0 : decode prog_46_method_1_code 0 = .ok (.aload_n 0, 1) := by decide +kernel
theorem d_b8_1 : decode prog_46_method_1_code 1 = .ok (.invokespecial 1, 3) := by decide +kernel
theorem d_b8_4 : decode prog_46_method_1_code 4 = .ok (.aload_n 0, 1) := by decide +kernel
theorem d_b8_5 : decode prog_46_method_1_code 5 = .ok (.aload_n 1, 1) := by decide +kernel
theorem d_b8_6 : decode prog_46_method_1_code 6 = .ok (.ldc 7, 2) := by decide +kernel
theorem d_b8_8 : decode prog_46_method_1_code 8 = .ok (.invokestatic 9, 3) := by decide +kernel
theorem d_b8_11 : decode prog_46_method_1_code 11 = .ok (.checkcast 15, 3) := by decide +kernel
theorem d_b8_14 : decode prog_46_method_1_code 14 = .ok (.putfield 17, 3) := by decide +kernel
theorem d_b8_17 : decode prog_46_method_1_code 17 = .ok (.aload_n 0, 1) := by decide +kernel
theorem d_b8_18 : decode prog_46_method_1_code 18 = .ok (.iload_n 2, 1) := by decide +kernel
theorem d_b8_19 : decode prog_46_method_1_code 19 = .ok (.putfield 22, 3) := by decide +kernel
theorem d_b8_22 : decode prog_46_method_1_code 22 = .ok (.aload_n 0, 1) := by decide +kernel
theorem d_b8_23 : decode prog_46_method_1_code 23 = .ok (.iload_n 3, 1) := by decide +kernel
theorem d_b8_24 : decode prog_46_method_1_code 24 = .ok (.putfield 26, 3) := by decide +kernel
theorem d_b8_27 : decode prog_46_method_1_code 27 = .ok (.return_, 1) := by decide +kernel
theorem d_b12_0 : decode jdk_43_method_13_code 0 = .ok (.aload_n 0, 1) := by decide +kernel
theorem d_b12_1 : decode jdk_43_method_13_code 1 = .ok (.arraylength, 1) := by decide +kernel
theorem d_b12_2 : decode jdk_43_method_13_code 2 = .ok (.aload_n 1, 1) := by decide +kernel
theorem d_b12_3 : decode jdk_43_method_13_code 3 = .ok (.arraylength, 1) := by decide +kernel
theorem d_b12_4 : decode jdk_43_method_13_code 4 = .ok (.if_icmp .ne 30, 3) := by decide +kernel
theorem d_b12_7 : decode jdk_43_method_13_code 7 = .ok (.iconst 0, 1) := by decide +kernel
theorem d_b12_8 : decode jdk_43_method_13_code 8 = .ok (.istore_n 2, 1) := by decide +kernel
theorem d_b12_9 : decode jdk_43_method_13_code 9 = .ok (.iload_n 2, 1) := by decide +kernel
theorem d_b12_10 : decode jdk_43_method_13_code 10 = .ok (.aload_n 0, 1) := by decide +kernel
theorem d_b12_11 : decode jdk_43_method_13_code 11 = .ok (.arraylength, 1) := by decide +kernel
theorem d_b12_12 : decode jdk_43_method_13_code 12 = .ok (.if_icmp .ge 20, 3) := by decide +kernel
theorem d_b12_15 : decode jdk_43_method_13_code 15 = .ok (.aload_n 0, 1) := by decide +kernel
theorem d_b12_16 : decode jdk_43_method_13_code 16 = .ok (.iload_n 2, 1) := by decide +kernel
theorem d_b12_17 : decode jdk_43_method_13_code 17 = .ok (.baload, 1) := by decide +kernel
theorem d_b12_18 : decode jdk_43_method_13_code 18 = .ok (.aload_n 1, 1) := by decide +kernel
theorem d_b12_19 : decode jdk_43_method_13_code 19 = .ok (.iload_n 2, 1) := by decide +kernel
theorem d_b12_20 : decode jdk_43_method_13_code 20 = .ok (.baload, 1) := by decide +kernel
theorem d_b12_21 : decode jdk_43_method_13_code 21 = .ok (.if_icmp .eq 5, 3) := by decide +kernel
theorem d_b12_24 : decode jdk_43_method_13_code 24 = .ok (.iconst 0, 1) := by decide +kernel
theorem d_b12_25 : decode jdk_43_method_13_code 25 = .ok (.ireturn, 1) := by decide +kernel
theorem d_b12_26 : decode jdk_43_method_13_code 26 = .ok (.iinc 2 1, 3) := by decide +kernel
theorem d_b12_29 : decode jdk_43_method_13_code 29 = .ok (.goto (-20), 3) := by decide +kernel
theorem d_b12_32 : decode jdk_43_method_13_code 32 = .ok (.iconst 1, 1) := by decide +kernel
theorem d_b12_33 : decode jdk_43_method_13_code 33 = .ok (.ireturn, 1) := by decide +kernel
theorem d_b12_34 : decode jdk_43_method_13_code 34 = .ok (.iconst 0, 1) := by decide +kernel
theorem d_b12_35 : decode jdk_43_method_13_code 35 = .ok (.ireturn, 1) := by decide +kernel
theorem d_b11_0 : decode jdk_42_method_66_code 0 = .ok (.aload_n 0, 1) := by decide +kernel
theorem d_b11_1 : decode jdk_42_method_66_code 1 = .ok (.aload_n 1, 1) := by decide +kernel
theorem d_b11_2 : decode jdk_42_method_66_code 2 = .ok (.if_acmp .ne 5, 3) := by decide +kernel
theorem d_b11_5 : decode jdk_42_method_66_code 5 = .ok (.iconst 1, 1) := by decide +kernel
theorem d_b11_6 : decode jdk_42_method_66_code 6 = .ok (.ireturn, 1) := by decide +kernel
theorem d_b11_7 : decode jdk_42_method_66_code 7 = .ok (.aload_n 1, 1) := by decide +kernel
theorem d_b11_8 : decode jdk_42_method_66_code 8 = .ok (.instanceof 10, 3) := by decide +kernel
theorem d_b11_11 : decode jdk_42_method_66_code 11 = .ok (.ifCond .eq 43, 3) := by decide +kernel
theorem d_b11_14 : decode jdk_42_method_66_code 14 = .ok (.aload_n 1, 1) := by decide +kernel
theorem d_b11_15 : decode jdk_42_method_66_code 15 = .ok (.checkcast 10, 3) := by decide +kernel
theorem d_b11_18 : decode jdk_42_method_66_code 18 = .ok (.astore_n 2, 1) := by decide +kernel
theorem d_b11_19 : decode jdk_42_method_66_code 19 = .ok (.getstatic 38, 3) := by decide +kernel
theorem d_b11_22 : decode jdk_42_method_66_code 22 = .ok (.ifCond .eq 14, 3) := by decide +kernel
theorem d_b11_25 : decode jdk_42_method_66_code 25 = .ok (.aload_n 0, 1) := by decide +kernel
theorem d_b11_26 : decode jdk_42_method_66_code 26 = .ok (.getfield 15, 3) := by decide +kernel
theorem d_b11_29 : decode jdk_42_method_66_code 29 = .ok (.aload_n 2, 1) := by decide +kernel
theorem d_b11_30 : decode jdk_42_method_66_code 30 = .ok (.getfield 15, 3) := by decide +kernel
theorem d_b11_33 : decode jdk_42_method_66_code 33 = .ok (.if_icmp .ne 21, 3) := by decide +kernel
theorem d_b11_36 : decode jdk_42_method_66_code 36 = .ok (.aload_n 0, 1) := by decide +kernel
theorem d_b11_37 : decode jdk_42_method_66_code 37 = .ok (.getfield 9, 3) := by decide +kernel
theorem d_b11_40 : decode jdk_42_method_66_code 40 = .ok (.aload_n 2, 1) := by decide +kernel
theorem d_b11_41 : decode jdk_42_method_66_code 41 = .ok (.getfield 9, 3) := by decide +kernel
theorem d_b11_44 : decode jdk_42_method_66_code 44 = .ok (.invokestatic 541, 3) := by decide +kernel
theorem d_b11_47 : decode jdk_42_method_66_code 47 = .ok (.ifCond .eq 7, 3) := by decide +kernel
theorem d_b11_50 : decode jdk_42_method_66_code 50 = .ok (.iconst 1, 1) := by decide +kernel
theorem d_b11_51 : decode jdk_42_method_66_code 51 = .ok (.goto 4, 3) := by decide +kernel
theorem d_b11_54 : decode jdk_42_method_66_code 54 = .ok (.iconst 0, 1) := by decide +kernel
theorem d_b11_55 : decode jdk_42_method_66_code 55 = .ok (.ireturn, 1) := by decide +kernel
theorem d_b10_0 : decode prog_46_method_5_code 0 = .ok (.aload_n 1, 1) := by decide +kernel
theorem d_b10_1 : decode prog_46_method_5_code 1 = .ok (.instanceof 18, 3) := by decide +kernel
theorem d_b10_4 : decode prog_46_method_5_code 4 = .ok (.ifCond .eq 48, 3) := by decide +kernel
theorem d_b10_7 : decode prog_46_method_5_code 7 = .ok (.aload_n 1, 1) := by decide +kernel
theorem d_b10_8 : decode prog_46_method_5_code 8 = .ok (.checkcast 18, 3) := by decide +kernel
theorem d_b10_11 : decode prog_46_method_5_code 11 = .ok (.astore_n 2, 1) := by decide +kernel
theorem d_b10_12 : decode prog_46_method_5_code 12 = .ok (.aload_n 0, 1) := by decide +kernel
theorem d_b10_13 : decode prog_46_method_5_code 13 = .ok (.getfield 17, 3) := by decide +kernel
theorem d_b10_16 : decode prog_46_method_5_code 16 = .ok (.aload_n 2, 1) := by decide +kernel
theorem d_b10_17 : decode prog_46_method_5_code 17 = .ok (.getfield 17, 3) := by decide +kernel
theorem d_b10_20 : decode prog_46_method_5_code 20 = .ok (.invokevirtual 29, 3) := by decide +kernel
theorem d_b10_23 : decode prog_46_method_5_code 23 = .ok (.ifCond .eq 29, 3) := by decide +kernel
theorem d_b10_26 : decode prog_46_method_5_code 26 = .ok (.aload_n 0, 1) := by decide +kernel
theorem d_b10_27 : decode prog_46_method_5_code 27 = .ok (.getfield 22, 3) := by decide +kernel
theorem d_b10_30 : decode prog_46_method_5_code 30 = .ok (.aload_n 2, 1) := by decide +kernel
theorem d_b10_31 : decode prog_46_method_5_code 31 = .ok (.getfield 22, 3) := by decide +kernel
theorem d_b10_34 : decode prog_46_method_5_code 34 = .ok (.if_icmp .ne 18, 3) := by decide +kernel
theorem d_b10_37 : decode prog_46_method_5_code 37 = .ok (.aload_n 0, 1) := by decide +kernel
theorem d_b10_38 : decode prog_46_method_5_code 38 = .ok (.getfield 26, 3) := by decide +kernel
theorem d_b10_41 : decode prog_46_method_5_code 41 = .ok (.aload_n 2, 1) := by decide +kernel
theorem d_b10_42 : decode prog_46_method_5_code 42 = .ok (.getfield 26, 3) := by decide +kernel
theorem d_b10_45 : decode prog_46_method_5_code 45 = .ok (.if_icmp .ne 7, 3) := by decide +kernel
theorem d_b10_48 : decode prog_46_method_5_code 48 = .ok (.iconst 1, 1) := by decide +kernel
theorem d_b10_49 : decode prog_46_method_5_code 49 = .ok (.goto 4, 3) := by decide +kernel
theorem d_b10_52 : decode prog_46_method_5_code 52 = .ok (.iconst 0, 1) := by decide +kernel
theorem d_b10_53 : decode prog_46_method_5_code 53 = .ok (.ireturn, 1) := by decide +kernel
set_option maxRecDepth 65536 in
set_option maxHeartbeats 4000000 in
theorem cmp5_loop {l : Launch} {Z : State} {a0 : Array Value} {n0 : Nat} (hB : Base Z a0) {b d : Addr} {kb kd : ClassId} (cs : List Int32) (hn : cs.length ≤ 4000) (hc : ∀ c ∈ cs, ¬ (255 : Int32) < c) (hne : b ≠ d) (h0 : Heap) :
    ∀ (j i : Nat) (h : Heap) (o6 : Slot), One o6 → i + j = cs.length → Keep h0 h [d] → Arv Z h b kb .char (Int32.ofNat cs.length) (cs.map Value.int) (.int 0) → Arv Z h d kd .byte (Int32.ofNat cs.length) (lo8s (cs.take i) ++ List.replicate j (Value.int 0)) (.int 0) →
      Go l Z a0 ELc n0 ({ frames := 0, cells := 0, slots := 0, locals := 0 } : Room) "java/lang/StringUTF16" jdk_52_method_21_code 7 (Option.some FieldType.int) "compress" (fun v h' sf' => v = some (.int (Int32.ofNat cs.length)) ∧ sf' = [] ∧ Keep h0 h' [d] ∧ Arv Z h' d kd .byte (Int32.ofNat cs.length) (lo8s cs) (.int 0)) h [d] 0 0 3 #[.val (.ref b), .val (.int (Int32.ofNat i)), .val (.ref d), .val (.int (Int32.ofNat i)), .val (.int (Int32.ofNat cs.length)), .val (.int (Int32.ofNat i)), o6] [] := by
  intro j
  induction j with
  | zero =>
    intro i h o6 ho hi K A B
    refine go_iload d_b6_3 rfl rfl ?_
    refine go_iload d_b6_5 rfl rfl ?_
    refine go_icmp_ge_t (pt := 44) d_b6_7 (by decide) (by decide) (ofN_nlt (by omega) (by omega)) ?_
    refine go_iload d_b6_44 rfl rfl ?_
    refine go_retI d_b6_46 [] rfl (by decide) (by decide) (fun _ q => nomatch q) ?_
    refine ⟨rfl, rfl, K, ?_⟩
    have e : i = cs.length := by omega
    subst e
    simpa using B
  | succ j ih =>
    intro i h o6 ho hi K A B
    obtain ⟨c, hci, hcm⟩ := at_of (cs := cs) (i := i) (by omega)
    refine go_iload d_b6_3 rfl rfl ?_
    refine go_iload d_b6_5 rfl rfl ?_
    refine go_icmp_ge_f d_b6_7 rfl (ofN_lt (by omega) (by omega)) ?_
    refine go_aloadN d_b6_10 rfl rfl rfl ?_
    refine go_iloadN d_b6_11 rfl rfl ?_
    refine go_caload (v := (.int c)) i d_b6_12 rfl A ⟨ofN_nneg (by omega), ofN_lt (by omega) (by omega)⟩ (ofN_cl (by omega)) (map_at hci) ?_
    refine go_istore d_b6_13 rfl #[.val (.ref b), .val (.int (Int32.ofNat i)), .val (.ref d), .val (.int (Int32.ofNat i)), .val (.int (Int32.ofNat cs.length)), .val (.int (Int32.ofNat i)), .val (.int c)] (XS.store1 rfl ho rfl) ?_
    refine go_iload d_b6_15 rfl rfl ?_
    refine go_sipush 255 d_b6_17 rfl (by decide) ?_
    refine go_icmp_le_t (pt := 26) d_b6_20 (by decide) (by decide) (hc c hcm) ?_
    refine go_aloadN d_b6_26 rfl rfl rfl ?_
    refine go_iloadN d_b6_27 rfl rfl ?_
    refine go_iload d_b6_28 rfl rfl ?_
    refine go_i2b d_b6_30 rfl ?_
    refine go_bastore i d_b6_31 rfl B ⟨ofN_nneg (by omega), ofN_lt (by omega) (by omega)⟩ (ofN_cl (by omega)) (by simp [lo8s_len]; omega) (List.Mem.head _) ?_
    intro h1 W2 B3
    have B4 : Arv Z h1 d kd .byte (Int32.ofNat cs.length) ((lo8s (cs.take i) ++ List.replicate (j + 1) (Value.int 0)).set i (Value.int c.toInt8.toInt32.toInt8.toInt32)) (.int 0) := B3
    refine go_iinc 1 d_b6_32 rfl #[.val (.ref b), .val (.int ((Int32.ofNat i) + 1)), .val (.ref d), .val (.int (Int32.ofNat i)), .val (.int (Int32.ofNat cs.length)), .val (.int (Int32.ofNat i)), .val (.int c)] (by decide) rfl rfl ?_
    refine go_iinc 1 d_b6_35 rfl #[.val (.ref b), .val (.int ((Int32.ofNat i) + 1)), .val (.ref d), .val (.int ((Int32.ofNat i) + 1)), .val (.int (Int32.ofNat cs.length)), .val (.int (Int32.ofNat i)), .val (.int c)] (by decide) rfl rfl ?_
    refine go_iinc 1 d_b6_38 rfl #[.val (.ref b), .val (.int ((Int32.ofNat i) + 1)), .val (.ref d), .val (.int ((Int32.ofNat i) + 1)), .val (.int (Int32.ofNat cs.length)), .val (.int ((Int32.ofNat i) + 1)), .val (.int c)] (by decide) rfl rfl ?_
    refine go_goto (pt := 3) d_b6_41 (by decide) (by decide) ?_
    rw [ofN_succ]
    have F5 := (Arv.other A W2 hne)
    have e8 : c.toInt8.toInt32.toInt8.toInt32 = c.toInt8.toInt32 := by simp
    rw [e8, lo8s_set hci hi] at B4
    exact ih (i + 1) _ _ (One.val rfl) (by omega) (K.wr W2 (Or.inl (List.Mem.head _))) F5 B4
set_option maxRecDepth 65536 in
set_option maxHeartbeats 4000000 in
theorem c_cmp5 {l : Launch} {Z : State} {a0 : Array Value} {n0 : Nat} (hB : Base Z a0) {b d : Addr} {kb kd : ClassId} (cs : List Int32) (hn : cs.length ≤ 4000) (hc : ∀ c ∈ cs, ¬ (255 : Int32) < c) (hne : b ≠ d) {h : Heap} (A : Arv Z h b kb .char (Int32.ofNat cs.length) (cs.map Value.int) (.int 0)) (B : Arv Z h d kd .byte (Int32.ofNat cs.length) (List.replicate cs.length (Value.int 0)) (.int 0)) :
    Con l Z ELc n0 (⟨"java/lang/StringUTF16", "compress", "([CI[BII)I"⟩ : MethodName) jdk_52_method_21_code 7 (Option.some FieldType.int) [] ({ frames := 0, cells := 0, slots := 0, locals := 0 } : Room) #[.ref b, .int 0, .ref d, .int 0, .int (Int32.ofNat cs.length)] h [d] (fun v h' sf' => v = some (.int (Int32.ofNat cs.length)) ∧ sf' = [] ∧ Keep h h' [d] ∧ Arv Z h' d kd .byte (Int32.ofNat cs.length) (lo8s cs) (.int 0)) := by
  refine con_of (a0 := a0) (ls := #[.val (.ref b), .val (.int 0), .val (.ref d), .val (.int 0), .val (.int (Int32.ofNat cs.length)), .unset, .unset]) (plainFor_of_name (by decide +kernel)) hB.2.1 (fun m => by first | (simp [entryFrame, mkF, argsToLocals, Value.category]; done) | (simp [entryFrame, mkF, argsToLocals, Value.category, maxLocals]; done) | rfl) ?_
  show Go l Z a0 ELc n0 ({ frames := 0, cells := 0, slots := 0, locals := 0 } : Room) "java/lang/StringUTF16" jdk_52_method_21_code 7 (Option.some FieldType.int) "compress" _ h [d] 0 0 0 #[.val (.ref b), .val (.int 0), .val (.ref d), .val (.int 0), .val (.int (Int32.ofNat cs.length)), .unset, .unset] []
  refine go_iconst 0 d_b6_0 rfl (by decide) ?_
  refine go_istore d_b6_1 rfl #[.val (.ref b), .val (.int 0), .val (.ref d), .val (.int 0), .val (.int (Int32.ofNat cs.length)), .val (.int 0), .unset] rfl ?_
  exact cmp5_loop hB cs hn hc hne h cs.length 0 h _ One.u (by omega) (Keep.refl _ _) A (by simpa [lo8s] using B)
set_option maxRecDepth 65536 in
set_option maxHeartbeats 4000000 in
theorem c_cod {l : Launch} {Z : State} {a0 : Array Value} {n0 : Nat} (hB : Base Z a0) {d : Addr} {kd : ClassId} {z : Int32} {vs : List Value} {h : Heap} (B : Arv Z h d kd .byte z vs (.int 0)) :
    Con l Z ELc n0 (⟨"java/lang/StringUTF16", "coderFromArrayLen", "([BI)B"⟩ : MethodName) jdk_52_method_15_code 2 (Option.some FieldType.byte) [] ({ frames := 0, cells := 0, slots := 0, locals := 0 } : Room) #[.ref d, .int z] h [] (fun v h' sf' => v = some (.int 0) ∧ sf' = [] ∧ h = h') := by
  refine con_of (a0 := a0) (ls := #[.val (.ref d), .val (.int z)]) (plainFor_of_name (by decide +kernel)) hB.2.1 (fun m => by first | (simp [entryFrame, mkF, argsToLocals, Value.category]; done) | (simp [entryFrame, mkF, argsToLocals, Value.category, maxLocals]; done) | rfl) ?_
  show Go l Z a0 ELc n0 ({ frames := 0, cells := 0, slots := 0, locals := 0 } : Room) "java/lang/StringUTF16" jdk_52_method_15_code 2 (Option.some FieldType.byte) "coderFromArrayLen" _ h [] 0 0 0 #[.val (.ref d), .val (.int z)] []
  refine go_iloadN d_b7_0 rfl rfl ?_
  refine go_aloadN d_b7_1 rfl rfl rfl ?_
  refine go_alen d_b7_2 rfl B ?_
  refine go_isub d_b7_3 rfl ?_
  refine go_bipush 31 d_b7_4 rfl (by decide) ?_
  refine go_iushr d_b7_6 rfl ?_
  refine go_i2b d_b7_7 rfl ?_
  refine go_retN (t := .byte) d_b7_8 [] rfl (by simp) (by decide) (by decide) (fun _ q => nomatch q) ?_
  refine ⟨?_, rfl, rfl⟩
  rw [Int32.sub_self]
  decide
set_option maxRecDepth 65536 in
set_option maxHeartbeats 4000000 in
theorem c_cmp3 {l : Launch} {Z : State} {a0 : Array Value} {n0 : Nat} (hB : Base Z a0) {b : Addr} {kb : ClassId} (cs : List Int32) (hn : cs.length ≤ 16) (hc : ∀ c ∈ cs, ¬ (255 : Int32) < c) {h : Heap} (A : Arv Z h b kb .char (Int32.ofNat cs.length) (cs.map Value.int) (.int 0)) :
    Con l Z ELc n0 (⟨"java/lang/StringUTF16", "compress", "([CII)[B"⟩ : MethodName) jdk_52_method_16_code 6 (Option.some (FieldType.array FieldType.byte)) [] ({ frames := 1, cells := 1, slots := 16, locals := 18 } : Room) #[.ref b, .int 0, .int (Int32.ofNat cs.length)] h [] (fun v h' sf' => ∃ d kd, v = some (.ref d) ∧ sf' = [] ∧ Ext h h' ∧ h.size ≤ d ∧ Arv Z h' d kd .byte (Int32.ofNat cs.length) (lo8s cs) (.int 0)) := by
  refine con_of (a0 := a0) (ls := #[.val (.ref b), .val (.int 0), .val (.int (Int32.ofNat cs.length)), .unset, .unset, .unset]) (plainFor_of_name (by decide +kernel)) hB.2.1 (fun m => by first | (simp [entryFrame, mkF, argsToLocals, Value.category]; done) | (simp [entryFrame, mkF, argsToLocals, Value.category, maxLocals]; done) | rfl) ?_
  show Go l Z a0 ELc n0 ({ frames := 1, cells := 1, slots := 16, locals := 18 } : Room) "java/lang/StringUTF16" jdk_52_method_16_code 6 (Option.some (FieldType.array FieldType.byte)) "compress" _ h [] 0 0 0 #[.val (.ref b), .val (.int 0), .val (.int (Int32.ofNat cs.length)), .unset, .unset, .unset] []
  refine go_iloadN d_b5_0 rfl rfl ?_
  refine go_newarr (ty := .byte) (ad := "[B") 16 d_b5_1 rfl rfl (wd hB 23 rfl) (ofN_nneg (by omega)) (by rw [ofN_cl (by omega)]; exact hn) (by decide) (by decide) (by decide) (by decide) ?_
  intro h6 x1 hx2 E3 ⟨A4, k5, B7⟩
  have B8 : Arv Z h6 x1 k5 .byte (Int32.ofNat cs.length) (List.replicate cs.length (Value.int 0)) (.int 0) := B7.pad (pad_rep [] (.int 0) cs.length)
  refine go_astoreN d_b5_3 rfl #[.val (.ref b), .val (.int 0), .val (.int (Int32.ofNat cs.length)), .val (.ref x1), .unset, .unset] rfl rfl ?_
  refine go_aloadN d_b5_4 rfl rfl rfl ?_
  refine go_iloadN d_b5_5 rfl rfl ?_
  refine go_aloadN d_b5_6 rfl rfl rfl ?_
  refine go_iconst 0 d_b5_7 rfl (by decide) ?_
  refine go_iloadN d_b5_8 rfl rfl ?_
  have F9 := (A.ext E3)
  refine go_static [(.ref b), (.int 0), (.ref x1), (.int 0), (.int (Int32.ofNat cs.length))] [] 0 d_b5_9 rfl (wd hB 24 rfl) (wd hB 25 rfl) (wd hB 21 rfl) (wd hB 26 rfl) (c_cmp5 hB cs (by omega) hc (Nat.ne_of_lt (Nat.lt_of_lt_of_le A.lt (Nat.le_of_eq hx2.symm))) F9 B8) (allS (List.Mem.head _) (fun _ q => nomatch q)) (lenOf pd_0 rfl) rfl rfl rfl (by decide) (by decide) (by decide) (by decide) (by decide) (fun v10 h11 s12 q13 => ?_)
  obtain ⟨rfl, rfl, K14, B15⟩ := q13
  show Go _ _ _ _ _ _ _ _ _ _ _ _ h11 [x1] 1 16 12 #[.val (.ref b), .val (.int 0), .val (.int (Int32.ofNat cs.length)), .val (.ref x1), .unset, .unset] [(.int (Int32.ofNat cs.length))]
  refine go_istore d_b5_12 rfl #[.val (.ref b), .val (.int 0), .val (.int (Int32.ofNat cs.length)), .val (.ref x1), .val (.int (Int32.ofNat cs.length)), .unset] rfl ?_
  refine go_iload d_b5_14 rfl rfl ?_
  refine go_iloadN d_b5_16 rfl rfl ?_
  refine go_icmp_eq_t (pt := 57) d_b5_17 (by decide) (by decide) rfl ?_
  refine go_aloadN d_b5_57 rfl rfl rfl ?_
  refine go_retA d_b5_58 [] rfl rfl rfl rfl (by decide) (by decide) (fun _ q => nomatch q) ?_
  exact ⟨_, _, rfl, rfl, (ext_of_keep (((Keep.refl h []).ext E3).trans K14 (allS (Or.inr (Nat.le_of_eq hx2.symm)) all0))), (Nat.le_of_eq hx2.symm), B15⟩
set_option maxRecDepth 65536 in
set_option maxHeartbeats 4000000 in
theorem c_sinit4 {l : Launch} {Z : State} {a0 : Array Value} {n0 : Nat} (hB : Base Z a0) {x b : Addr} {kb : ClassId} (cs : List Int32) (hp : 0 < cs.length) (hn : cs.length ≤ 16) (hc : ∀ c ∈ cs, ¬ (255 : Int32) < c) {h : Heap} (A : Arv Z h b kb .char (Int32.ofNat cs.length) (cs.map Value.int) (.int 0)) (E : Exa Z h x "java/lang/String") (F1 : Fld Z h x "java/lang/String" "value" "[B" .null) (F2 : Fld Z h x "java/lang/String" "coder" "B" (.int 0)) (hge : n0 ≤ x) :
    Con l Z ELc n0 (⟨"java/lang/String", "<init>", "([CIILjava/lang/Void;)V"⟩ : MethodName) jdk_42_method_149_code 6 (Option.none : Option FieldType) [] ({ frames := 2, cells := 1, slots := 16, locals := 37 } : Room) #[.ref x, .ref b, .int 0, .int (Int32.ofNat cs.length), .null] h [x] (fun v h' sf' => v = none ∧ sf' = [] ∧ Keep h h' [x] ∧ Exa Z h' x "java/lang/String" ∧ Fld Z h' x "java/lang/String" "coder" "B" (.int 0) ∧ ∃ d kd, h.size ≤ d ∧ Fld Z h' x "java/lang/String" "value" "[B" (.ref d) ∧ Arv Z h' d kd .byte (Int32.ofNat cs.length) (lo8s cs) (.int 0)) := by
  refine con_of (a0 := a0) (ls := #[.val (.ref x), .val (.ref b), .val (.int 0), .val (.int (Int32.ofNat cs.length)), .val .null, .unset]) (plainFor_of_name (by decide +kernel)) hB.2.1 (fun m => by first | (simp [entryFrame, mkF, argsToLocals, Value.category]; done) | (simp [entryFrame, mkF, argsToLocals, Value.category, maxLocals]; done) | rfl) ?_
  show Go l Z a0 ELc n0 ({ frames := 2, cells := 1, slots := 16, locals := 37 } : Room) "java/lang/String" jdk_42_method_149_code 6 (Option.none : Option FieldType) "<init>" _ h [x] 0 0 0 #[.val (.ref x), .val (.ref b), .val (.int 0), .val (.int (Int32.ofNat cs.length)), .val .null, .unset] []
  obtain ⟨cz, hS, hcz⟩ := hB.2.2.1
  refine go_aloadN d_b3_0 rfl rfl rfl ?_
  refine go_initO d_b3_1 rfl (wd hB 15 rfl) (wd hB 16 rfl) (wd hB 17 rfl) rfl (by decide) 0 rfl (by decide) ?_
  refine go_iloadN d_b3_4 rfl rfl ?_
  refine go_if_ne_t (pt := 27) d_b3_5 (by decide) (by decide) (ofN_pos hp (by omega)) ?_
  refine go_getstatic d_b3_27 rfl (wd hB 18 rfl) Via.refl hS ?_
  refine go_if_eq_f d_b3_30 rfl hcz ?_
  refine go_aloadN d_b3_33 rfl rfl rfl ?_
  refine go_iloadN d_b3_34 rfl rfl ?_
  refine go_iloadN d_b3_35 rfl rfl ?_
  refine go_static [(.ref b), (.int 0), (.int (Int32.ofNat cs.length))] [] 0 d_b3_36 rfl (wd hB 19 rfl) (wd hB 20 rfl) (wd hB 21 rfl) (wd hB 22 rfl) (c_cmp3 hB cs hn hc A) (fun _ q => nomatch q) (lenOf pd_1 rfl) rfl rfl rfl (by decide) (by decide) (by decide) (by decide) (by decide) (fun v1 h2 s3 q4 => ?_)
  obtain ⟨d5, k6, rfl, rfl, E7, g8, B9⟩ := q4
  show Go _ _ _ _ _ _ _ _ _ _ _ _ h2 [x] 1 16 39 #[.val (.ref x), .val (.ref b), .val (.int 0), .val (.int (Int32.ofNat cs.length)), .val .null, .unset] [(.ref d5)]
  refine go_astore d_b3_39 rfl #[.val (.ref x), .val (.ref b), .val (.int 0), .val (.int (Int32.ofNat cs.length)), .val .null, .val (.ref d5)] rfl rfl ?_
  refine go_aloadN d_b3_41 rfl rfl rfl ?_
  refine go_aload d_b3_42 rfl rfl rfl ?_
  refine go_iloadN d_b3_44 rfl rfl ?_
  refine go_static [(.ref d5), (.int (Int32.ofNat cs.length))] [(.ref x)] 1 d_b3_45 rfl (wd hB 27 rfl) (wd hB 28 rfl) (wd hB 21 rfl) (wd hB 29 rfl) (c_cod hB B9) (fun _ q => nomatch q) (lenOf pd_2 rfl) rfl rfl rfl (by decide) (by decide) (by decide) (by decide) (by decide) (fun v10 h11 s12 q13 => ?_)
  obtain ⟨rfl, rfl, rfl⟩ := q13
  show Go _ _ _ _ _ _ _ _ _ _ _ _ h2 [x] 1 16 48 #[.val (.ref x), .val (.ref b), .val (.int 0), .val (.int (Int32.ofNat cs.length)), .val .null, .val (.ref d5)] [(.int 0), (.ref x)]
  have F14 := (Fld.ext E7 F2)
  have F15 := (Exa.ext E7 E)
  refine go_putfield (ty := .byte) d_b3_48 rfl (wd hB 30 rfl) Via.refl F14 F15 (Or.inr ⟨(wd hB 31 rfl), rfl, rfl⟩) (wd hB 5 rfl) (by decide) (by decide) (by decide) (List.Mem.head _) ?_
  intro h16 W17
  have F18 := Fld.same W17 F14
  refine go_aloadN d_b3_51 rfl rfl rfl ?_
  refine go_aload d_b3_52 rfl rfl rfl ?_
  have F19 := (Fld.other W17 (Fld.ext E7 F1) (Or.inr (slot_ne (t := (.array .byte)) (t' := .byte) (Or.inr (wd hB 33 rfl) : Laid Z a0 "java/lang/String" "java/lang/String" "value" "[B") (Or.inr (wd hB 31 rfl) : Laid Z a0 "java/lang/String" "java/lang/String" "coder" "B") (by decide) (by decide) (by decide))))
  have F20 := (Exa.wr W17 F15)
  refine go_putfield (ty := (.array .byte)) d_b3_54 rfl (wd hB 32 rfl) Via.refl F19 F20 (Or.inr ⟨(wd hB 33 rfl), rfl, rfl⟩) (wd hB 5 rfl) (by decide) rfl rfl (List.Mem.head _) ?_
  intro h21 W22
  have F23 := Fld.same W22 F19
  have F24 := (Exa.wr W22 F20)
  have F25 := (Fld.other W22 F18 (Or.inr (slot_ne (t := .byte) (t' := (.array .byte)) (Or.inr (wd hB 31 rfl) : Laid Z a0 "java/lang/String" "java/lang/String" "coder" "B") (Or.inr (wd hB 33 rfl) : Laid Z a0 "java/lang/String" "java/lang/String" "value" "[B") (by decide) (by decide) (by decide))))
  have F26 := (Arv.other (Arv.other B9 W17 (Ne.symm (Nat.ne_of_lt (Nat.lt_of_lt_of_le E.lt g8)))) W22 (Ne.symm (Nat.ne_of_lt (Nat.lt_of_lt_of_le E.lt g8))))
  refine go_ret d_b3_57 [] rfl (by decide) (by decide) (fun _ q => nomatch q) ?_
  exact ⟨rfl, rfl, ((((Keep.refl h [x]).ext E7).wr W17 (Or.inl (List.Mem.head _))).wr W22 (Or.inl (List.Mem.head _))), F24, F25, _, _, g8, F23, F26⟩
set_option maxRecDepth 65536 in
set_option maxHeartbeats 4000000 in
theorem c_sinit {l : Launch} {Z : State} {a0 : Array Value} {n0 : Nat} (hB : Base Z a0) {x b : Addr} {kb : ClassId} (cs : List Int32) (hp : 0 < cs.length) (hn : cs.length ≤ 16) (hc : ∀ c ∈ cs, ¬ (255 : Int32) < c) {h : Heap} (A : Arv Z h b kb .char (Int32.ofNat cs.length) (cs.map Value.int) (.int 0)) (E : Exa Z h x "java/lang/String") (F1 : Fld Z h x "java/lang/String" "value" "[B" .null) (F2 : Fld Z h x "java/lang/String" "coder" "B" (.int 0)) (hge : n0 ≤ x) :
    Con l Z ELc n0 (⟨"java/lang/String", "<init>", "([C)V"⟩ : MethodName) jdk_42_method_3_code 2 (Option.none : Option FieldType) [] ({ frames := 3, cells := 1, slots := 16, locals := 54 } : Room) #[.ref x, .ref b] h [x] (fun v h' sf' => v = none ∧ sf' = [] ∧ Keep h h' [x] ∧ Exa Z h' x "java/lang/String" ∧ Fld Z h' x "java/lang/String" "coder" "B" (.int 0) ∧ ∃ d kd, h.size ≤ d ∧ Fld Z h' x "java/lang/String" "value" "[B" (.ref d) ∧ Arv Z h' d kd .byte (Int32.ofNat cs.length) (lo8s cs) (.int 0)) := by
  refine con_of (a0 := a0) (ls := #[.val (.ref x), .val (.ref b)]) (plainFor_of_name (by decide +kernel)) hB.2.1 (fun m => by first | (simp [entryFrame, mkF, argsToLocals, Value.category]; done) | (simp [entryFrame, mkF, argsToLocals, Value.category, maxLocals]; done) | rfl) ?_
  show Go l Z a0 ELc n0 ({ frames := 3, cells := 1, slots := 16, locals := 54 } : Room) "java/lang/String" jdk_42_method_3_code 2 (Option.none : Option FieldType) "<init>" _ h [x] 0 0 0 #[.val (.ref x), .val (.ref b)] []
  refine go_aloadN d_b2_0 rfl rfl rfl ?_
  refine go_aloadN d_b2_1 rfl rfl rfl ?_
  refine go_iconst 0 d_b2_2 rfl (by decide) ?_
  refine go_aloadN d_b2_3 rfl rfl rfl ?_
  refine go_alen d_b2_4 rfl A ?_
  refine go_aconstNull d_b2_5 rfl ?_
  refine go_special x [(.ref b), (.int 0), (.int (Int32.ofNat cs.length)), .null] [] 0 d_b2_6 rfl rfl (wd hB 11 rfl) (wd hB 12 rfl) (wd hB 6 rfl) (wd hB 14 rfl) (c_sinit4 hB cs hp hn hc A E F1 F2 hge) (allS (List.Mem.head _) (fun _ q => nomatch q)) (lenOf pd_3 rfl) rfl rfl rfl (by decide) (by decide) (by decide) (by decide) (by decide) (fun v1 h2 s3 q4 => ?_)
  obtain ⟨rfl, rfl, q1, q2, q3, q4⟩ := q4
  show Go _ _ _ _ _ _ _ _ _ _ _ _ h2 [x] 1 16 9 #[.val (.ref x), .val (.ref b)] []
  refine go_ret d_b2_9 [] rfl (by decide) (by decide) (fun _ q => nomatch q) ?_
  exact ⟨rfl, rfl, q1, q2, q3, q4⟩
def isC (c : Int32) : Prop := 0 ≤ c.toInt ∧ c.toInt ≤ 255
theorem isC.le {c : Int32} (h : isC c) : ¬ (255 : Int32) < c := fun q => by rw [Int32.lt_iff_toInt_lt] at q; have := h.2; have e : (255 : Int32).toInt = 255 := rfl; omega
theorem isC.nar {c : Int32} (h : isC c) : nar .char c = c := by
  have h1 := nat_of_int h.1; have h2 := h.2
  apply Int32.toBitVec_inj.mp
  apply BitVec.eq_of_toNat_eq
  show (c.toUInt32.toUInt16.toUInt32.toInt32).toBitVec.toNat = _
  have e : c.toUInt32.toNat = c.toBitVec.toNat := rfl
  show c.toUInt32.toUInt16.toUInt32.toNat = _
  rw [UInt16.toNat_toUInt32, UInt32.toNat_toUInt16, e]; omega
theorem isC.lo8 {c : Int32} (h : isC c) : c.toInt8.toInt32.toInt = if c.toInt < 128 then c.toInt else c.toInt - 256 := by
  rw [Int8.toInt_toInt32, Int32.toInt_toInt8]
  have h1 := h.1; have h2 := h.2
  split
  · exact Int.bmod_eq_of_le (by omega) (by omega)
  · rw [Int.bmod_def]; simp; omega
theorem isC.inj {c d : Int32} (h : isC c) (k : isC d) (e : c.toInt8.toInt32 = d.toInt8.toInt32) : c = d := by
  have e2 := congrArg Int32.toInt e
  rw [h.lo8, k.lo8] at e2
  have := h.1; have := h.2; have := k.1; have := k.2
  apply Int32.toInt_inj.mp
  split at e2 <;> split at e2 <;> omega
def mkS (c0 c1 n : Int32) : List Int32 := if n = 1 then [c0] else [c0, c1]
theorem lo8s_inj : ∀ {a b : List Int32}, (∀ c ∈ a, isC c) → (∀ c ∈ b, isC c) → lo8s a = lo8s b → a = b
  | [], [], _, _, _ => rfl
  | [], _ :: _, _, _, e => by simp [lo8s] at e
  | _ :: _, [], _, _, e => by simp [lo8s] at e
  | x :: a, y :: b, ha, hb, e => by
    simp only [lo8s, List.map_cons, List.cons.injEq, Value.int.injEq] at e
    have h1 := isC.inj (ha x (by simp)) (hb y (by simp)) e.1
    have h2 := lo8s_inj (fun c q => ha c (by simp [q])) (fun c q => hb c (by simp [q])) e.2
    rw [h1, h2]
set_option maxRecDepth 65536 in
set_option maxHeartbeats 4000000 in
theorem c_make {l : Launch} {Z : State} {a0 : Array Value} {n0 : Nat} (hB : Base Z a0) (c0 c1 n : Int32) (h0 : isC c0) (h1 : isC c1) {h : Heap} :
    Con l Z ELc n0 (⟨"com/example/orderly_wiring/orderlywiring/interpreter/LocationEqualsPinLaw", "make", "(CCI)Ljava/lang/String;"⟩ : MethodName) method_3_code 3 (Option.some (FieldType.object "java/lang/String")) [] ({ frames := 4, cells := 3, slots := 22, locals := 68 } : Room) #[.int c0, .int c1, .int n] h [] (fun v h' sf' => ∃ s d kd, v = some (.ref s) ∧ sf' = [] ∧ Ext h h' ∧ h.size ≤ s ∧ h.size ≤ d ∧ Exa Z h' s "java/lang/String" ∧ Fld Z h' s "java/lang/String" "coder" "B" (.int 0) ∧ Fld Z h' s "java/lang/String" "value" "[B" (.ref d) ∧ Arv Z h' d kd .byte (Int32.ofNat (mkS c0 c1 n).length) (lo8s (mkS c0 c1 n)) (.int 0)) := by
  refine con_of (a0 := a0) (ls := #[.val (.int c0), .val (.int c1), .val (.int n)]) (plainFor_of_name (by decide +kernel)) hB.2.1 (fun m => by first | (simp [entryFrame, mkF, argsToLocals, Value.category]; done) | (simp [entryFrame, mkF, argsToLocals, Value.category, maxLocals]; done) | rfl) ?_
  show Go l Z a0 ELc n0 ({ frames := 4, cells := 3, slots := 22, locals := 68 } : Room) "com/example/orderly_wiring/orderlywiring/interpreter/LocationEqualsPinLaw" method_3_code 3 (Option.some (FieldType.object "java/lang/String")) "make" _ h [] 0 0 0 #[.val (.int c0), .val (.int c1), .val (.int n)] []
  refine go_iloadN d_b1_0 rfl rfl ?_
  refine go_iconst 1 d_b1_1 rfl (by decide) ?_
  by_cases hn1 : (n = 1 : Prop)
  · refine go_icmp_ne_f d_b1_2 rfl hn1 ?_
    refine go_new d_b1_5 rfl (wd hB 4 rfl) (wd hB 5 rfl) (wd hB 6 rfl) (by decide) (by decide) ?_
    intro h106 x101 hx102 E103 ⟨A104, D105⟩
    have F107 : Fld Z h106 x101 "java/lang/String" "coder" "B" (.int 0) := D105 (Or.inr (wd hB 31 rfl)) (ty := .byte) (by decide)
    have F108 : Fld Z h106 x101 "java/lang/String" "value" "[B" .null := D105 (Or.inr (wd hB 33 rfl)) (ty := (.array .byte)) (by decide)
    refine go_dup d_b1_8 rfl rfl ?_
    refine go_iconst 1 d_b1_9 rfl (by decide) ?_
    refine go_newarr (ty := .char) (ad := "[C") 1 d_b1_10 rfl rfl (wd hB 7 rfl) (by decide) (by decide) (by decide) (by decide) (by decide) (by decide) ?_
    intro h114 x109 hx110 E111 ⟨A112, k113, B115⟩
    have B116 : Arv Z h114 x109 k113 .char 1 [(.int 0)] (.int 0) := B115.pad (pad_rep [] (.int 0) 1)
    refine go_dup d_b1_12 rfl rfl ?_
    refine go_iconst 0 d_b1_13 rfl (by decide) ?_
    refine go_iloadN d_b1_14 rfl rfl ?_
    refine go_castore 0 c0 d_b1_15 rfl h0.nar B116 ⟨by decide, by decide⟩ (by decide) (by show 0 < 1; decide) (List.Mem.head _) ?_
    intro h117 W118 B119
    have B120 : Arv Z h117 x109 k113 .char 1 [(.int c0)] (.int 0) := B119
    refine Go.owned (fun hgeN0 => ?_)
    have hgeN := fun y q => (hgeN0 y q).2
    have F121 := (Exa.wr W118 (Exa.ext E111 A104))
    have F122 := (Fld.other W118 (Fld.ext E111 F108) (Or.inl (Nat.ne_of_lt (Nat.lt_of_lt_of_le A104.lt (Nat.le_of_eq hx110.symm)))))
    have F123 := (Fld.other W118 (Fld.ext E111 F107) (Or.inl (Nat.ne_of_lt (Nat.lt_of_lt_of_le A104.lt (Nat.le_of_eq hx110.symm)))))
    refine go_special x101 [(.ref x109)] [(.ref x101)] 1 d_b1_16 rfl rfl (wd hB 8 rfl) (wd hB 9 rfl) (wd hB 6 rfl) (wd hB 10 rfl) (c_sinit hB [c0] (by simp) (by simp) (List.forall_mem_cons.mpr ⟨h0.le, (fun _ q => nomatch q)⟩) B120 F121 F122 F123 (hgeN x101 (List.Mem.tail _ (List.Mem.head _)))) (allS (List.Mem.tail _ (List.Mem.head _)) (fun _ q => nomatch q)) (lenOf pd_4 rfl) rfl rfl rfl (by decide) (by decide) (by decide) (by decide) (by decide) (fun v124 h125 s126 q127 => ?_)
    obtain ⟨rfl, rfl, K128, E129, F130, d131, k132, g133, F134, A135⟩ := q127
    show Go _ _ _ _ _ _ _ _ _ _ _ _ h125 [x109, x101] 3 21 19 #[.val (.int c0), .val (.int c1), .val (.int n)] [(.ref x101)]
    refine go_retA d_b1_19 [] rfl rfl rfl rfl (by decide) (by decide) (fun _ q => nomatch q) ?_
    rw [show mkS c0 c1 n = _ from if_pos hn1]
    exact ⟨x101, d131, _, rfl, rfl, (ext_of_keep (((((Keep.refl h []).ext E103).ext E111).wr W118 (Or.inr (Nat.le_trans E103.1 (Nat.le_of_eq hx110.symm)))).trans K128 (allS (Or.inr (Nat.le_of_eq hx102.symm)) all0))), (Nat.le_of_eq hx102.symm), (Nat.le_trans (Nat.le_trans (Nat.le_trans E103.1 E111.1) (Nat.le_of_eq W118.size.symm)) g133), E129, F130, F134, A135⟩
  · refine go_icmp_ne_t (pt := 20) d_b1_2 (by decide) (by decide) hn1 ?_
    refine go_new d_b1_20 rfl (wd hB 4 rfl) (wd hB 5 rfl) (wd hB 6 rfl) (by decide) (by decide) ?_
    intro h141 x136 hx137 E138 ⟨A139, D140⟩
    have F142 : Fld Z h141 x136 "java/lang/String" "coder" "B" (.int 0) := D140 (Or.inr (wd hB 31 rfl)) (ty := .byte) (by decide)
    have F143 : Fld Z h141 x136 "java/lang/String" "value" "[B" .null := D140 (Or.inr (wd hB 33 rfl)) (ty := (.array .byte)) (by decide)
    refine go_dup d_b1_23 rfl rfl ?_
    refine go_iconst 2 d_b1_24 rfl (by decide) ?_
    refine go_newarr (ty := .char) (ad := "[C") 2 d_b1_25 rfl rfl (wd hB 7 rfl) (by decide) (by decide) (by decide) (by decide) (by decide) (by decide) ?_
    intro h149 x144 hx145 E146 ⟨A147, k148, B150⟩
    have B151 : Arv Z h149 x144 k148 .char 2 [(.int 0), (.int 0)] (.int 0) := B150.pad (pad_rep [] (.int 0) 2)
    refine go_dup d_b1_27 rfl rfl ?_
    refine go_iconst 0 d_b1_28 rfl (by decide) ?_
    refine go_iloadN d_b1_29 rfl rfl ?_
    refine go_castore 0 c0 d_b1_30 rfl h0.nar B151 ⟨by decide, by decide⟩ (by decide) (by show 0 < 2; decide) (List.Mem.head _) ?_
    intro h152 W153 B154
    have B155 : Arv Z h152 x144 k148 .char 2 [(.int c0), (.int 0)] (.int 0) := B154
    refine go_dup d_b1_31 rfl rfl ?_
    refine go_iconst 1 d_b1_32 rfl (by decide) ?_
    refine go_iloadN d_b1_33 rfl rfl ?_
    refine go_castore 1 c1 d_b1_34 rfl h1.nar B155 ⟨by decide, by decide⟩ (by decide) (by show 1 < 2; decide) (List.Mem.head _) ?_
    intro h156 W157 B158
    have B159 : Arv Z h156 x144 k148 .char 2 [(.int c0), (.int c1)] (.int 0) := B158
    refine Go.owned (fun hgeN0 => ?_)
    have hgeN := fun y q => (hgeN0 y q).2
    have F160 := (Exa.wr W157 (Exa.wr W153 (Exa.ext E146 A139)))
    have F161 := (Fld.other W157 (Fld.other W153 (Fld.ext E146 F143) (Or.inl (Nat.ne_of_lt (Nat.lt_of_lt_of_le A139.lt (Nat.le_of_eq hx145.symm))))) (Or.inl (Nat.ne_of_lt (Nat.lt_of_lt_of_le A139.lt (Nat.le_of_eq hx145.symm)))))
    have F162 := (Fld.other W157 (Fld.other W153 (Fld.ext E146 F142) (Or.inl (Nat.ne_of_lt (Nat.lt_of_lt_of_le A139.lt (Nat.le_of_eq hx145.symm))))) (Or.inl (Nat.ne_of_lt (Nat.lt_of_lt_of_le A139.lt (Nat.le_of_eq hx145.symm)))))
    refine go_special x136 [(.ref x144)] [(.ref x136)] 1 d_b1_35 rfl rfl (wd hB 8 rfl) (wd hB 9 rfl) (wd hB 6 rfl) (wd hB 10 rfl) (c_sinit hB [c0, c1] (by simp) (by simp) (List.forall_mem_cons.mpr ⟨h0.le, (List.forall_mem_cons.mpr ⟨h1.le, (fun _ q => nomatch q)⟩)⟩) B159 F160 F161 F162 (hgeN x136 (List.Mem.tail _ (List.Mem.head _)))) (allS (List.Mem.tail _ (List.Mem.head _)) (fun _ q => nomatch q)) (lenOf pd_4 rfl) rfl rfl rfl (by decide) (by decide) (by decide) (by decide) (by decide) (fun v163 h164 s165 q166 => ?_)
    obtain ⟨rfl, rfl, K167, E168, F169, d170, k171, g172, F173, A174⟩ := q166
    show Go _ _ _ _ _ _ _ _ _ _ _ _ h164 [x144, x136] 3 22 38 #[.val (.int c0), .val (.int c1), .val (.int n)] [(.ref x136)]
    refine go_retA d_b1_38 [] rfl rfl rfl rfl (by decide) (by decide) (fun _ q => nomatch q) ?_
    rw [show mkS c0 c1 n = _ from if_neg hn1]
    exact ⟨x136, d170, _, rfl, rfl, (ext_of_keep ((((((Keep.refl h []).ext E138).ext E146).wr W153 (Or.inr (Nat.le_trans E138.1 (Nat.le_of_eq hx145.symm)))).wr W157 (Or.inr (Nat.le_trans E138.1 (Nat.le_of_eq hx145.symm)))).trans K167 (allS (Or.inr (Nat.le_of_eq hx137.symm)) all0))), (Nat.le_of_eq hx137.symm), (Nat.le_trans (Nat.le_trans (Nat.le_trans (Nat.le_trans E138.1 E146.1) (Nat.le_of_eq W153.size.symm)) (Nat.le_of_eq W157.size.symm)) g172), E168, F169, F173, A174⟩
set_option maxRecDepth 65536 in
set_option maxHeartbeats 4000000 in
theorem c_rnn {l : Launch} {Z : State} {a0 : Array Value} {n0 : Nat} (hB : Base Z a0) {x y : Addr} {h : Heap} :
    Con l Z ELc n0 (⟨"java/util/Objects", "requireNonNull", "(Ljava/lang/Object;Ljava/lang/String;)Ljava/lang/Object;"⟩ : MethodName) jdk_31_method_11_code 2 (Option.some (FieldType.object "java/lang/Object")) [] ({ frames := 0, cells := 0, slots := 0, locals := 0 } : Room) #[.ref x, .ref y] h [] (fun v h' sf' => v = some (.ref x) ∧ sf' = [] ∧ h = h') := by
  refine con_of (a0 := a0) (ls := #[.val (.ref x), .val (.ref y)]) (plainFor_of_name (by decide +kernel)) hB.2.1 (fun m => by first | (simp [entryFrame, mkF, argsToLocals, Value.category]; done) | (simp [entryFrame, mkF, argsToLocals, Value.category, maxLocals]; done) | rfl) ?_
  show Go l Z a0 ELc n0 ({ frames := 0, cells := 0, slots := 0, locals := 0 } : Room) "java/util/Objects" jdk_31_method_11_code 2 (Option.some (FieldType.object "java/lang/Object")) "requireNonNull" _ h [] 0 0 0 #[.val (.ref x), .val (.ref y)] []
  refine go_aloadN d_b9_0 rfl rfl rfl ?_
  refine go_ifnonnull_t (pt := 13) d_b9_1 (by decide) (by decide) ?_
  refine go_aloadN d_b9_13 rfl rfl rfl ?_
  refine go_retA d_b9_14 [] rfl rfl rfl rfl (by decide) (by decide) (fun _ q => nomatch q) ?_
  exact ⟨rfl, rfl, rfl⟩
set_option maxRecDepth 65536 in
set_option maxHeartbeats 4000000 in
theorem c_loc {l : Launch} {Z : State} {a0 : Array Value} {n0 : Nat} (hB : Base Z a0) {x s : Addr} (li co : Int32) {h : Heap} (E : Exa Z h x "com/example/orderly_wiring/orderlywiring/interpreter/Location") (Es : Exa Z h s "java/lang/String") (F1 : Fld Z h x "com/example/orderly_wiring/orderlywiring/interpreter/Location" "file" "Ljava/lang/String;" .null) (F2 : Fld Z h x "com/example/orderly_wiring/orderlywiring/interpreter/Location" "line" "I" (.int 0)) (F3 : Fld Z h x "com/example/orderly_wiring/orderlywiring/interpreter/Location" "column" "I" (.int 0)) :
    Con l Z ELc n0 (⟨"com/example/orderly_wiring/orderlywiring/interpreter/Location", "<init>", "(Ljava/lang/String;II)V"⟩ : MethodName) prog_46_method_1_code 4 (Option.none : Option FieldType) [] ({ frames := 1, cells := 2, slots := 20, locals := 14 } : Room) #[.ref x, .ref s, .int li, .int co] h [x] (fun v h' sf' => v = none ∧ sf' = [] ∧ Keep h h' [x] ∧ Exa Z h' x "com/example/orderly_wiring/orderlywiring/interpreter/Location" ∧ Fld Z h' x "com/example/orderly_wiring/orderlywiring/interpreter/Location" "file" "Ljava/lang/String;" (.ref s) ∧ Fld Z h' x "com/example/orderly_wiring/orderlywiring/interpreter/Location" "line" "I" (.int li) ∧ Fld Z h' x "com/example/orderly_wiring/orderlywiring/interpreter/Location" "column" "I" (.int co)) := by
  refine con_of (a0 := a0) (ls := #[.val (.ref x), .val (.ref s), .val (.int li), .val (.int co)]) (plainFor_of_name (by decide +kernel)) hB.2.1 (fun m => by first | (simp [entryFrame, mkF, argsToLocals, Value.category]; done) | (simp [entryFrame, mkF, argsToLocals, Value.category, maxLocals]; done) | rfl) ?_
  show Go l Z a0 ELc n0 ({ frames := 1, cells := 2, slots := 20, locals := 14 } : Room) "com/example/orderly_wiring/orderlywiring/interpreter/Location" prog_46_method_1_code 4 (Option.none : Option FieldType) "<init>" _ h [x] 0 0 0 #[.val (.ref x), .val (.ref s), .val (.int li), .val (.int co)] []
  refine go_aloadN d_b8_0 rfl rfl rfl ?_
  refine go_initO d_b8_1 rfl (wd hB 40 rfl) (wd hB 16 rfl) (wd hB 17 rfl) rfl (by decide) 0 rfl (by decide) ?_
  refine go_aloadN d_b8_4 rfl rfl rfl ?_
  refine go_aloadN d_b8_5 rfl rfl rfl ?_
  refine go_ldcO (text := "file") 16 d_b8_6 rfl (wd hB 41 rfl) (stA hB) (by decide) (by decide) (by decide) (by decide) ?_
  intro h101 a102 E103
  refine go_static [(.ref s), (.ref a102)] [(.ref x)] 1 d_b8_8 rfl (wd hB 44 rfl) (wd hB 45 rfl) (wd hB 46 rfl) (wd hB 47 rfl) (c_rnn hB) (fun _ q => nomatch q) (lenOf pd_5 rfl) rfl rfl rfl (by decide) (by decide) (by decide) (by decide) (by decide) (fun v104 h105 s106 q107 => ?_)
  obtain ⟨rfl, rfl, rfl⟩ := q107
  show Go _ _ _ _ _ _ _ _ _ _ _ _ h101 [x] 2 20 11 #[.val (.ref x), .val (.ref s), .val (.int li), .val (.int co)] [(.ref s), (.ref x)]
  have F108 := (Exa.ext E103 Es)
  refine go_checkcast d_b8_11 rfl (wd hB 48 rfl) (Ins.self F108) ?_
  have F109 := (Fld.ext E103 F1)
  have F110 := (Exa.ext E103 E)
  refine go_putfield (ty := (.object "java/lang/String")) d_b8_14 rfl (wd hB 49 rfl) Via.refl F109 F110 (Or.inr ⟨(wd hB 50 rfl), rfl, rfl⟩) (wd hB 35 rfl) (by decide) rfl rfl (List.Mem.head _) ?_
  intro h111 W112
  have F113 := Fld.same W112 F109
  refine go_aloadN d_b8_17 rfl rfl rfl ?_
  refine go_iloadN d_b8_18 rfl rfl ?_
  have F114 := (Fld.other W112 (Fld.ext E103 F2) (Or.inr (slot_ne (t := .int) (t' := (.object "java/lang/String")) (Or.inr (wd hB 52 rfl) : Laid Z a0 "com/example/orderly_wiring/orderlywiring/interpreter/Location" "com/example/orderly_wiring/orderlywiring/interpreter/Location" "line" "I") (Or.inr (wd hB 50 rfl) : Laid Z a0 "com/example/orderly_wiring/orderlywiring/interpreter/Location" "com/example/orderly_wiring/orderlywiring/interpreter/Location" "file" "Ljava/lang/String;") (by decide) (by decide) (by decide))))
  have F115 := (Exa.wr W112 F110)
  refine go_putfield (ty := .int) d_b8_19 rfl (wd hB 51 rfl) Via.refl F114 F115 (Or.inr ⟨(wd hB 52 rfl), rfl, rfl⟩) (wd hB 35 rfl) (by decide) rfl rfl (List.Mem.head _) ?_
  intro h116 W117
  have F118 := Fld.same W117 F114
  refine go_aloadN d_b8_22 rfl rfl rfl ?_
  refine go_iloadN d_b8_23 rfl rfl ?_
  have F119 := (Fld.other W117 (Fld.other W112 (Fld.ext E103 F3) (Or.inr (slot_ne (t := .int) (t' := (.object "java/lang/String")) (Or.inr (wd hB 54 rfl) : Laid Z a0 "com/example/orderly_wiring/orderlywiring/interpreter/Location" "com/example/orderly_wiring/orderlywiring/interpreter/Location" "column" "I") (Or.inr (wd hB 50 rfl) : Laid Z a0 "com/example/orderly_wiring/orderlywiring/interpreter/Location" "com/example/orderly_wiring/orderlywiring/interpreter/Location" "file" "Ljava/lang/String;") (by decide) (by decide) (by decide)))) (Or.inr (slot_ne (t := .int) (t' := .int) (Or.inr (wd hB 54 rfl) : Laid Z a0 "com/example/orderly_wiring/orderlywiring/interpreter/Location" "com/example/orderly_wiring/orderlywiring/interpreter/Location" "column" "I") (Or.inr (wd hB 52 rfl) : Laid Z a0 "com/example/orderly_wiring/orderlywiring/interpreter/Location" "com/example/orderly_wiring/orderlywiring/interpreter/Location" "line" "I") (by decide) (by decide) (by decide))))
  have F120 := (Exa.wr W117 F115)
  refine go_putfield (ty := .int) d_b8_24 rfl (wd hB 53 rfl) Via.refl F119 F120 (Or.inr ⟨(wd hB 54 rfl), rfl, rfl⟩) (wd hB 35 rfl) (by decide) rfl rfl (List.Mem.head _) ?_
  intro h121 W122
  have F123 := Fld.same W122 F119
  have F124 := (Exa.wr W122 F120)
  have F125 := (Fld.other W122 (Fld.other W117 F113 (Or.inr (slot_ne (t := (.object "java/lang/String")) (t' := .int) (Or.inr (wd hB 50 rfl) : Laid Z a0 "com/example/orderly_wiring/orderlywiring/interpreter/Location" "com/example/orderly_wiring/orderlywiring/interpreter/Location" "file" "Ljava/lang/String;") (Or.inr (wd hB 52 rfl) : Laid Z a0 "com/example/orderly_wiring/orderlywiring/interpreter/Location" "com/example/orderly_wiring/orderlywiring/interpreter/Location" "line" "I") (by decide) (by decide) (by decide)))) (Or.inr (slot_ne (t := (.object "java/lang/String")) (t' := .int) (Or.inr (wd hB 50 rfl) : Laid Z a0 "com/example/orderly_wiring/orderlywiring/interpreter/Location" "com/example/orderly_wiring/orderlywiring/interpreter/Location" "file" "Ljava/lang/String;") (Or.inr (wd hB 54 rfl) : Laid Z a0 "com/example/orderly_wiring/orderlywiring/interpreter/Location" "com/example/orderly_wiring/orderlywiring/interpreter/Location" "column" "I") (by decide) (by decide) (by decide))))
  have F126 := (Fld.other W122 F118 (Or.inr (slot_ne (t := .int) (t' := .int) (Or.inr (wd hB 52 rfl) : Laid Z a0 "com/example/orderly_wiring/orderlywiring/interpreter/Location" "com/example/orderly_wiring/orderlywiring/interpreter/Location" "line" "I") (Or.inr (wd hB 54 rfl) : Laid Z a0 "com/example/orderly_wiring/orderlywiring/interpreter/Location" "com/example/orderly_wiring/orderlywiring/interpreter/Location" "column" "I") (by decide) (by decide) (by decide))))
  refine go_ret d_b8_27 [] rfl (by decide) (by decide) (fun _ q => nomatch q) ?_
  exact ⟨rfl, rfl, (((((Keep.refl h [x]).ext E103).wr W112 (Or.inl (List.Mem.head _))).wr W117 (Or.inl (List.Mem.head _))).wr W122 (Or.inl (List.Mem.head _))), F124, F125, F126, F123⟩
theorem int_at {bs : List Int32} {i : Nat} {c : Int32} (hc : bs[i]? = some c) : (bs.map Value.int).getD i (.int 0) = .int c := by simp [List.getD_eq_getElem?_getD, hc]
theorem take_ext {a b : List Int32} {i : Nat} {c : Int32} (h : a.take i = b.take i) (ha : a[i]? = some c) (hb : b[i]? = some c) : a.take (i + 1) = b.take (i + 1) := by rw [List.take_add_one, List.take_add_one, h, ha, hb]
set_option maxRecDepth 65536 in
set_option maxHeartbeats 4000000 in
theorem leq_loop {l : Launch} {Z : State} {a0 : Array Value} {n0 : Nat} (hB : Base Z a0) {d1 d2 : Addr} {k1 k2 : ClassId} (b1 b2 : List Int32) (hn : b1.length ≤ 4000) (he : b1.length = b2.length) {h : Heap} (A1 : Arv Z h d1 k1 .byte (Int32.ofNat b1.length) (b1.map Value.int) (.int 0)) (A2 : Arv Z h d2 k2 .byte (Int32.ofNat b2.length) (b2.map Value.int) (.int 0)) :
    ∀ (j i : Nat), i + j = b1.length → b1.take i = b2.take i → Go l Z a0 ELc n0 ({ frames := 0, cells := 0, slots := 0, locals := 0 } : Room) "java/lang/StringLatin1" jdk_43_method_13_code 3 (Option.some FieldType.boolean) "equals" (fun v h' sf' => v = some (.int (ob (b1 = b2))) ∧ sf' = [] ∧ h = h') h [] 0 0 9 #[.val (.ref d1), .val (.ref d2), .val (.int (Int32.ofNat i))] [] := by
  intro j
  induction j with
  | zero =>
    intro i hi ht
    refine go_iloadN d_b12_9 rfl rfl ?_
    refine go_aloadN d_b12_10 rfl rfl rfl ?_
    refine go_alen d_b12_11 rfl A1 ?_
    refine go_icmp_ge_t (pt := 32) d_b12_12 (by decide) (by decide) (ofN_nlt (by omega) (by omega)) ?_
    refine go_iconst 1 d_b12_32 rfl (by decide) ?_
    refine go_retN (t := .boolean) d_b12_33 [] rfl (by simp) (by decide) (by decide) (fun _ q => nomatch q) ?_
    have e : b1 = b2 := by rw [List.take_of_length_le (by omega), List.take_of_length_le (by omega)] at ht; exact ht
    exact ⟨by rw [ob_t e]; decide, rfl, rfl⟩
  | succ j ih =>
    intro i hi ht
    obtain ⟨c, hc, -⟩ := at_of (cs := b1) (i := i) (by omega)
    obtain ⟨d, hd, -⟩ := at_of (cs := b2) (i := i) (by omega)
    refine go_iloadN d_b12_9 rfl rfl ?_
    refine go_aloadN d_b12_10 rfl rfl rfl ?_
    refine go_alen d_b12_11 rfl A1 ?_
    refine go_icmp_ge_f d_b12_12 rfl (ofN_lt (by omega) (by omega)) ?_
    refine go_aloadN d_b12_15 rfl rfl rfl ?_
    refine go_iloadN d_b12_16 rfl rfl ?_
    refine go_baload (v := (.int c)) i d_b12_17 rfl A1 ⟨ofN_nneg (by omega), ofN_lt (by omega) (by omega)⟩ (ofN_cl (by omega)) (int_at hc) ?_
    refine go_aloadN d_b12_18 rfl rfl rfl ?_
    refine go_iloadN d_b12_19 rfl rfl ?_
    refine go_baload (v := (.int d)) i d_b12_20 rfl A2 ⟨ofN_nneg (by omega), ofN_lt (by omega) (by omega)⟩ (ofN_cl (by omega)) (int_at hd) ?_
    by_cases hcd : (c = d : Prop)
    · refine go_icmp_eq_t (pt := 26) d_b12_21 (by decide) (by decide) hcd ?_
      refine go_iinc 1 d_b12_26 rfl #[.val (.ref d1), .val (.ref d2), .val (.int ((Int32.ofNat i) + 1))] (by decide) rfl rfl ?_
      refine go_goto (pt := 9) d_b12_29 (by decide) (by decide) ?_
      rw [ofN_succ]
      subst hcd
      exact ih (i + 1) (by omega) (take_ext ht hc hd)
    · refine go_icmp_eq_f d_b12_21 rfl hcd ?_
      refine go_iconst 0 d_b12_24 rfl (by decide) ?_
      refine go_retN (t := .boolean) d_b12_25 [] rfl (by simp) (by decide) (by decide) (fun _ q => nomatch q) ?_
      have e : ¬ b1 = b2 := fun q => hcd (by rw [q, hd] at hc; exact (Option.some.inj hc).symm)
      exact ⟨by rw [ob_f e]; decide, rfl, rfl⟩
set_option maxRecDepth 65536 in
set_option maxHeartbeats 4000000 in
theorem c_leq {l : Launch} {Z : State} {a0 : Array Value} {n0 : Nat} (hB : Base Z a0) {d1 d2 : Addr} {k1 k2 : ClassId} (b1 b2 : List Int32) (hn : b1.length ≤ 4000) (hn2 : b2.length ≤ 4000) {h : Heap} (A1 : Arv Z h d1 k1 .byte (Int32.ofNat b1.length) (b1.map Value.int) (.int 0)) (A2 : Arv Z h d2 k2 .byte (Int32.ofNat b2.length) (b2.map Value.int) (.int 0)) :
    Con l Z ELc n0 (⟨"java/lang/StringLatin1", "equals", "([B[B)Z"⟩ : MethodName) jdk_43_method_13_code 3 (Option.some FieldType.boolean) [] ({ frames := 0, cells := 0, slots := 0, locals := 0 } : Room) #[.ref d1, .ref d2] h [] (fun v h' sf' => v = some (.int (ob (b1 = b2))) ∧ sf' = [] ∧ h = h') := by
  refine con_of (a0 := a0) (ls := #[.val (.ref d1), .val (.ref d2), .unset]) (plainFor_of_name (by decide +kernel)) hB.2.1 (fun m => by first | (simp [entryFrame, mkF, argsToLocals, Value.category]; done) | (simp [entryFrame, mkF, argsToLocals, Value.category, maxLocals]; done) | rfl) ?_
  show Go l Z a0 ELc n0 ({ frames := 0, cells := 0, slots := 0, locals := 0 } : Room) "java/lang/StringLatin1" jdk_43_method_13_code 3 (Option.some FieldType.boolean) "equals" _ h [] 0 0 0 #[.val (.ref d1), .val (.ref d2), .unset] []
  refine go_aloadN d_b12_0 rfl rfl rfl ?_
  refine go_alen d_b12_1 rfl A1 ?_
  refine go_aloadN d_b12_2 rfl rfl rfl ?_
  refine go_alen d_b12_3 rfl A2 ?_
  by_cases he : ((Int32.ofNat b1.length) = (Int32.ofNat b2.length) : Prop)
  · refine go_icmp_ne_f d_b12_4 rfl he ?_
    refine go_iconst 0 d_b12_7 rfl (by decide) ?_
    refine go_istoreN d_b12_8 rfl #[.val (.ref d1), .val (.ref d2), .val (.int 0)] rfl ?_
    exact leq_loop hB b1 b2 hn (by have := congrArg Int32.toInt he; rw [ofN_int (by omega), ofN_int (by omega)] at this; omega) A1 A2 b1.length 0 (by omega) rfl
  · refine go_icmp_ne_t (pt := 34) d_b12_4 (by decide) (by decide) he ?_
    refine go_iconst 0 d_b12_34 rfl (by decide) ?_
    refine go_retN (t := .boolean) d_b12_35 [] rfl (by simp) (by decide) (by decide) (fun _ q => nomatch q) ?_
    have e : ¬ b1 = b2 := fun q => he (by rw [q])
    exact ⟨by rw [ob_f e]; decide, rfl, rfl⟩
set_option maxRecDepth 65536 in
set_option maxHeartbeats 4000000 in
theorem c_seqS {l : Launch} {Z : State} {a0 : Array Value} {n0 : Nat} (hB : Base Z a0) {x : Addr} {h : Heap} :
    Con l Z ELc n0 (⟨"java/lang/String", "equals", "(Ljava/lang/Object;)Z"⟩ : MethodName) jdk_42_method_66_code 3 (Option.some FieldType.boolean) [] ({ frames := 1, cells := 0, slots := 0, locals := 14 } : Room) #[.ref x, .ref x] h [] (fun v h' sf' => v = some (.int 1) ∧ sf' = [] ∧ h = h') := by
  refine con_of (a0 := a0) (ls := #[.val (.ref x), .val (.ref x), .unset]) (plainFor_of_name (by decide +kernel)) hB.2.1 (fun m => by first | (simp [entryFrame, mkF, argsToLocals, Value.category]; done) | (simp [entryFrame, mkF, argsToLocals, Value.category, maxLocals]; done) | rfl) ?_
  show Go l Z a0 ELc n0 ({ frames := 1, cells := 0, slots := 0, locals := 14 } : Room) "java/lang/String" jdk_42_method_66_code 3 (Option.some FieldType.boolean) "equals" _ h [] 0 0 0 #[.val (.ref x), .val (.ref x), .unset] []
  refine go_aloadN d_b11_0 rfl rfl rfl ?_
  refine go_aloadN d_b11_1 rfl rfl rfl ?_
  refine go_acmp (pt := 5) true d_b11_2 rfl rfl (by simp) (by decide) (by decide) ?_
  refine go_iconst 1 d_b11_5 rfl (by decide) ?_
  refine go_retN (t := .boolean) d_b11_6 [] rfl (by simp) (by decide) (by decide) (fun _ q => nomatch q) ?_
  exact ⟨by decide, rfl, rfl⟩
def bys (cs : List Int32) : List Int32 := cs.map fun c => c.toInt8.toInt32
theorem bys_len (cs : List Int32) : (bys cs).length = cs.length := by simp [bys]
theorem bys_map (cs : List Int32) : (bys cs).map Value.int = lo8s cs := by simp [bys, lo8s]
theorem bys_inj {a b : List Int32} (ha : ∀ c ∈ a, isC c) (hb : ∀ c ∈ b, isC c) : bys a = bys b ↔ a = b := ⟨fun q => lo8s_inj ha hb (by rw [← bys_map, ← bys_map, q]), fun q => by rw [q]⟩
theorem arv_bys {Z : State} {h : Heap} {d : Addr} {k : ClassId} {cs : List Int32} (A : Arv Z h d k .byte (Int32.ofNat cs.length) (lo8s cs) (.int 0)) : Arv Z h d k .byte (Int32.ofNat (bys cs).length) ((bys cs).map Value.int) (.int 0) := by rw [bys_len, bys_map]; exact A
set_option maxRecDepth 65536 in
set_option maxHeartbeats 4000000 in
theorem c_seqD {l : Launch} {Z : State} {a0 : Array Value} {n0 : Nat} (hB : Base Z a0) {s1 d1 : Addr} {k1 : ClassId} (c1 : List Int32) (hc1 : ∀ c ∈ c1, isC c) (hn1 : c1.length ≤ 4000) {s2 d2 : Addr} {k2 : ClassId} (c2 : List Int32) (hc2 : ∀ c ∈ c2, isC c) (hn2 : c2.length ≤ 4000) (hne : s1 ≠ s2) {h : Heap} (E1 : Exa Z h s1 "java/lang/String") (C1 : Fld Z h s1 "java/lang/String" "coder" "B" (.int 0)) (V1 : Fld Z h s1 "java/lang/String" "value" "[B" (.ref d1)) (A1 : Arv Z h d1 k1 .byte (Int32.ofNat c1.length) (lo8s c1) (.int 0)) (E2 : Exa Z h s2 "java/lang/String") (C2 : Fld Z h s2 "java/lang/String" "coder" "B" (.int 0)) (V2 : Fld Z h s2 "java/lang/String" "value" "[B" (.ref d2)) (A2 : Arv Z h d2 k2 .byte (Int32.ofNat c2.length) (lo8s c2) (.int 0)) :
    Con l Z ELc n0 (⟨"java/lang/String", "equals", "(Ljava/lang/Object;)Z"⟩ : MethodName) jdk_42_method_66_code 3 (Option.some FieldType.boolean) [] ({ frames := 1, cells := 0, slots := 0, locals := 14 } : Room) #[.ref s1, .ref s2] h [] (fun v h' sf' => v = some (.int (ob (c1 = c2))) ∧ sf' = [] ∧ h = h') := by
  refine con_of (a0 := a0) (ls := #[.val (.ref s1), .val (.ref s2), .unset]) (plainFor_of_name (by decide +kernel)) hB.2.1 (fun m => by first | (simp [entryFrame, mkF, argsToLocals, Value.category]; done) | (simp [entryFrame, mkF, argsToLocals, Value.category, maxLocals]; done) | rfl) ?_
  show Go l Z a0 ELc n0 ({ frames := 1, cells := 0, slots := 0, locals := 14 } : Room) "java/lang/String" jdk_42_method_66_code 3 (Option.some FieldType.boolean) "equals" _ h [] 0 0 0 #[.val (.ref s1), .val (.ref s2), .unset] []
  obtain ⟨cz, hS, hcz⟩ := hB.2.2.1
  refine go_aloadN d_b11_0 rfl rfl rfl ?_
  refine go_aloadN d_b11_1 rfl rfl rfl ?_
  refine go_acmp (pt := 7) false d_b11_2 rfl rfl (decide_eq_false (fun q => hne (Value.ref.inj q))) (by decide) (by decide) ?_
  refine go_aloadN d_b11_7 rfl rfl rfl ?_
  refine go_instY d_b11_8 rfl (wd hB 67 rfl) (Ins.self E2) ?_
  refine go_if_eq_f d_b11_11 rfl (by decide) ?_
  refine go_aloadN d_b11_14 rfl rfl rfl ?_
  refine go_checkcast d_b11_15 rfl (wd hB 67 rfl) (Ins.self E2) ?_
  refine go_astoreN d_b11_18 rfl #[.val (.ref s1), .val (.ref s2), .val (.ref s2)] rfl rfl ?_
  refine go_getstatic d_b11_19 rfl (wd hB 18 rfl) Via.refl hS ?_
  refine go_if_eq_f d_b11_22 rfl hcz ?_
  refine go_aloadN d_b11_25 rfl rfl rfl ?_
  refine go_getfield d_b11_26 rfl (wd hB 30 rfl) Via.refl C1 ?_
  refine go_aloadN d_b11_29 rfl rfl rfl ?_
  refine go_getfield d_b11_30 rfl (wd hB 30 rfl) Via.refl C2 ?_
  refine go_icmp_ne_f d_b11_33 rfl rfl ?_
  refine go_aloadN d_b11_36 rfl rfl rfl ?_
  refine go_getfield d_b11_37 rfl (wd hB 32 rfl) Via.refl V1 ?_
  refine go_aloadN d_b11_40 rfl rfl rfl ?_
  refine go_getfield d_b11_41 rfl (wd hB 32 rfl) Via.refl V2 ?_
  refine go_static [(.ref d1), (.ref d2)] [] 0 d_b11_44 rfl (wd hB 68 rfl) (wd hB 69 rfl) (wd hB 70 rfl) (wd hB 71 rfl) (c_leq hB (bys c1) (bys c2) (by rw [bys_len]; exact hn1) (by rw [bys_len]; exact hn2) (arv_bys A1) (arv_bys A2)) (fun _ q => nomatch q) (lenOf pd_6 rfl) rfl rfl rfl (by decide) (by decide) (by decide) (by decide) (by decide) (fun v101 h102 s103 q104 => ?_)
  obtain ⟨rfl, rfl, rfl⟩ := q104
  show Go _ _ _ _ _ _ _ _ _ _ _ _ h [] 0 0 47 #[.val (.ref s1), .val (.ref s2), .val (.ref s2)] [(.int (ob (bys c1 = bys c2)))]
  by_cases hq : ((ob (bys c1 = bys c2)) = 0 : Prop)
  · refine go_if_eq_t (pt := 54) d_b11_47 (by decide) (by decide) hq ?_
    refine go_iconst 0 d_b11_54 rfl (by decide) ?_
    refine go_retN (t := .boolean) d_b11_55 [] rfl (by simp) (by decide) (by decide) (fun _ q => nomatch q) ?_
    have e : ¬ c1 = c2 := fun q => by rw [ob_t ((bys_inj hc1 hc2).mpr q)] at hq; exact absurd hq (by decide)
    exact ⟨by rw [ob_f e]; decide, rfl, rfl⟩
  · refine go_if_eq_f d_b11_47 rfl hq ?_
    refine go_iconst 1 d_b11_50 rfl (by decide) ?_
    refine go_goto (pt := 55) d_b11_51 (by decide) (by decide) ?_
    refine go_retN (t := .boolean) d_b11_55 [] rfl (by simp) (by decide) (by decide) (fun _ q => nomatch q) ?_
    have e : c1 = c2 := Decidable.byContradiction fun q => hq (ob_f fun r => q ((bys_inj hc1 hc2).mp r))
    exact ⟨by rw [ob_t e]; decide, rfl, rfl⟩
theorem notSub {Z : State} {a0 : Array Value} {C K : String} {n : Nat} (w : (Jvm.Cond.superclass C "java/lang/Object").before a0 Z = true) (wo : (Jvm.Cond.noSuperclass "java/lang/Object").before a0 Z = true) (wi : (Jvm.Cond.instantiable K n).before a0 Z = true) (hn : C ≠ K) (hn2 : "java/lang/Object" ≠ K) : ∃ c t, Z.vm.findClass C = some c ∧ Z.vm.findClass K = some t ∧ Z.vm.assignable c t = false := by
  obtain ⟨t, kt, g1, g2, g3, g4, -⟩ := Cond.instantiable_spec wi
  obtain ⟨co, ko, o1, o2, o3, -, -⟩ := Cond.noSuperclass_spec wo
  obtain ⟨c, h0⟩ := found_sup w
  obtain ⟨p, k, kp, h1, h2, h3, h4, h5, -, h7⟩ := Cond.superclass_spec h0 w
  have ep : p = co := Option.some.inj (h1.symm.trans o1)
  rw [ep] at h4
  have ne := ids_ne h0 g1 hn
  have ne2 := ids_ne o1 g1 hn2
  have hi : kt.isInterface = false := by cases hI : kt.isInterface <;> simp_all
  have sub0 : ∀ fuel, Z.vm.isSubclassAux fuel co t = false := fun fuel => by
    cases fuel with
    | zero => rfl
    | succ f => simp [Vm.isSubclassAux, ne2, o2, o3]
  have sub : ∀ fuel, Z.vm.isSubclassAux fuel c t = false := fun fuel => by
    cases fuel with
    | zero => rfl
    | succ f => simp [Vm.isSubclassAux, ne, h2, h4, sub0]
  refine ⟨c, t, h0, g1, ?_⟩
  show Z.vm.assignableAux (255 + 1) c t = false
  simp [Vm.assignableAux, ne, h2, g2, h5, g3, hi, Vm.isSubclass, sub]
set_option maxRecDepth 65536 in
set_option maxHeartbeats 4000000 in
theorem c_loeqN {l : Launch} {Z : State} {a0 : Array Value} {n0 : Nat} (hB : Base Z a0) {x : Addr} {h : Heap} :
    Con l Z ELc n0 (⟨"com/example/orderly_wiring/orderlywiring/interpreter/Location", "equals", "(Ljava/lang/Object;)Z"⟩ : MethodName) prog_46_method_5_code 3 (Option.some FieldType.boolean) [] ({ frames := 2, cells := 0, slots := 0, locals := 28 } : Room) #[.ref x, .null] h [] (fun v h' sf' => v = some (.int 0) ∧ sf' = [] ∧ h = h') := by
  refine con_of (a0 := a0) (ls := #[.val (.ref x), .val .null, .unset]) (plainFor_of_name (by decide +kernel)) hB.2.1 (fun m => by first | (simp [entryFrame, mkF, argsToLocals, Value.category]; done) | (simp [entryFrame, mkF, argsToLocals, Value.category, maxLocals]; done) | rfl) ?_
  show Go l Z a0 ELc n0 ({ frames := 2, cells := 0, slots := 0, locals := 28 } : Room) "com/example/orderly_wiring/orderlywiring/interpreter/Location" prog_46_method_5_code 3 (Option.some FieldType.boolean) "equals" _ h [] 0 0 0 #[.val (.ref x), .val .null, .unset] []
  refine go_aloadN d_b10_0 rfl rfl rfl ?_
  refine go_instNull d_b10_1 rfl ?_
  refine go_if_eq_t (pt := 52) d_b10_4 (by decide) (by decide) (by decide) ?_
  refine go_iconst 0 d_b10_52 rfl (by decide) ?_
  refine go_retN (t := .boolean) d_b10_53 [] rfl (by simp) (by decide) (by decide) (fun _ q => nomatch q) ?_
  exact ⟨by decide, rfl, rfl⟩
set_option maxRecDepth 65536 in
set_option maxHeartbeats 4000000 in
theorem c_loeqT {l : Launch} {Z : State} {a0 : Array Value} {n0 : Nat} (hB : Base Z a0) {x s : Addr} {h : Heap} (E : Exa Z h s "java/lang/String") :
    Con l Z ELc n0 (⟨"com/example/orderly_wiring/orderlywiring/interpreter/Location", "equals", "(Ljava/lang/Object;)Z"⟩ : MethodName) prog_46_method_5_code 3 (Option.some FieldType.boolean) [] ({ frames := 2, cells := 0, slots := 0, locals := 28 } : Room) #[.ref x, .ref s] h [] (fun v h' sf' => v = some (.int 0) ∧ sf' = [] ∧ h = h') := by
  refine con_of (a0 := a0) (ls := #[.val (.ref x), .val (.ref s), .unset]) (plainFor_of_name (by decide +kernel)) hB.2.1 (fun m => by first | (simp [entryFrame, mkF, argsToLocals, Value.category]; done) | (simp [entryFrame, mkF, argsToLocals, Value.category, maxLocals]; done) | rfl) ?_
  show Go l Z a0 ELc n0 ({ frames := 2, cells := 0, slots := 0, locals := 28 } : Room) "com/example/orderly_wiring/orderlywiring/interpreter/Location" prog_46_method_5_code 3 (Option.some FieldType.boolean) "equals" _ h [] 0 0 0 #[.val (.ref x), .val (.ref s), .unset] []
  refine go_aloadN d_b10_0 rfl rfl rfl ?_
  refine go_instNo d_b10_1 rfl (wd hB 60 rfl) E (notSub (wd hB 72 rfl) (wd hB 73 rfl) (wd hB 35 rfl) (by decide) (by decide)) ?_
  refine go_if_eq_t (pt := 52) d_b10_4 (by decide) (by decide) (by decide) ?_
  refine go_iconst 0 d_b10_52 rfl (by decide) ?_
  refine go_retN (t := .boolean) d_b10_53 [] rfl (by simp) (by decide) (by decide) (fun _ q => nomatch q) ?_
  exact ⟨by decide, rfl, rfl⟩
set_option maxRecDepth 65536 in
set_option maxHeartbeats 4000000 in
theorem c_loeqS {l : Launch} {Z : State} {a0 : Array Value} {n0 : Nat} (hB : Base Z a0) {x s1 : Addr} {l1 o1 : Int32} {h : Heap} (E1 : Exa Z h s1 "java/lang/String") (L1 : Exa Z h x "com/example/orderly_wiring/orderlywiring/interpreter/Location") (Ff1 : Fld Z h x "com/example/orderly_wiring/orderlywiring/interpreter/Location" "file" "Ljava/lang/String;" (.ref s1)) (Fl1 : Fld Z h x "com/example/orderly_wiring/orderlywiring/interpreter/Location" "line" "I" (.int l1)) (Fc1 : Fld Z h x "com/example/orderly_wiring/orderlywiring/interpreter/Location" "column" "I" (.int o1)) :
    Con l Z ELc n0 (⟨"com/example/orderly_wiring/orderlywiring/interpreter/Location", "equals", "(Ljava/lang/Object;)Z"⟩ : MethodName) prog_46_method_5_code 3 (Option.some FieldType.boolean) [] ({ frames := 2, cells := 0, slots := 0, locals := 28 } : Room) #[.ref x, .ref x] h [] (fun v h' sf' => v = some (.int 1) ∧ sf' = [] ∧ h = h') := by
  refine con_of (a0 := a0) (ls := #[.val (.ref x), .val (.ref x), .unset]) (plainFor_of_name (by decide +kernel)) hB.2.1 (fun m => by first | (simp [entryFrame, mkF, argsToLocals, Value.category]; done) | (simp [entryFrame, mkF, argsToLocals, Value.category, maxLocals]; done) | rfl) ?_
  show Go l Z a0 ELc n0 ({ frames := 2, cells := 0, slots := 0, locals := 28 } : Room) "com/example/orderly_wiring/orderlywiring/interpreter/Location" prog_46_method_5_code 3 (Option.some FieldType.boolean) "equals" _ h [] 0 0 0 #[.val (.ref x), .val (.ref x), .unset] []
  refine go_aloadN d_b10_0 rfl rfl rfl ?_
  refine go_instY d_b10_1 rfl (wd hB 60 rfl) (Ins.self L1) ?_
  refine go_if_eq_f d_b10_4 rfl (by decide) ?_
  refine go_aloadN d_b10_7 rfl rfl rfl ?_
  refine go_checkcast d_b10_8 rfl (wd hB 60 rfl) (Ins.self L1) ?_
  refine go_astoreN d_b10_11 rfl #[.val (.ref x), .val (.ref x), .val (.ref x)] rfl rfl ?_
  refine go_aloadN d_b10_12 rfl rfl rfl ?_
  refine go_getfield d_b10_13 rfl (wd hB 49 rfl) Via.refl Ff1 ?_
  refine go_aloadN d_b10_16 rfl rfl rfl ?_
  refine go_getfield d_b10_17 rfl (wd hB 49 rfl) Via.refl Ff1 ?_
  refine go_virtual s1 [(.ref s1)] [] 0 d_b10_20 rfl E1 (wd hB 62 rfl) (wd hB 63 rfl) (nf_of (wd hB 65 rfl)) (wd hB 65 rfl) (wd hB 64 rfl) (wd hB 6 rfl) (wd hB 66 rfl) (c_seqS hB) (fun _ q => nomatch q) (lenOf pd_7 rfl) rfl rfl rfl (by decide) (by decide) (by decide) (by decide) (by decide) (fun v101 h102 s103 q104 => ?_)
  obtain ⟨rfl, rfl, rfl⟩ := q104
  show Go _ _ _ _ _ _ _ _ _ _ _ _ h [] 0 0 23 #[.val (.ref x), .val (.ref x), .val (.ref x)] [(.int 1)]
  refine go_if_eq_f d_b10_23 rfl (by decide) ?_
  refine go_aloadN d_b10_26 rfl rfl rfl ?_
  refine go_getfield d_b10_27 rfl (wd hB 51 rfl) Via.refl Fl1 ?_
  refine go_aloadN d_b10_30 rfl rfl rfl ?_
  refine go_getfield d_b10_31 rfl (wd hB 51 rfl) Via.refl Fl1 ?_
  refine go_icmp_ne_f d_b10_34 rfl rfl ?_
  refine go_aloadN d_b10_37 rfl rfl rfl ?_
  refine go_getfield d_b10_38 rfl (wd hB 53 rfl) Via.refl Fc1 ?_
  refine go_aloadN d_b10_41 rfl rfl rfl ?_
  refine go_getfield d_b10_42 rfl (wd hB 53 rfl) Via.refl Fc1 ?_
  refine go_icmp_ne_f d_b10_45 rfl rfl ?_
  refine go_iconst 1 d_b10_48 rfl (by decide) ?_
  refine go_goto (pt := 53) d_b10_49 (by decide) (by decide) ?_
  refine go_retN (t := .boolean) d_b10_53 [] rfl (by simp) (by decide) (by decide) (fun _ q => nomatch q) ?_
  exact ⟨by decide, rfl, rfl⟩
set_option maxRecDepth 65536 in
set_option maxHeartbeats 4000000 in
theorem c_loeqD {l : Launch} {Z : State} {a0 : Array Value} {n0 : Nat} (hB : Base Z a0) {x y : Addr} {l1 o1 l2 o2 : Int32} {s1 d1 : Addr} {k1 : ClassId} (c1 : List Int32) (hc1 : ∀ c ∈ c1, isC c) (hn1 : c1.length ≤ 4000) {s2 d2 : Addr} {k2 : ClassId} (c2 : List Int32) (hc2 : ∀ c ∈ c2, isC c) (hn2 : c2.length ≤ 4000) (hne : s1 ≠ s2) {h : Heap} (E1 : Exa Z h s1 "java/lang/String") (C1 : Fld Z h s1 "java/lang/String" "coder" "B" (.int 0)) (V1 : Fld Z h s1 "java/lang/String" "value" "[B" (.ref d1)) (A1 : Arv Z h d1 k1 .byte (Int32.ofNat c1.length) (lo8s c1) (.int 0)) (E2 : Exa Z h s2 "java/lang/String") (C2 : Fld Z h s2 "java/lang/String" "coder" "B" (.int 0)) (V2 : Fld Z h s2 "java/lang/String" "value" "[B" (.ref d2)) (A2 : Arv Z h d2 k2 .byte (Int32.ofNat c2.length) (lo8s c2) (.int 0)) (L1 : Exa Z h x "com/example/orderly_wiring/orderlywiring/interpreter/Location") (Ff1 : Fld Z h x "com/example/orderly_wiring/orderlywiring/interpreter/Location" "file" "Ljava/lang/String;" (.ref s1)) (Fl1 : Fld Z h x "com/example/orderly_wiring/orderlywiring/interpreter/Location" "line" "I" (.int l1)) (Fc1 : Fld Z h x "com/example/orderly_wiring/orderlywiring/interpreter/Location" "column" "I" (.int o1)) (L2 : Exa Z h y "com/example/orderly_wiring/orderlywiring/interpreter/Location") (Ff2 : Fld Z h y "com/example/orderly_wiring/orderlywiring/interpreter/Location" "file" "Ljava/lang/String;" (.ref s2)) (Fl2 : Fld Z h y "com/example/orderly_wiring/orderlywiring/interpreter/Location" "line" "I" (.int l2)) (Fc2 : Fld Z h y "com/example/orderly_wiring/orderlywiring/interpreter/Location" "column" "I" (.int o2)) :
    Con l Z ELc n0 (⟨"com/example/orderly_wiring/orderlywiring/interpreter/Location", "equals", "(Ljava/lang/Object;)Z"⟩ : MethodName) prog_46_method_5_code 3 (Option.some FieldType.boolean) [] ({ frames := 2, cells := 0, slots := 0, locals := 28 } : Room) #[.ref x, .ref y] h [] (fun v h' sf' => v = some (.int (ob (c1 = c2 ∧ l1 = l2 ∧ o1 = o2))) ∧ sf' = [] ∧ h = h') := by
  refine con_of (a0 := a0) (ls := #[.val (.ref x), .val (.ref y), .unset]) (plainFor_of_name (by decide +kernel)) hB.2.1 (fun m => by first | (simp [entryFrame, mkF, argsToLocals, Value.category]; done) | (simp [entryFrame, mkF, argsToLocals, Value.category, maxLocals]; done) | rfl) ?_
  show Go l Z a0 ELc n0 ({ frames := 2, cells := 0, slots := 0, locals := 28 } : Room) "com/example/orderly_wiring/orderlywiring/interpreter/Location" prog_46_method_5_code 3 (Option.some FieldType.boolean) "equals" _ h [] 0 0 0 #[.val (.ref x), .val (.ref y), .unset] []
  refine go_aloadN d_b10_0 rfl rfl rfl ?_
  refine go_instY d_b10_1 rfl (wd hB 60 rfl) (Ins.self L2) ?_
  refine go_if_eq_f d_b10_4 rfl (by decide) ?_
  refine go_aloadN d_b10_7 rfl rfl rfl ?_
  refine go_checkcast d_b10_8 rfl (wd hB 60 rfl) (Ins.self L2) ?_
  refine go_astoreN d_b10_11 rfl #[.val (.ref x), .val (.ref y), .val (.ref y)] rfl rfl ?_
  refine go_aloadN d_b10_12 rfl rfl rfl ?_
  refine go_getfield d_b10_13 rfl (wd hB 49 rfl) Via.refl Ff1 ?_
  refine go_aloadN d_b10_16 rfl rfl rfl ?_
  refine go_getfield d_b10_17 rfl (wd hB 49 rfl) Via.refl Ff2 ?_
  refine go_virtual s1 [(.ref s2)] [] 0 d_b10_20 rfl E1 (wd hB 62 rfl) (wd hB 63 rfl) (nf_of (wd hB 65 rfl)) (wd hB 65 rfl) (wd hB 64 rfl) (wd hB 6 rfl) (wd hB 66 rfl) (c_seqD hB c1 hc1 hn1 c2 hc2 hn2 hne E1 C1 V1 A1 E2 C2 V2 A2) (fun _ q => nomatch q) (lenOf pd_7 rfl) rfl rfl rfl (by decide) (by decide) (by decide) (by decide) (by decide) (fun v101 h102 s103 q104 => ?_)
  obtain ⟨rfl, rfl, rfl⟩ := q104
  show Go _ _ _ _ _ _ _ _ _ _ _ _ h [] 0 0 23 #[.val (.ref x), .val (.ref y), .val (.ref y)] [(.int (ob (c1 = c2)))]
  by_cases hq : ((ob (c1 = c2)) = 0 : Prop)
  · refine go_if_eq_t (pt := 52) d_b10_23 (by decide) (by decide) hq ?_
    refine go_iconst 0 d_b10_52 rfl (by decide) ?_
    refine go_retN (t := .boolean) d_b10_53 [] rfl (by simp) (by decide) (by decide) (fun _ q => nomatch q) ?_
    have e : ¬ (c1 = c2 ∧ l1 = l2 ∧ o1 = o2) := fun q => by first | exact ho q.2.2 | exact hl q.2.1 | (rw [ob_t q.1] at hq; exact absurd hq (by decide))
    exact ⟨by rw [ob_f e]; decide, rfl, rfl⟩
  · refine go_if_eq_f d_b10_23 rfl hq ?_
    refine go_aloadN d_b10_26 rfl rfl rfl ?_
    refine go_getfield d_b10_27 rfl (wd hB 51 rfl) Via.refl Fl1 ?_
    refine go_aloadN d_b10_30 rfl rfl rfl ?_
    refine go_getfield d_b10_31 rfl (wd hB 51 rfl) Via.refl Fl2 ?_
    by_cases hl : (l1 = l2 : Prop)
    · refine go_icmp_ne_f d_b10_34 rfl hl ?_
      refine go_aloadN d_b10_37 rfl rfl rfl ?_
      refine go_getfield d_b10_38 rfl (wd hB 53 rfl) Via.refl Fc1 ?_
      refine go_aloadN d_b10_41 rfl rfl rfl ?_
      refine go_getfield d_b10_42 rfl (wd hB 53 rfl) Via.refl Fc2 ?_
      by_cases ho : (o1 = o2 : Prop)
      · refine go_icmp_ne_f d_b10_45 rfl ho ?_
        refine go_iconst 1 d_b10_48 rfl (by decide) ?_
        refine go_goto (pt := 53) d_b10_49 (by decide) (by decide) ?_
        refine go_retN (t := .boolean) d_b10_53 [] rfl (by simp) (by decide) (by decide) (fun _ q => nomatch q) ?_
        have e : c1 = c2 := Decidable.byContradiction fun q => hq (ob_f q)
        exact ⟨by rw [ob_t ⟨e, hl, ho⟩]; decide, rfl, rfl⟩
      · refine go_icmp_ne_t (pt := 52) d_b10_45 (by decide) (by decide) ho ?_
        refine go_iconst 0 d_b10_52 rfl (by decide) ?_
        refine go_retN (t := .boolean) d_b10_53 [] rfl (by simp) (by decide) (by decide) (fun _ q => nomatch q) ?_
        have e : ¬ (c1 = c2 ∧ l1 = l2 ∧ o1 = o2) := fun q => by first | exact ho q.2.2 | exact hl q.2.1 | (rw [ob_t q.1] at hq; exact absurd hq (by decide))
        exact ⟨by rw [ob_f e]; decide, rfl, rfl⟩
    · refine go_icmp_ne_t (pt := 52) d_b10_34 (by decide) (by decide) hl ?_
      refine go_iconst 0 d_b10_52 rfl (by decide) ?_
      refine go_retN (t := .boolean) d_b10_53 [] rfl (by simp) (by decide) (by decide) (fun _ q => nomatch q) ?_
      have e : ¬ (c1 = c2 ∧ l1 = l2 ∧ o1 = o2) := fun q => by first | exact ho q.2.2 | exact hl q.2.1 | (rw [ob_t q.1] at hq; exact absurd hq (by decide))
      exact ⟨by rw [ob_f e]; decide, rfl, rfl⟩
theorem isC_and (x : Int32) : isC (x &&& 255) := and_rng x (by decide)
theorem mkS_all {a b n : Int32} (ha : isC a) (hb : isC b) : ∀ c ∈ mkS a b n, isC c := fun c q => by
  unfold mkS at q; split at q <;> simp at q
  · rw [q]; exact ha
  · rcases q with rfl | rfl
    · exact ha
    · exact hb
theorem mkS_len (a b n : Int32) : (mkS a b n).length ≤ 4000 := by unfold mkS; split <;> simp
theorem mkS_eq {a b n c d m : Int32} (hn : n = 1 ∨ n = 2) (hm : m = 1 ∨ m = 2) : mkS a b n = mkS c d m ↔ (n = m ∧ a = c ∧ (n = 1 ∨ b = d)) := by
  have n12 : ¬ (2 : Int32) = 1 := by decide
  have n21 : ¬ (1 : Int32) = 2 := by decide
  rcases hn with rfl | rfl <;> rcases hm with rfl | rfl <;> simp [mkS, n12, n21]
theorem k_ge {k : Int32} (h : 0 ≤ k.toInt ∧ k.toInt ≤ 3) (h0 : ¬ k = 0) (h1 : ¬ k = 1) : ¬ k < 2 := fun q => by
  rw [Int32.lt_iff_toInt_lt] at q
  have e2 : (2 : Int32).toInt = 2 := rfl
  have a0 : k.toInt ≠ 0 := fun r => h0 (Int32.toInt_inj.mp r)
  have a1 : k.toInt ≠ 1 := fun r => h1 (Int32.toInt_inj.mp r)
  omega
theorem ob_swap {a b : List Int32} {c d e f : Int32} : ob (a = b ∧ c = d ∧ e = f) = ob (b = a ∧ d = c ∧ f = e) := by
  by_cases q : a = b ∧ c = d ∧ e = f
  · rw [ob_t q, ob_t ⟨q.1.symm, q.2.1.symm, q.2.2.symm⟩]
  · rw [ob_f q, ob_f fun r => q ⟨r.1.symm, r.2.1.symm, r.2.2.symm⟩]
set_option maxRecDepth 65536 in
set_option maxHeartbeats 4000000 in
theorem c_law {l : Launch} {Z : State} {a0 : Array Value} {n0 : Nat} (hB : Base Z a0) (ws : List Jvm.Cond) (p0 p1 p2 p3 p4 p5 : Int32) {h : Heap} :
    Con l Z ELc n0 x code maxLocals ret ws room_1 #[.int p0, .int p1, .int p2, .int p3, .int p4, .int p5] h [] (fun v h' sf' => v = some (.int 1)) := by

  refine con_of (a0 := a0) (ls := #[.val (.int p0), .val (.int p1), .val (.int p2), .val (.int p3), .val (.int p4), .val (.int p5), .unset, .unset, .unset, .unset, .unset, .unset, .unset, .unset, .unset, .unset, .unset, .unset, .unset, .unset, .unset, .unset, .unset, .unset, .unset]) (plainFor_of_name (by decide +kernel)) hB.2.1 (fun m => by first | (simp [entryFrame, mkF, argsToLocals, Value.category]; done) | (simp [entryFrame, mkF, argsToLocals, Value.category, maxLocals]; done) | rfl) ?_
  show Go l Z a0 ELc n0 room_1 "com/example/orderly_wiring/orderlywiring/interpreter/LocationEqualsPinLaw" code maxLocals ret "law" (fun v h' sf' => v = some (.int 1)) h [] 0 0 0 #[.val (.int p0), .val (.int p1), .val (.int p2), .val (.int p3), .val (.int p4), .val (.int p5), .unset, .unset, .unset, .unset, .unset, .unset, .unset, .unset, .unset, .unset, .unset, .unset, .unset, .unset, .unset, .unset, .unset, .unset, .unset] []
  have J101 : ∀ (sf_ : Int32) (a0_ : Int32) (a1_ : Int32) (an : Int32) (b0_ : Int32) (b1_ : Int32) (bn : Int32), (isC a0_) → (isC a1_) → (an = 1 ∨ an = 2) → (isC b0_) → (isC b1_) → (bn = 1 ∨ bn = 2) → Go l Z a0 ELc n0 room_1 "com/example/orderly_wiring/orderlywiring/interpreter/LocationEqualsPinLaw" code maxLocals ret "law" (fun v h' sf' => v = some (.int 1)) h [] 0 0 104 #[.val (.int p0), .val (.int p1), .val (.int p2), .val (.int p3), .val (.int p4), .val (.int p5), .val (.int sf_), .val (.int a0_), .val (.int a1_), .val (.int an), .val (.int b0_), .val (.int b1_), .val (.int bn), .unset, .unset, .unset, .unset, .unset, .unset, .unset, .unset, .unset, .unset, .unset, .unset] [] := by
    intro sf_ a0_ a1_ an b0_ b1_ bn ha0 ha1 hn hb0 hb1 hm
    refine go_iload at_104 rfl rfl ?_
    refine go_iload at_106 rfl rfl ?_
    refine go_iload at_108 rfl rfl ?_
    refine go_static [(.int a0_), (.int a1_), (.int an)] [] 0 at_110 rfl (wd hB 0 rfl) (wd hB 1 rfl) (wd hB 2 rfl) (wd hB 3 rfl) (c_make hB a0_ a1_ an ha0 ha1) (fun _ q => nomatch q) (lenOf pd_8 rfl) rfl rfl rfl (by decide) (by decide) (by decide) (by decide) (by decide) (fun v102 h103 s104 q105 => ?_)
    obtain ⟨s106, d107, k108, rfl, rfl, E109, g110, g111, F112, F113, F114, F115⟩ := q105
    show Go _ _ _ _ _ _ _ _ _ _ _ _ h103 [] 3 22 113 #[.val (.int p0), .val (.int p1), .val (.int p2), .val (.int p3), .val (.int p4), .val (.int p5), .val (.int sf_), .val (.int a0_), .val (.int a1_), .val (.int an), .val (.int b0_), .val (.int b1_), .val (.int bn), .unset, .unset, .unset, .unset, .unset, .unset, .unset, .unset, .unset, .unset, .unset, .unset] [(.ref s106)]
    refine go_astore at_113 rfl #[.val (.int p0), .val (.int p1), .val (.int p2), .val (.int p3), .val (.int p4), .val (.int p5), .val (.int sf_), .val (.int a0_), .val (.int a1_), .val (.int an), .val (.int b0_), .val (.int b1_), .val (.int bn), .val (.ref s106), .unset, .unset, .unset, .unset, .unset, .unset, .unset, .unset, .unset, .unset, .unset] rfl rfl ?_
    refine go_iload at_115 rfl rfl ?_
    refine go_iload at_117 rfl rfl ?_
    refine go_iload at_119 rfl rfl ?_
    refine go_static [(.int b0_), (.int b1_), (.int bn)] [] 0 at_121 rfl (wd hB 0 rfl) (wd hB 1 rfl) (wd hB 2 rfl) (wd hB 3 rfl) (c_make hB b0_ b1_ bn hb0 hb1) (fun _ q => nomatch q) (lenOf pd_8 rfl) rfl rfl rfl (by decide) (by decide) (by decide) (by decide) (by decide) (fun v116 h117 s118 q119 => ?_)
    obtain ⟨s120, d121, k122, rfl, rfl, E123, g124, g125, F126, F127, F128, F129⟩ := q119
    show Go _ _ _ _ _ _ _ _ _ _ _ _ h117 [] 6 44 124 #[.val (.int p0), .val (.int p1), .val (.int p2), .val (.int p3), .val (.int p4), .val (.int p5), .val (.int sf_), .val (.int a0_), .val (.int a1_), .val (.int an), .val (.int b0_), .val (.int b1_), .val (.int bn), .val (.ref s106), .unset, .unset, .unset, .unset, .unset, .unset, .unset, .unset, .unset, .unset, .unset] [(.ref s120)]
    refine go_astore at_124 rfl #[.val (.int p0), .val (.int p1), .val (.int p2), .val (.int p3), .val (.int p4), .val (.int p5), .val (.int sf_), .val (.int a0_), .val (.int a1_), .val (.int an), .val (.int b0_), .val (.int b1_), .val (.int bn), .val (.ref s106), .val (.ref s120), .unset, .unset, .unset, .unset, .unset, .unset, .unset, .unset, .unset, .unset] rfl rfl ?_
    have J130 : ∀ (li2 : Int32), Go l Z a0 ELc n0 room_1 "com/example/orderly_wiring/orderlywiring/interpreter/LocationEqualsPinLaw" code maxLocals ret "law" (fun v h' sf' => v = some (.int 1)) h117 [] 6 44 139 #[.val (.int p0), .val (.int p1), .val (.int p2), .val (.int p3), .val (.int p4), .val (.int p5), .val (.int sf_), .val (.int a0_), .val (.int a1_), .val (.int an), .val (.int b0_), .val (.int b1_), .val (.int bn), .val (.ref s106), .val (.ref s120), .unset, .unset, .unset, .unset, .unset, .unset, .unset, .unset, .unset, .unset] [(.int li2)] := by
      intro li2 
      refine go_istore at_139 rfl #[.val (.int p0), .val (.int p1), .val (.int p2), .val (.int p3), .val (.int p4), .val (.int p5), .val (.int sf_), .val (.int a0_), .val (.int a1_), .val (.int an), .val (.int b0_), .val (.int b1_), .val (.int bn), .val (.ref s106), .val (.ref s120), .val (.int li2), .unset, .unset, .unset, .unset, .unset, .unset, .unset, .unset, .unset] rfl ?_
      have J131 : ∀ (co2 : Int32), Go l Z a0 ELc n0 room_1 "com/example/orderly_wiring/orderlywiring/interpreter/LocationEqualsPinLaw" code maxLocals ret "law" (fun v h' sf' => v = some (.int 1)) h117 [] 6 44 156 #[.val (.int p0), .val (.int p1), .val (.int p2), .val (.int p3), .val (.int p4), .val (.int p5), .val (.int sf_), .val (.int a0_), .val (.int a1_), .val (.int an), .val (.int b0_), .val (.int b1_), .val (.int bn), .val (.ref s106), .val (.ref s120), .val (.int li2), .unset, .unset, .unset, .unset, .unset, .unset, .unset, .unset, .unset] [(.int co2)] := by
        intro co2 
        refine go_istore at_156 rfl #[.val (.int p0), .val (.int p1), .val (.int p2), .val (.int p3), .val (.int p4), .val (.int p5), .val (.int sf_), .val (.int a0_), .val (.int a1_), .val (.int an), .val (.int b0_), .val (.int b1_), .val (.int bn), .val (.ref s106), .val (.ref s120), .val (.int li2), .val (.int co2), .unset, .unset, .unset, .unset, .unset, .unset, .unset, .unset] rfl ?_
        refine go_iload at_158 rfl rfl ?_
        refine go_iconst 3 at_160 rfl (by decide) ?_
        refine go_iushr at_161 rfl ?_
        refine go_iconst 3 at_162 rfl (by decide) ?_
        refine go_iand at_163 rfl ?_
        obtain ⟨kd, hkd⟩ : ∃ z, z = (XT.ushr p5 3) &&& 3 := ⟨_, rfl⟩
        rw [← hkd]
        have hk3 : 0 ≤ kd.toInt ∧ kd.toInt ≤ 3 := by rw [hkd]; exact and_rng _ (by decide)
        refine go_istore at_164 rfl #[.val (.int p0), .val (.int p1), .val (.int p2), .val (.int p3), .val (.int p4), .val (.int p5), .val (.int sf_), .val (.int a0_), .val (.int a1_), .val (.int an), .val (.int b0_), .val (.int b1_), .val (.int bn), .val (.ref s106), .val (.ref s120), .val (.int li2), .val (.int co2), .val (.int kd), .unset, .unset, .unset, .unset, .unset, .unset, .unset] rfl ?_
        refine go_new at_166 rfl (wd hB 34 rfl) (wd hB 35 rfl) (wd hB 36 rfl) (by decide) (by decide) ?_
        intro h137 x132 hx133 E134 ⟨A135, D136⟩
        have F138 : Fld Z h137 x132 "com/example/orderly_wiring/orderlywiring/interpreter/Location" "file" "Ljava/lang/String;" .null := D136 (Or.inr (wd hB 50 rfl)) (ty := (.object "java/lang/String")) (by decide)
        have F139 : Fld Z h137 x132 "com/example/orderly_wiring/orderlywiring/interpreter/Location" "line" "I" (.int 0) := D136 (Or.inr (wd hB 52 rfl)) (ty := .int) (by decide)
        have F140 : Fld Z h137 x132 "com/example/orderly_wiring/orderlywiring/interpreter/Location" "column" "I" (.int 0) := D136 (Or.inr (wd hB 54 rfl)) (ty := .int) (by decide)
        refine go_dup at_169 rfl rfl ?_
        refine go_aload at_170 rfl rfl rfl ?_
        refine go_iloadN at_172 rfl rfl ?_
        refine go_iloadN at_173 rfl rfl ?_
        have F141 := (Exa.ext E134 (Exa.ext E123 F112))
        refine go_special x132 [(.ref s106), (.int p2), (.int p3)] [(.ref x132)] 1 at_174 rfl rfl (wd hB 37 rfl) (wd hB 38 rfl) (wd hB 36 rfl) (wd hB 39 rfl) (c_loc hB p2 p3 A135 F141 F138 F139 F140) (allS (List.Mem.head _) (fun _ q => nomatch q)) (lenOf pd_9 rfl) rfl rfl rfl (by decide) (by decide) (by decide) (by decide) (by decide) (fun v142 h143 s144 q145 => ?_)
        obtain ⟨rfl, rfl, K146, E147, F148, F149, F150⟩ := q145
        show Go _ _ _ _ _ _ _ _ _ _ _ _ h143 [x132] 9 67 177 #[.val (.int p0), .val (.int p1), .val (.int p2), .val (.int p3), .val (.int p4), .val (.int p5), .val (.int sf_), .val (.int a0_), .val (.int a1_), .val (.int an), .val (.int b0_), .val (.int b1_), .val (.int bn), .val (.ref s106), .val (.ref s120), .val (.int li2), .val (.int co2), .val (.int kd), .unset, .unset, .unset, .unset, .unset, .unset, .unset] [(.ref x132)]
        refine go_astore at_177 rfl #[.val (.int p0), .val (.int p1), .val (.int p2), .val (.int p3), .val (.int p4), .val (.int p5), .val (.int sf_), .val (.int a0_), .val (.int a1_), .val (.int an), .val (.int b0_), .val (.int b1_), .val (.int bn), .val (.ref s106), .val (.ref s120), .val (.int li2), .val (.int co2), .val (.int kd), .val (.ref x132), .unset, .unset, .unset, .unset, .unset, .unset] rfl rfl ?_
        refine go_new at_179 rfl (wd hB 34 rfl) (wd hB 35 rfl) (wd hB 36 rfl) (by decide) (by decide) ?_
        intro h156 x151 hx152 E153 ⟨A154, D155⟩
        have F157 : Fld Z h156 x151 "com/example/orderly_wiring/orderlywiring/interpreter/Location" "file" "Ljava/lang/String;" .null := D155 (Or.inr (wd hB 50 rfl)) (ty := (.object "java/lang/String")) (by decide)
        have F158 : Fld Z h156 x151 "com/example/orderly_wiring/orderlywiring/interpreter/Location" "line" "I" (.int 0) := D155 (Or.inr (wd hB 52 rfl)) (ty := .int) (by decide)
        have F159 : Fld Z h156 x151 "com/example/orderly_wiring/orderlywiring/interpreter/Location" "column" "I" (.int 0) := D155 (Or.inr (wd hB 54 rfl)) (ty := .int) (by decide)
        refine go_dup at_182 rfl rfl ?_
        refine go_aload at_183 rfl rfl rfl ?_
        refine go_iload at_185 rfl rfl ?_
        refine go_iload at_187 rfl rfl ?_
        have F160 := (Exa.ext E153 ((Exa.ext E134 F126).keep K146))
        refine go_special x151 [(.ref s120), (.int li2), (.int co2)] [(.ref x151)] 1 at_189 rfl rfl (wd hB 37 rfl) (wd hB 38 rfl) (wd hB 36 rfl) (wd hB 39 rfl) (c_loc hB li2 co2 A154 F160 F157 F158 F159) (allS (List.Mem.head _) (fun _ q => nomatch q)) (lenOf pd_9 rfl) rfl rfl rfl (by decide) (by decide) (by decide) (by decide) (by decide) (fun v161 h162 s163 q164 => ?_)
        obtain ⟨rfl, rfl, K165, E166, F167, F168, F169⟩ := q164
        show Go _ _ _ _ _ _ _ _ _ _ _ _ h162 [x151, x132] 12 90 192 #[.val (.int p0), .val (.int p1), .val (.int p2), .val (.int p3), .val (.int p4), .val (.int p5), .val (.int sf_), .val (.int a0_), .val (.int a1_), .val (.int an), .val (.int b0_), .val (.int b1_), .val (.int bn), .val (.ref s106), .val (.ref s120), .val (.int li2), .val (.int co2), .val (.int kd), .val (.ref x132), .unset, .unset, .unset, .unset, .unset, .unset] [(.ref x151)]
        refine go_astore at_192 rfl #[.val (.int p0), .val (.int p1), .val (.int p2), .val (.int p3), .val (.int p4), .val (.int p5), .val (.int sf_), .val (.int a0_), .val (.int a1_), .val (.int an), .val (.int b0_), .val (.int b1_), .val (.int bn), .val (.ref s106), .val (.ref s120), .val (.int li2), .val (.int co2), .val (.int kd), .val (.ref x132), .val (.ref x151), .unset, .unset, .unset, .unset, .unset] rfl rfl ?_
        refine go_iload at_194 rfl rfl ?_
        by_cases hk0 : (kd = 0 : Prop)
        · refine go_if_ne_f at_196 rfl hk0 ?_
          refine go_aconstNull at_199 rfl ?_
          refine go_astore at_200 rfl #[.val (.int p0), .val (.int p1), .val (.int p2), .val (.int p3), .val (.int p4), .val (.int p5), .val (.int sf_), .val (.int a0_), .val (.int a1_), .val (.int an), .val (.int b0_), .val (.int b1_), .val (.int bn), .val (.ref s106), .val (.ref s120), .val (.int li2), .val (.int co2), .val (.int kd), .val (.ref x132), .val (.ref x151), .val .null, .unset, .unset, .unset, .unset] rfl rfl ?_
          refine go_goto (pt := 222) at_202 (by decide) (by decide) ?_
          refine go_aload at_222 rfl rfl rfl ?_
          refine go_aload at_224 rfl rfl rfl ?_
          have F174 := ((Exa.ext E153 E147).keep K165)
          refine go_virtual x132 [.null] [] 0 at_226 rfl F174 (wd hB 55 rfl) (wd hB 56 rfl) (nf_of (wd hB 58 rfl)) (wd hB 58 rfl) (wd hB 57 rfl) (wd hB 36 rfl) (wd hB 59 rfl) (c_loeqN hB) (fun _ q => nomatch q) (lenOf pd_7 rfl) rfl rfl rfl (by decide) (by decide) (by decide) (by decide) (by decide) (fun v170 h171 s172 q173 => ?_)
          obtain ⟨rfl, rfl, rfl⟩ := q173
          show Go _ _ _ _ _ _ _ _ _ _ _ _ h162 [x151, x132] 12 90 229 #[.val (.int p0), .val (.int p1), .val (.int p2), .val (.int p3), .val (.int p4), .val (.int p5), .val (.int sf_), .val (.int a0_), .val (.int a1_), .val (.int an), .val (.int b0_), .val (.int b1_), .val (.int bn), .val (.ref s106), .val (.ref s120), .val (.int li2), .val (.int co2), .val (.int kd), .val (.ref x132), .val (.ref x151), .val .null, .unset, .unset, .unset, .unset] [(.int 0)]
          obtain ⟨r, hr⟩ : ∃ z : Int32, z = 0 := ⟨_, rfl⟩
          rw [← hr]
          have hkk : kd < 2 := by rw [hk0]; decide
          refine go_istore at_229 rfl #[.val (.int p0), .val (.int p1), .val (.int p2), .val (.int p3), .val (.int p4), .val (.int p5), .val (.int sf_), .val (.int a0_), .val (.int a1_), .val (.int an), .val (.int b0_), .val (.int b1_), .val (.int bn), .val (.ref s106), .val (.ref s120), .val (.int li2), .val (.int co2), .val (.int kd), .val (.ref x132), .val (.ref x151), .val .null, .val (.int r), .unset, .unset, .unset] rfl ?_
          have J175 : ∀ (ef : Int32), (ef = ob (mkS a0_ a1_ an = mkS b0_ b1_ bn)) → Go l Z a0 ELc n0 room_1 "com/example/orderly_wiring/orderlywiring/interpreter/LocationEqualsPinLaw" code maxLocals ret "law" (fun v h' sf' => v = some (.int 1)) h162 [x151, x132] 12 90 263 #[.val (.int p0), .val (.int p1), .val (.int p2), .val (.int p3), .val (.int p4), .val (.int p5), .val (.int sf_), .val (.int a0_), .val (.int a1_), .val (.int an), .val (.int b0_), .val (.int b1_), .val (.int bn), .val (.ref s106), .val (.ref s120), .val (.int li2), .val (.int co2), .val (.int kd), .val (.ref x132), .val (.ref x151), .val .null, .val (.int r), .unset, .unset, .unset] [(.int ef)] := by
            intro ef hef
            refine go_istore at_263 rfl #[.val (.int p0), .val (.int p1), .val (.int p2), .val (.int p3), .val (.int p4), .val (.int p5), .val (.int sf_), .val (.int a0_), .val (.int a1_), .val (.int an), .val (.int b0_), .val (.int b1_), .val (.int bn), .val (.ref s106), .val (.ref s120), .val (.int li2), .val (.int co2), .val (.int kd), .val (.ref x132), .val (.ref x151), .val .null, .val (.int r), .val (.int ef), .unset, .unset] rfl ?_
            have J176 : ∀ (ex : Int32), (ex = r) → Go l Z a0 ELc n0 room_1 "com/example/orderly_wiring/orderlywiring/interpreter/LocationEqualsPinLaw" code maxLocals ret "law" (fun v h' sf' => v = some (.int 1)) h162 [x151, x132] 12 90 293 #[.val (.int p0), .val (.int p1), .val (.int p2), .val (.int p3), .val (.int p4), .val (.int p5), .val (.int sf_), .val (.int a0_), .val (.int a1_), .val (.int an), .val (.int b0_), .val (.int b1_), .val (.int bn), .val (.ref s106), .val (.ref s120), .val (.int li2), .val (.int co2), .val (.int kd), .val (.ref x132), .val (.ref x151), .val .null, .val (.int r), .val (.int ef), .unset, .unset] [(.int ex)] := by
              intro ex hex
              refine go_istore at_293 rfl #[.val (.int p0), .val (.int p1), .val (.int p2), .val (.int p3), .val (.int p4), .val (.int p5), .val (.int sf_), .val (.int a0_), .val (.int a1_), .val (.int an), .val (.int b0_), .val (.int b1_), .val (.int bn), .val (.ref s106), .val (.ref s120), .val (.int li2), .val (.int co2), .val (.int kd), .val (.ref x132), .val (.ref x151), .val .null, .val (.int r), .val (.int ef), .val (.int ex), .unset] rfl ?_
              have J177 : ∀ (u_ : True), Go l Z a0 ELc n0 room_1 "com/example/orderly_wiring/orderlywiring/interpreter/LocationEqualsPinLaw" code maxLocals ret "law" (fun v h' sf' => v = some (.int 1)) h162 [x151, x132] 12 90 318 #[.val (.int p0), .val (.int p1), .val (.int p2), .val (.int p3), .val (.int p4), .val (.int p5), .val (.int sf_), .val (.int a0_), .val (.int a1_), .val (.int an), .val (.int b0_), .val (.int b1_), .val (.int bn), .val (.ref s106), .val (.ref s120), .val (.int li2), .val (.int co2), .val (.int kd), .val (.ref x132), .val (.ref x151), .val .null, .val (.int r), .val (.int ef), .val (.int ex), .unset] [(.int 1)] := by
                intro u_ 
                refine go_istore at_318 rfl #[.val (.int p0), .val (.int p1), .val (.int p2), .val (.int p3), .val (.int p4), .val (.int p5), .val (.int sf_), .val (.int a0_), .val (.int a1_), .val (.int an), .val (.int b0_), .val (.int b1_), .val (.int bn), .val (.ref s106), .val (.ref s120), .val (.int li2), .val (.int co2), .val (.int kd), .val (.ref x132), .val (.ref x151), .val .null, .val (.int r), .val (.int ef), .val (.int ex), .val (.int 1)] rfl ?_
                refine go_iload at_320 rfl rfl ?_
                refine go_iload at_322 rfl rfl ?_
                refine go_icmp_ne_f at_324 rfl hex.symm ?_
                refine go_iload at_327 rfl rfl ?_
                refine go_if_eq_f at_329 rfl (by decide) ?_
                refine go_aload at_332 rfl rfl rfl ?_
                refine go_aload at_334 rfl rfl rfl ?_
                have F178 := ((Exa.ext E153 (F141.keep K146)).keep K165)
                have F179 := ((Fld.ext E153 F148).keep K165 (ninS (Nat.ne_of_lt (Nat.lt_of_lt_of_le E147.lt (Nat.le_of_eq hx152.symm))) nin0))
                have F180 := ((Fld.ext E153 F149).keep K165 (ninS (Nat.ne_of_lt (Nat.lt_of_lt_of_le E147.lt (Nat.le_of_eq hx152.symm))) nin0))
                have F181 := ((Fld.ext E153 F150).keep K165 (ninS (Nat.ne_of_lt (Nat.lt_of_lt_of_le E147.lt (Nat.le_of_eq hx152.symm))) nin0))
                refine go_virtual x132 [(.ref x132)] [] 0 at_336 rfl F174 (wd hB 55 rfl) (wd hB 56 rfl) (nf_of (wd hB 58 rfl)) (wd hB 58 rfl) (wd hB 57 rfl) (wd hB 36 rfl) (wd hB 59 rfl) (c_loeqS hB F178 F174 F179 F180 F181) (fun _ q => nomatch q) (lenOf pd_7 rfl) rfl rfl rfl (by decide) (by decide) (by decide) (by decide) (by decide) (fun v182 h183 s184 q185 => ?_)
                obtain ⟨rfl, rfl, rfl⟩ := q185
                show Go _ _ _ _ _ _ _ _ _ _ _ _ h162 [x151, x132] 12 90 339 #[.val (.int p0), .val (.int p1), .val (.int p2), .val (.int p3), .val (.int p4), .val (.int p5), .val (.int sf_), .val (.int a0_), .val (.int a1_), .val (.int an), .val (.int b0_), .val (.int b1_), .val (.int bn), .val (.ref s106), .val (.ref s120), .val (.int li2), .val (.int co2), .val (.int kd), .val (.ref x132), .val (.ref x151), .val .null, .val (.int r), .val (.int ef), .val (.int ex), .val (.int 1)] [(.int 1)]
                refine go_if_eq_f at_339 rfl (by decide) ?_
                refine go_iconst 1 at_342 rfl (by decide) ?_
                refine go_goto (pt := 347) at_343 (by decide) (by decide) ?_
                refine go_retN (t := .boolean) at_347 [] rfl (by simp) (by decide) (by decide) (fun _ q => nomatch q) ?_
                decide
              refine go_iload at_295 rfl rfl ?_
              refine go_iconst 2 at_297 rfl (by decide) ?_
              refine go_icmp_lt_t (pt := 313) at_298 (by decide) (by decide) hkk ?_
              refine go_iconst 1 at_313 rfl (by decide) ?_
              refine go_goto (pt := 318) at_314 (by decide) (by decide) ?_
              exact J177 trivial
            refine go_iload at_265 rfl rfl ?_
            refine go_iconst 2 at_267 rfl (by decide) ?_
            refine go_icmp_lt_t (pt := 292) at_268 (by decide) (by decide) hkk ?_
            refine go_iconst 0 at_292 rfl (by decide) ?_
            exact J176 0 hr.symm
          refine go_iload at_231 rfl rfl ?_
          refine go_iload at_233 rfl rfl ?_
          by_cases ha_ : (an = bn : Prop)
          · refine go_icmp_ne_f at_235 rfl ha_ ?_
            refine go_iload at_238 rfl rfl ?_
            refine go_iload at_240 rfl rfl ?_
            by_cases hb_ : (a0_ = b0_ : Prop)
            · refine go_icmp_ne_f at_242 rfl hb_ ?_
              refine go_iload at_245 rfl rfl ?_
              refine go_iconst 1 at_247 rfl (by decide) ?_
              by_cases hc_ : (an = 1 : Prop)
              · refine go_icmp_eq_t (pt := 258) at_248 (by decide) (by decide) hc_ ?_
                refine go_iconst 1 at_258 rfl (by decide) ?_
                refine go_goto (pt := 263) at_259 (by decide) (by decide) ?_
                exact J175 1 (ob_t ((mkS_eq hn hm).mpr ⟨ha_, hb_, Or.inl hc_⟩)).symm
              · refine go_icmp_eq_f at_248 rfl hc_ ?_
                refine go_iload at_251 rfl rfl ?_
                refine go_iload at_253 rfl rfl ?_
                by_cases hd_ : (a1_ = b1_ : Prop)
                · refine go_icmp_ne_f at_255 rfl hd_ ?_
                  refine go_iconst 1 at_258 rfl (by decide) ?_
                  refine go_goto (pt := 263) at_259 (by decide) (by decide) ?_
                  exact J175 1 (ob_t ((mkS_eq hn hm).mpr ⟨ha_, hb_, Or.inr hd_⟩)).symm
                · refine go_icmp_ne_t (pt := 262) at_255 (by decide) (by decide) hd_ ?_
                  refine go_iconst 0 at_262 rfl (by decide) ?_
                  exact J175 0 (ob_f (fun q => by have q := (mkS_eq hn hm).mp q; first | exact ha_ q.1 | exact hb_ q.2.1 | exact q.2.2.elim hc_ hd_)).symm
            · refine go_icmp_ne_t (pt := 262) at_242 (by decide) (by decide) hb_ ?_
              refine go_iconst 0 at_262 rfl (by decide) ?_
              exact J175 0 (ob_f (fun q => by have q := (mkS_eq hn hm).mp q; first | exact ha_ q.1 | exact hb_ q.2.1 | exact q.2.2.elim hc_ hd_)).symm
          · refine go_icmp_ne_t (pt := 262) at_235 (by decide) (by decide) ha_ ?_
            refine go_iconst 0 at_262 rfl (by decide) ?_
            exact J175 0 (ob_f (fun q => by have q := (mkS_eq hn hm).mp q; first | exact ha_ q.1 | exact hb_ q.2.1 | exact q.2.2.elim hc_ hd_)).symm
        · refine go_if_ne_t (pt := 205) at_196 (by decide) (by decide) hk0 ?_
          refine go_iload at_205 rfl rfl ?_
          refine go_iconst 1 at_207 rfl (by decide) ?_
          by_cases hk1 : (kd = 1 : Prop)
          · refine go_icmp_ne_f at_208 rfl hk1 ?_
            refine go_aload at_211 rfl rfl rfl ?_
            refine go_astore at_213 rfl #[.val (.int p0), .val (.int p1), .val (.int p2), .val (.int p3), .val (.int p4), .val (.int p5), .val (.int sf_), .val (.int a0_), .val (.int a1_), .val (.int an), .val (.int b0_), .val (.int b1_), .val (.int bn), .val (.ref s106), .val (.ref s120), .val (.int li2), .val (.int co2), .val (.int kd), .val (.ref x132), .val (.ref x151), .val (.ref s106), .unset, .unset, .unset, .unset] rfl rfl ?_
            refine go_goto (pt := 222) at_215 (by decide) (by decide) ?_
            refine go_aload at_222 rfl rfl rfl ?_
            refine go_aload at_224 rfl rfl rfl ?_
            have F186 := ((Exa.ext E153 (F141.keep K146)).keep K165)
            have F191 := ((Exa.ext E153 E147).keep K165)
            refine go_virtual x132 [(.ref s106)] [] 0 at_226 rfl F191 (wd hB 55 rfl) (wd hB 56 rfl) (nf_of (wd hB 58 rfl)) (wd hB 58 rfl) (wd hB 57 rfl) (wd hB 36 rfl) (wd hB 59 rfl) (c_loeqT hB F186) (fun _ q => nomatch q) (lenOf pd_7 rfl) rfl rfl rfl (by decide) (by decide) (by decide) (by decide) (by decide) (fun v187 h188 s189 q190 => ?_)
            obtain ⟨rfl, rfl, rfl⟩ := q190
            show Go _ _ _ _ _ _ _ _ _ _ _ _ h162 [x151, x132] 12 90 229 #[.val (.int p0), .val (.int p1), .val (.int p2), .val (.int p3), .val (.int p4), .val (.int p5), .val (.int sf_), .val (.int a0_), .val (.int a1_), .val (.int an), .val (.int b0_), .val (.int b1_), .val (.int bn), .val (.ref s106), .val (.ref s120), .val (.int li2), .val (.int co2), .val (.int kd), .val (.ref x132), .val (.ref x151), .val (.ref s106), .unset, .unset, .unset, .unset] [(.int 0)]
            obtain ⟨r, hr⟩ : ∃ z : Int32, z = 0 := ⟨_, rfl⟩
            rw [← hr]
            have hkk : kd < 2 := by rw [hk1]; decide
            refine go_istore at_229 rfl #[.val (.int p0), .val (.int p1), .val (.int p2), .val (.int p3), .val (.int p4), .val (.int p5), .val (.int sf_), .val (.int a0_), .val (.int a1_), .val (.int an), .val (.int b0_), .val (.int b1_), .val (.int bn), .val (.ref s106), .val (.ref s120), .val (.int li2), .val (.int co2), .val (.int kd), .val (.ref x132), .val (.ref x151), .val (.ref s106), .val (.int r), .unset, .unset, .unset] rfl ?_
            have J192 : ∀ (ef : Int32), (ef = ob (mkS a0_ a1_ an = mkS b0_ b1_ bn)) → Go l Z a0 ELc n0 room_1 "com/example/orderly_wiring/orderlywiring/interpreter/LocationEqualsPinLaw" code maxLocals ret "law" (fun v h' sf' => v = some (.int 1)) h162 [x151, x132] 12 90 263 #[.val (.int p0), .val (.int p1), .val (.int p2), .val (.int p3), .val (.int p4), .val (.int p5), .val (.int sf_), .val (.int a0_), .val (.int a1_), .val (.int an), .val (.int b0_), .val (.int b1_), .val (.int bn), .val (.ref s106), .val (.ref s120), .val (.int li2), .val (.int co2), .val (.int kd), .val (.ref x132), .val (.ref x151), .val (.ref s106), .val (.int r), .unset, .unset, .unset] [(.int ef)] := by
              intro ef hef
              refine go_istore at_263 rfl #[.val (.int p0), .val (.int p1), .val (.int p2), .val (.int p3), .val (.int p4), .val (.int p5), .val (.int sf_), .val (.int a0_), .val (.int a1_), .val (.int an), .val (.int b0_), .val (.int b1_), .val (.int bn), .val (.ref s106), .val (.ref s120), .val (.int li2), .val (.int co2), .val (.int kd), .val (.ref x132), .val (.ref x151), .val (.ref s106), .val (.int r), .val (.int ef), .unset, .unset] rfl ?_
              have J193 : ∀ (ex : Int32), (ex = r) → Go l Z a0 ELc n0 room_1 "com/example/orderly_wiring/orderlywiring/interpreter/LocationEqualsPinLaw" code maxLocals ret "law" (fun v h' sf' => v = some (.int 1)) h162 [x151, x132] 12 90 293 #[.val (.int p0), .val (.int p1), .val (.int p2), .val (.int p3), .val (.int p4), .val (.int p5), .val (.int sf_), .val (.int a0_), .val (.int a1_), .val (.int an), .val (.int b0_), .val (.int b1_), .val (.int bn), .val (.ref s106), .val (.ref s120), .val (.int li2), .val (.int co2), .val (.int kd), .val (.ref x132), .val (.ref x151), .val (.ref s106), .val (.int r), .val (.int ef), .unset, .unset] [(.int ex)] := by
                intro ex hex
                refine go_istore at_293 rfl #[.val (.int p0), .val (.int p1), .val (.int p2), .val (.int p3), .val (.int p4), .val (.int p5), .val (.int sf_), .val (.int a0_), .val (.int a1_), .val (.int an), .val (.int b0_), .val (.int b1_), .val (.int bn), .val (.ref s106), .val (.ref s120), .val (.int li2), .val (.int co2), .val (.int kd), .val (.ref x132), .val (.ref x151), .val (.ref s106), .val (.int r), .val (.int ef), .val (.int ex), .unset] rfl ?_
                have J194 : ∀ (u_ : True), Go l Z a0 ELc n0 room_1 "com/example/orderly_wiring/orderlywiring/interpreter/LocationEqualsPinLaw" code maxLocals ret "law" (fun v h' sf' => v = some (.int 1)) h162 [x151, x132] 12 90 318 #[.val (.int p0), .val (.int p1), .val (.int p2), .val (.int p3), .val (.int p4), .val (.int p5), .val (.int sf_), .val (.int a0_), .val (.int a1_), .val (.int an), .val (.int b0_), .val (.int b1_), .val (.int bn), .val (.ref s106), .val (.ref s120), .val (.int li2), .val (.int co2), .val (.int kd), .val (.ref x132), .val (.ref x151), .val (.ref s106), .val (.int r), .val (.int ef), .val (.int ex), .unset] [(.int 1)] := by
                  intro u_ 
                  refine go_istore at_318 rfl #[.val (.int p0), .val (.int p1), .val (.int p2), .val (.int p3), .val (.int p4), .val (.int p5), .val (.int sf_), .val (.int a0_), .val (.int a1_), .val (.int an), .val (.int b0_), .val (.int b1_), .val (.int bn), .val (.ref s106), .val (.ref s120), .val (.int li2), .val (.int co2), .val (.int kd), .val (.ref x132), .val (.ref x151), .val (.ref s106), .val (.int r), .val (.int ef), .val (.int ex), .val (.int 1)] rfl ?_
                  refine go_iload at_320 rfl rfl ?_
                  refine go_iload at_322 rfl rfl ?_
                  refine go_icmp_ne_f at_324 rfl hex.symm ?_
                  refine go_iload at_327 rfl rfl ?_
                  refine go_if_eq_f at_329 rfl (by decide) ?_
                  refine go_aload at_332 rfl rfl rfl ?_
                  refine go_aload at_334 rfl rfl rfl ?_
                  have F195 := ((Fld.ext E153 F148).keep K165 (ninS (Nat.ne_of_lt (Nat.lt_of_lt_of_le E147.lt (Nat.le_of_eq hx152.symm))) nin0))
                  have F196 := ((Fld.ext E153 F149).keep K165 (ninS (Nat.ne_of_lt (Nat.lt_of_lt_of_le E147.lt (Nat.le_of_eq hx152.symm))) nin0))
                  have F197 := ((Fld.ext E153 F150).keep K165 (ninS (Nat.ne_of_lt (Nat.lt_of_lt_of_le E147.lt (Nat.le_of_eq hx152.symm))) nin0))
                  refine go_virtual x132 [(.ref x132)] [] 0 at_336 rfl F191 (wd hB 55 rfl) (wd hB 56 rfl) (nf_of (wd hB 58 rfl)) (wd hB 58 rfl) (wd hB 57 rfl) (wd hB 36 rfl) (wd hB 59 rfl) (c_loeqS hB F186 F191 F195 F196 F197) (fun _ q => nomatch q) (lenOf pd_7 rfl) rfl rfl rfl (by decide) (by decide) (by decide) (by decide) (by decide) (fun v198 h199 s200 q201 => ?_)
                  obtain ⟨rfl, rfl, rfl⟩ := q201
                  show Go _ _ _ _ _ _ _ _ _ _ _ _ h162 [x151, x132] 12 90 339 #[.val (.int p0), .val (.int p1), .val (.int p2), .val (.int p3), .val (.int p4), .val (.int p5), .val (.int sf_), .val (.int a0_), .val (.int a1_), .val (.int an), .val (.int b0_), .val (.int b1_), .val (.int bn), .val (.ref s106), .val (.ref s120), .val (.int li2), .val (.int co2), .val (.int kd), .val (.ref x132), .val (.ref x151), .val (.ref s106), .val (.int r), .val (.int ef), .val (.int ex), .val (.int 1)] [(.int 1)]
                  refine go_if_eq_f at_339 rfl (by decide) ?_
                  refine go_iconst 1 at_342 rfl (by decide) ?_
                  refine go_goto (pt := 347) at_343 (by decide) (by decide) ?_
                  refine go_retN (t := .boolean) at_347 [] rfl (by simp) (by decide) (by decide) (fun _ q => nomatch q) ?_
                  decide
                refine go_iload at_295 rfl rfl ?_
                refine go_iconst 2 at_297 rfl (by decide) ?_
                refine go_icmp_lt_t (pt := 313) at_298 (by decide) (by decide) hkk ?_
                refine go_iconst 1 at_313 rfl (by decide) ?_
                refine go_goto (pt := 318) at_314 (by decide) (by decide) ?_
                exact J194 trivial
              refine go_iload at_265 rfl rfl ?_
              refine go_iconst 2 at_267 rfl (by decide) ?_
              refine go_icmp_lt_t (pt := 292) at_268 (by decide) (by decide) hkk ?_
              refine go_iconst 0 at_292 rfl (by decide) ?_
              exact J193 0 hr.symm
            refine go_iload at_231 rfl rfl ?_
            refine go_iload at_233 rfl rfl ?_
            by_cases ha_ : (an = bn : Prop)
            · refine go_icmp_ne_f at_235 rfl ha_ ?_
              refine go_iload at_238 rfl rfl ?_
              refine go_iload at_240 rfl rfl ?_
              by_cases hb_ : (a0_ = b0_ : Prop)
              · refine go_icmp_ne_f at_242 rfl hb_ ?_
                refine go_iload at_245 rfl rfl ?_
                refine go_iconst 1 at_247 rfl (by decide) ?_
                by_cases hc_ : (an = 1 : Prop)
                · refine go_icmp_eq_t (pt := 258) at_248 (by decide) (by decide) hc_ ?_
                  refine go_iconst 1 at_258 rfl (by decide) ?_
                  refine go_goto (pt := 263) at_259 (by decide) (by decide) ?_
                  exact J192 1 (ob_t ((mkS_eq hn hm).mpr ⟨ha_, hb_, Or.inl hc_⟩)).symm
                · refine go_icmp_eq_f at_248 rfl hc_ ?_
                  refine go_iload at_251 rfl rfl ?_
                  refine go_iload at_253 rfl rfl ?_
                  by_cases hd_ : (a1_ = b1_ : Prop)
                  · refine go_icmp_ne_f at_255 rfl hd_ ?_
                    refine go_iconst 1 at_258 rfl (by decide) ?_
                    refine go_goto (pt := 263) at_259 (by decide) (by decide) ?_
                    exact J192 1 (ob_t ((mkS_eq hn hm).mpr ⟨ha_, hb_, Or.inr hd_⟩)).symm
                  · refine go_icmp_ne_t (pt := 262) at_255 (by decide) (by decide) hd_ ?_
                    refine go_iconst 0 at_262 rfl (by decide) ?_
                    exact J192 0 (ob_f (fun q => by have q := (mkS_eq hn hm).mp q; first | exact ha_ q.1 | exact hb_ q.2.1 | exact q.2.2.elim hc_ hd_)).symm
              · refine go_icmp_ne_t (pt := 262) at_242 (by decide) (by decide) hb_ ?_
                refine go_iconst 0 at_262 rfl (by decide) ?_
                exact J192 0 (ob_f (fun q => by have q := (mkS_eq hn hm).mp q; first | exact ha_ q.1 | exact hb_ q.2.1 | exact q.2.2.elim hc_ hd_)).symm
            · refine go_icmp_ne_t (pt := 262) at_235 (by decide) (by decide) ha_ ?_
              refine go_iconst 0 at_262 rfl (by decide) ?_
              exact J192 0 (ob_f (fun q => by have q := (mkS_eq hn hm).mp q; first | exact ha_ q.1 | exact hb_ q.2.1 | exact q.2.2.elim hc_ hd_)).symm
          · refine go_icmp_ne_t (pt := 218) at_208 (by decide) (by decide) hk1 ?_
            refine go_aload at_218 rfl rfl rfl ?_
            refine go_astore at_220 rfl #[.val (.int p0), .val (.int p1), .val (.int p2), .val (.int p3), .val (.int p4), .val (.int p5), .val (.int sf_), .val (.int a0_), .val (.int a1_), .val (.int an), .val (.int b0_), .val (.int b1_), .val (.int bn), .val (.ref s106), .val (.ref s120), .val (.int li2), .val (.int co2), .val (.int kd), .val (.ref x132), .val (.ref x151), .val (.ref x151), .unset, .unset, .unset, .unset] rfl rfl ?_
            refine go_aload at_222 rfl rfl rfl ?_
            refine go_aload at_224 rfl rfl rfl ?_
            have F202 := ((Exa.ext E153 (F141.keep K146)).keep K165)
            have F203 := ((Fld.ext E153 ((Fld.ext E134 (Fld.ext E123 F113)).keep K146 (ninS (Nat.ne_of_lt (Nat.lt_of_lt_of_le (Nat.lt_of_lt_of_le F112.lt E123.1) (Nat.le_of_eq hx133.symm))) nin0))).keep K165 (ninS (Nat.ne_of_lt (Nat.lt_of_lt_of_le (Nat.lt_of_lt_of_le F141.lt K146.1) (Nat.le_of_eq hx152.symm))) nin0))
            have F204 := ((Fld.ext E153 ((Fld.ext E134 (Fld.ext E123 F114)).keep K146 (ninS (Nat.ne_of_lt (Nat.lt_of_lt_of_le (Nat.lt_of_lt_of_le F112.lt E123.1) (Nat.le_of_eq hx133.symm))) nin0))).keep K165 (ninS (Nat.ne_of_lt (Nat.lt_of_lt_of_le (Nat.lt_of_lt_of_le F141.lt K146.1) (Nat.le_of_eq hx152.symm))) nin0))
            have F205 := (((((F115.ext E123).ext E134).keep K146 (ninS (Nat.ne_of_lt (Nat.lt_of_lt_of_le (Nat.lt_of_lt_of_le F115.lt E123.1) (Nat.le_of_eq hx133.symm))) nin0)).ext E153).keep K165 (ninS (Nat.ne_of_lt (Nat.lt_of_lt_of_le (Nat.lt_of_lt_of_le (Nat.lt_of_lt_of_le (Nat.lt_of_lt_of_le F115.lt E123.1) E134.1) K146.1) (Nat.le_of_eq hx152.symm))) nin0))
            have F206 := (F160.keep K165)
            have F207 := ((Fld.ext E153 ((Fld.ext E134 F127).keep K146 (ninS (Nat.ne_of_lt (Nat.lt_of_lt_of_le F126.lt (Nat.le_of_eq hx133.symm))) nin0))).keep K165 (ninS (Nat.ne_of_lt (Nat.lt_of_lt_of_le (Nat.lt_of_lt_of_le (Nat.lt_of_lt_of_le F126.lt E134.1) K146.1) (Nat.le_of_eq hx152.symm))) nin0))
            have F208 := ((Fld.ext E153 ((Fld.ext E134 F128).keep K146 (ninS (Nat.ne_of_lt (Nat.lt_of_lt_of_le F126.lt (Nat.le_of_eq hx133.symm))) nin0))).keep K165 (ninS (Nat.ne_of_lt (Nat.lt_of_lt_of_le (Nat.lt_of_lt_of_le (Nat.lt_of_lt_of_le F126.lt E134.1) K146.1) (Nat.le_of_eq hx152.symm))) nin0))
            have F209 := ((((F129.ext E134).keep K146 (ninS (Nat.ne_of_lt (Nat.lt_of_lt_of_le F129.lt (Nat.le_of_eq hx133.symm))) nin0)).ext E153).keep K165 (ninS (Nat.ne_of_lt (Nat.lt_of_lt_of_le (Nat.lt_of_lt_of_le (Nat.lt_of_lt_of_le F129.lt E134.1) K146.1) (Nat.le_of_eq hx152.symm))) nin0))
            have F210 := ((Exa.ext E153 E147).keep K165)
            have F211 := ((Fld.ext E153 F148).keep K165 (ninS (Nat.ne_of_lt (Nat.lt_of_lt_of_le E147.lt (Nat.le_of_eq hx152.symm))) nin0))
            have F212 := ((Fld.ext E153 F149).keep K165 (ninS (Nat.ne_of_lt (Nat.lt_of_lt_of_le E147.lt (Nat.le_of_eq hx152.symm))) nin0))
            have F213 := ((Fld.ext E153 F150).keep K165 (ninS (Nat.ne_of_lt (Nat.lt_of_lt_of_le E147.lt (Nat.le_of_eq hx152.symm))) nin0))
            refine go_virtual x132 [(.ref x151)] [] 0 at_226 rfl F210 (wd hB 55 rfl) (wd hB 56 rfl) (nf_of (wd hB 58 rfl)) (wd hB 58 rfl) (wd hB 57 rfl) (wd hB 36 rfl) (wd hB 59 rfl) (c_loeqD hB (mkS a0_ a1_ an) (mkS_all ha0 ha1) (mkS_len _ _ _) (mkS b0_ b1_ bn) (mkS_all hb0 hb1) (mkS_len _ _ _) (Nat.ne_of_lt (Nat.lt_of_lt_of_le F112.lt g124)) F202 F203 F204 F205 F206 F207 F208 F209 F210 F211 F212 F213 E166 F167 F168 F169) (fun _ q => nomatch q) (lenOf pd_7 rfl) rfl rfl rfl (by decide) (by decide) (by decide) (by decide) (by decide) (fun v214 h215 s216 q217 => ?_)
            obtain ⟨rfl, rfl, rfl⟩ := q217
            show Go _ _ _ _ _ _ _ _ _ _ _ _ h162 [x151, x132] 12 90 229 #[.val (.int p0), .val (.int p1), .val (.int p2), .val (.int p3), .val (.int p4), .val (.int p5), .val (.int sf_), .val (.int a0_), .val (.int a1_), .val (.int an), .val (.int b0_), .val (.int b1_), .val (.int bn), .val (.ref s106), .val (.ref s120), .val (.int li2), .val (.int co2), .val (.int kd), .val (.ref x132), .val (.ref x151), .val (.ref x151), .unset, .unset, .unset, .unset] [(.int (ob (mkS a0_ a1_ an = mkS b0_ b1_ bn ∧ p2 = li2 ∧ p3 = co2)))]
            obtain ⟨r, hr⟩ : ∃ z : Int32, z = ob (mkS a0_ a1_ an = mkS b0_ b1_ bn ∧ p2 = li2 ∧ p3 = co2) := ⟨_, rfl⟩
            rw [← hr]
            have hkk : ¬ kd < 2 := k_ge hk3 hk0 hk1
            refine go_istore at_229 rfl #[.val (.int p0), .val (.int p1), .val (.int p2), .val (.int p3), .val (.int p4), .val (.int p5), .val (.int sf_), .val (.int a0_), .val (.int a1_), .val (.int an), .val (.int b0_), .val (.int b1_), .val (.int bn), .val (.ref s106), .val (.ref s120), .val (.int li2), .val (.int co2), .val (.int kd), .val (.ref x132), .val (.ref x151), .val (.ref x151), .val (.int r), .unset, .unset, .unset] rfl ?_
            have J218 : ∀ (ef : Int32), (ef = ob (mkS a0_ a1_ an = mkS b0_ b1_ bn)) → Go l Z a0 ELc n0 room_1 "com/example/orderly_wiring/orderlywiring/interpreter/LocationEqualsPinLaw" code maxLocals ret "law" (fun v h' sf' => v = some (.int 1)) h162 [x151, x132] 12 90 263 #[.val (.int p0), .val (.int p1), .val (.int p2), .val (.int p3), .val (.int p4), .val (.int p5), .val (.int sf_), .val (.int a0_), .val (.int a1_), .val (.int an), .val (.int b0_), .val (.int b1_), .val (.int bn), .val (.ref s106), .val (.ref s120), .val (.int li2), .val (.int co2), .val (.int kd), .val (.ref x132), .val (.ref x151), .val (.ref x151), .val (.int r), .unset, .unset, .unset] [(.int ef)] := by
              intro ef hef
              refine go_istore at_263 rfl #[.val (.int p0), .val (.int p1), .val (.int p2), .val (.int p3), .val (.int p4), .val (.int p5), .val (.int sf_), .val (.int a0_), .val (.int a1_), .val (.int an), .val (.int b0_), .val (.int b1_), .val (.int bn), .val (.ref s106), .val (.ref s120), .val (.int li2), .val (.int co2), .val (.int kd), .val (.ref x132), .val (.ref x151), .val (.ref x151), .val (.int r), .val (.int ef), .unset, .unset] rfl ?_
              have J219 : ∀ (ex : Int32), (ex = r) → Go l Z a0 ELc n0 room_1 "com/example/orderly_wiring/orderlywiring/interpreter/LocationEqualsPinLaw" code maxLocals ret "law" (fun v h' sf' => v = some (.int 1)) h162 [x151, x132] 12 90 293 #[.val (.int p0), .val (.int p1), .val (.int p2), .val (.int p3), .val (.int p4), .val (.int p5), .val (.int sf_), .val (.int a0_), .val (.int a1_), .val (.int an), .val (.int b0_), .val (.int b1_), .val (.int bn), .val (.ref s106), .val (.ref s120), .val (.int li2), .val (.int co2), .val (.int kd), .val (.ref x132), .val (.ref x151), .val (.ref x151), .val (.int r), .val (.int ef), .unset, .unset] [(.int ex)] := by
                intro ex hex
                refine go_istore at_293 rfl #[.val (.int p0), .val (.int p1), .val (.int p2), .val (.int p3), .val (.int p4), .val (.int p5), .val (.int sf_), .val (.int a0_), .val (.int a1_), .val (.int an), .val (.int b0_), .val (.int b1_), .val (.int bn), .val (.ref s106), .val (.ref s120), .val (.int li2), .val (.int co2), .val (.int kd), .val (.ref x132), .val (.ref x151), .val (.ref x151), .val (.int r), .val (.int ef), .val (.int ex), .unset] rfl ?_
                have J220 : ∀ (u_ : True), Go l Z a0 ELc n0 room_1 "com/example/orderly_wiring/orderlywiring/interpreter/LocationEqualsPinLaw" code maxLocals ret "law" (fun v h' sf' => v = some (.int 1)) h162 [x151, x132] 12 90 318 #[.val (.int p0), .val (.int p1), .val (.int p2), .val (.int p3), .val (.int p4), .val (.int p5), .val (.int sf_), .val (.int a0_), .val (.int a1_), .val (.int an), .val (.int b0_), .val (.int b1_), .val (.int bn), .val (.ref s106), .val (.ref s120), .val (.int li2), .val (.int co2), .val (.int kd), .val (.ref x132), .val (.ref x151), .val (.ref x151), .val (.int r), .val (.int ef), .val (.int ex), .unset] [(.int 1)] := by
                  intro u_ 
                  refine go_istore at_318 rfl #[.val (.int p0), .val (.int p1), .val (.int p2), .val (.int p3), .val (.int p4), .val (.int p5), .val (.int sf_), .val (.int a0_), .val (.int a1_), .val (.int an), .val (.int b0_), .val (.int b1_), .val (.int bn), .val (.ref s106), .val (.ref s120), .val (.int li2), .val (.int co2), .val (.int kd), .val (.ref x132), .val (.ref x151), .val (.ref x151), .val (.int r), .val (.int ef), .val (.int ex), .val (.int 1)] rfl ?_
                  refine go_iload at_320 rfl rfl ?_
                  refine go_iload at_322 rfl rfl ?_
                  refine go_icmp_ne_f at_324 rfl hex.symm ?_
                  refine go_iload at_327 rfl rfl ?_
                  refine go_if_eq_f at_329 rfl (by decide) ?_
                  refine go_aload at_332 rfl rfl rfl ?_
                  refine go_aload at_334 rfl rfl rfl ?_
                  refine go_virtual x132 [(.ref x132)] [] 0 at_336 rfl F210 (wd hB 55 rfl) (wd hB 56 rfl) (nf_of (wd hB 58 rfl)) (wd hB 58 rfl) (wd hB 57 rfl) (wd hB 36 rfl) (wd hB 59 rfl) (c_loeqS hB F202 F210 F211 F212 F213) (fun _ q => nomatch q) (lenOf pd_7 rfl) rfl rfl rfl (by decide) (by decide) (by decide) (by decide) (by decide) (fun v221 h222 s223 q224 => ?_)
                  obtain ⟨rfl, rfl, rfl⟩ := q224
                  show Go _ _ _ _ _ _ _ _ _ _ _ _ h162 [x151, x132] 12 90 339 #[.val (.int p0), .val (.int p1), .val (.int p2), .val (.int p3), .val (.int p4), .val (.int p5), .val (.int sf_), .val (.int a0_), .val (.int a1_), .val (.int an), .val (.int b0_), .val (.int b1_), .val (.int bn), .val (.ref s106), .val (.ref s120), .val (.int li2), .val (.int co2), .val (.int kd), .val (.ref x132), .val (.ref x151), .val (.ref x151), .val (.int r), .val (.int ef), .val (.int ex), .val (.int 1)] [(.int 1)]
                  refine go_if_eq_f at_339 rfl (by decide) ?_
                  refine go_iconst 1 at_342 rfl (by decide) ?_
                  refine go_goto (pt := 347) at_343 (by decide) (by decide) ?_
                  refine go_retN (t := .boolean) at_347 [] rfl (by simp) (by decide) (by decide) (fun _ q => nomatch q) ?_
                  decide
                refine go_iload at_295 rfl rfl ?_
                refine go_iconst 2 at_297 rfl (by decide) ?_
                refine go_icmp_lt_f at_298 rfl hkk ?_
                refine go_aload at_301 rfl rfl rfl ?_
                refine go_aload at_303 rfl rfl rfl ?_
                refine go_virtual x151 [(.ref x132)] [] 0 at_305 rfl E166 (wd hB 55 rfl) (wd hB 56 rfl) (nf_of (wd hB 58 rfl)) (wd hB 58 rfl) (wd hB 57 rfl) (wd hB 36 rfl) (wd hB 59 rfl) (c_loeqD hB (mkS b0_ b1_ bn) (mkS_all hb0 hb1) (mkS_len _ _ _) (mkS a0_ a1_ an) (mkS_all ha0 ha1) (mkS_len _ _ _) (Ne.symm (Nat.ne_of_lt (Nat.lt_of_lt_of_le F112.lt g124))) F206 F207 F208 F209 F202 F203 F204 F205 E166 F167 F168 F169 F210 F211 F212 F213) (fun _ q => nomatch q) (lenOf pd_7 rfl) rfl rfl rfl (by decide) (by decide) (by decide) (by decide) (by decide) (fun v225 h226 s227 q228 => ?_)
                obtain ⟨rfl, rfl, rfl⟩ := q228
                show Go _ _ _ _ _ _ _ _ _ _ _ _ h162 [x151, x132] 12 90 308 #[.val (.int p0), .val (.int p1), .val (.int p2), .val (.int p3), .val (.int p4), .val (.int p5), .val (.int sf_), .val (.int a0_), .val (.int a1_), .val (.int an), .val (.int b0_), .val (.int b1_), .val (.int bn), .val (.ref s106), .val (.ref s120), .val (.int li2), .val (.int co2), .val (.int kd), .val (.ref x132), .val (.ref x151), .val (.ref x151), .val (.int r), .val (.int ef), .val (.int ex), .unset] [(.int (ob (mkS b0_ b1_ bn = mkS a0_ a1_ an ∧ li2 = p2 ∧ co2 = p3)))]
                refine go_iload at_308 rfl rfl ?_
                refine go_icmp_ne_f at_310 rfl (by rw [hr]; exact ob_swap) ?_
                refine go_iconst 1 at_313 rfl (by decide) ?_
                refine go_goto (pt := 318) at_314 (by decide) (by decide) ?_
                exact J220 trivial
              refine go_iload at_265 rfl rfl ?_
              refine go_iconst 2 at_267 rfl (by decide) ?_
              refine go_icmp_lt_f at_268 rfl hkk ?_
              refine go_iload at_271 rfl rfl ?_
              by_cases he_ : (ef = 0 : Prop)
              · refine go_if_eq_t (pt := 292) at_273 (by decide) (by decide) he_ ?_
                refine go_iconst 0 at_292 rfl (by decide) ?_
                exact J219 0 (hr.trans (ob_f (fun q => by first | exact hc2_ q.2.2 | exact hl_ q.2.1 | (rw [ob_t q.1] at hef; rw [hef] at he_; exact absurd he_ (by decide))))).symm
              · refine go_if_eq_f at_273 rfl he_ ?_
                refine go_iloadN at_276 rfl rfl ?_
                refine go_iload at_277 rfl rfl ?_
                by_cases hl_ : (p2 = li2 : Prop)
                · refine go_icmp_ne_f at_279 rfl hl_ ?_
                  refine go_iloadN at_282 rfl rfl ?_
                  refine go_iload at_283 rfl rfl ?_
                  by_cases hc2_ : (p3 = co2 : Prop)
                  · refine go_icmp_ne_f at_285 rfl hc2_ ?_
                    refine go_iconst 1 at_288 rfl (by decide) ?_
                    refine go_goto (pt := 293) at_289 (by decide) (by decide) ?_
                    exact J219 1 (hr.trans (ob_t ⟨Decidable.byContradiction fun q => he_ (hef.trans (ob_f q)), hl_, hc2_⟩)).symm
                  · refine go_icmp_ne_t (pt := 292) at_285 (by decide) (by decide) hc2_ ?_
                    refine go_iconst 0 at_292 rfl (by decide) ?_
                    exact J219 0 (hr.trans (ob_f (fun q => by first | exact hc2_ q.2.2 | exact hl_ q.2.1 | (rw [ob_t q.1] at hef; rw [hef] at he_; exact absurd he_ (by decide))))).symm
                · refine go_icmp_ne_t (pt := 292) at_279 (by decide) (by decide) hl_ ?_
                  refine go_iconst 0 at_292 rfl (by decide) ?_
                  exact J219 0 (hr.trans (ob_f (fun q => by first | exact hc2_ q.2.2 | exact hl_ q.2.1 | (rw [ob_t q.1] at hef; rw [hef] at he_; exact absurd he_ (by decide))))).symm
            refine go_iload at_231 rfl rfl ?_
            refine go_iload at_233 rfl rfl ?_
            by_cases ha_ : (an = bn : Prop)
            · refine go_icmp_ne_f at_235 rfl ha_ ?_
              refine go_iload at_238 rfl rfl ?_
              refine go_iload at_240 rfl rfl ?_
              by_cases hb_ : (a0_ = b0_ : Prop)
              · refine go_icmp_ne_f at_242 rfl hb_ ?_
                refine go_iload at_245 rfl rfl ?_
                refine go_iconst 1 at_247 rfl (by decide) ?_
                by_cases hc_ : (an = 1 : Prop)
                · refine go_icmp_eq_t (pt := 258) at_248 (by decide) (by decide) hc_ ?_
                  refine go_iconst 1 at_258 rfl (by decide) ?_
                  refine go_goto (pt := 263) at_259 (by decide) (by decide) ?_
                  exact J218 1 (ob_t ((mkS_eq hn hm).mpr ⟨ha_, hb_, Or.inl hc_⟩)).symm
                · refine go_icmp_eq_f at_248 rfl hc_ ?_
                  refine go_iload at_251 rfl rfl ?_
                  refine go_iload at_253 rfl rfl ?_
                  by_cases hd_ : (a1_ = b1_ : Prop)
                  · refine go_icmp_ne_f at_255 rfl hd_ ?_
                    refine go_iconst 1 at_258 rfl (by decide) ?_
                    refine go_goto (pt := 263) at_259 (by decide) (by decide) ?_
                    exact J218 1 (ob_t ((mkS_eq hn hm).mpr ⟨ha_, hb_, Or.inr hd_⟩)).symm
                  · refine go_icmp_ne_t (pt := 262) at_255 (by decide) (by decide) hd_ ?_
                    refine go_iconst 0 at_262 rfl (by decide) ?_
                    exact J218 0 (ob_f (fun q => by have q := (mkS_eq hn hm).mp q; first | exact ha_ q.1 | exact hb_ q.2.1 | exact q.2.2.elim hc_ hd_)).symm
              · refine go_icmp_ne_t (pt := 262) at_242 (by decide) (by decide) hb_ ?_
                refine go_iconst 0 at_262 rfl (by decide) ?_
                exact J218 0 (ob_f (fun q => by have q := (mkS_eq hn hm).mp q; first | exact ha_ q.1 | exact hb_ q.2.1 | exact q.2.2.elim hc_ hd_)).symm
            · refine go_icmp_ne_t (pt := 262) at_235 (by decide) (by decide) ha_ ?_
              refine go_iconst 0 at_262 rfl (by decide) ?_
              exact J218 0 (ob_f (fun q => by have q := (mkS_eq hn hm).mp q; first | exact ha_ q.1 | exact hb_ q.2.1 | exact q.2.2.elim hc_ hd_)).symm
      refine go_iload at_141 rfl rfl ?_
      refine go_iconst 4 at_143 rfl (by decide) ?_
      refine go_iand at_144 rfl ?_
      by_cases hw_ : ((p5 &&& 4) = 0 : Prop)
      · refine go_if_eq_t (pt := 152) at_145 (by decide) (by decide) hw_ ?_
        refine go_iload at_152 rfl rfl ?_
        refine go_iconst 5 at_154 rfl (by decide) ?_
        refine go_ishr at_155 rfl ?_
        exact J131 (p5 >>> (5 &&& 31))
      · refine go_if_eq_f at_145 rfl hw_ ?_
        refine go_iloadN at_148 rfl rfl ?_
        refine go_goto (pt := 156) at_149 (by decide) (by decide) ?_
        exact J131 p3
    refine go_iload at_126 rfl rfl ?_
    refine go_iconst 2 at_128 rfl (by decide) ?_
    refine go_iand at_129 rfl ?_
    by_cases hv_ : ((p5 &&& 2) = 0 : Prop)
    · refine go_if_eq_t (pt := 137) at_130 (by decide) (by decide) hv_ ?_
      refine go_iload at_137 rfl rfl ?_
      exact J130 p4
    · refine go_if_eq_f at_130 rfl hv_ ?_
      refine go_iloadN at_133 rfl rfl ?_
      refine go_goto (pt := 139) at_134 (by decide) (by decide) ?_
      exact J130 p2
  refine go_iload at_0 rfl rfl ?_
  refine go_iconst 1 at_2 rfl (by decide) ?_
  refine go_iand at_3 rfl ?_
  by_cases hs_ : ((p5 &&& 1) = 0 : Prop)
  · refine go_if_eq_t (pt := 11) at_4 (by decide) (by decide) hs_ ?_
    refine go_iconst 0 at_11 rfl (by decide) ?_
    refine go_istore at_12 rfl #[.val (.int p0), .val (.int p1), .val (.int p2), .val (.int p3), .val (.int p4), .val (.int p5), .val (.int 0), .unset, .unset, .unset, .unset, .unset, .unset, .unset, .unset, .unset, .unset, .unset, .unset, .unset, .unset, .unset, .unset, .unset, .unset] rfl ?_
    refine go_iloadN at_14 rfl rfl ?_
    refine go_sipush 255 at_15 rfl (by decide) ?_
    refine go_iand at_18 rfl ?_
    refine go_i2c at_19 rfl ?_
    rw [i2c_mask]
    refine go_istore at_20 rfl #[.val (.int p0), .val (.int p1), .val (.int p2), .val (.int p3), .val (.int p4), .val (.int p5), .val (.int 0), .val (.int (p0 &&& 255)), .unset, .unset, .unset, .unset, .unset, .unset, .unset, .unset, .unset, .unset, .unset, .unset, .unset, .unset, .unset, .unset, .unset] rfl ?_
    refine go_iloadN at_22 rfl rfl ?_
    refine go_bipush 8 at_23 rfl (by decide) ?_
    refine go_iushr at_25 rfl ?_
    refine go_sipush 255 at_26 rfl (by decide) ?_
    refine go_iand at_29 rfl ?_
    refine go_i2c at_30 rfl ?_
    rw [i2c_mask]
    refine go_istore at_31 rfl #[.val (.int p0), .val (.int p1), .val (.int p2), .val (.int p3), .val (.int p4), .val (.int p5), .val (.int 0), .val (.int (p0 &&& 255)), .val (.int ((XT.ushr p0 8) &&& 255)), .unset, .unset, .unset, .unset, .unset, .unset, .unset, .unset, .unset, .unset, .unset, .unset, .unset, .unset, .unset, .unset] rfl ?_
    refine go_iloadN at_33 rfl rfl ?_
    refine go_bipush 16 at_34 rfl (by decide) ?_
    refine go_iushr at_36 rfl ?_
    refine go_iconst 1 at_37 rfl (by decide) ?_
    refine go_iand at_38 rfl ?_
    by_cases hA_ : (((XT.ushr p0 16) &&& 1) = 0 : Prop)
    · refine go_if_ne_f at_39 rfl hA_ ?_
      refine go_iconst 1 at_42 rfl (by decide) ?_
      refine go_goto (pt := 47) at_43 (by decide) (by decide) ?_
      refine go_istore at_47 rfl #[.val (.int p0), .val (.int p1), .val (.int p2), .val (.int p3), .val (.int p4), .val (.int p5), .val (.int 0), .val (.int (p0 &&& 255)), .val (.int ((XT.ushr p0 8) &&& 255)), .val (.int 1), .unset, .unset, .unset, .unset, .unset, .unset, .unset, .unset, .unset, .unset, .unset, .unset, .unset, .unset, .unset] rfl ?_
      refine go_iload at_49 rfl rfl ?_
      refine go_if_eq_t (pt := 69) at_51 (by decide) (by decide) (by decide) ?_
      refine go_iloadN at_69 rfl rfl ?_
      refine go_sipush 255 at_70 rfl (by decide) ?_
      refine go_iand at_73 rfl ?_
      refine go_i2c at_74 rfl ?_
      rw [i2c_mask]
      refine go_istore at_75 rfl #[.val (.int p0), .val (.int p1), .val (.int p2), .val (.int p3), .val (.int p4), .val (.int p5), .val (.int 0), .val (.int (p0 &&& 255)), .val (.int ((XT.ushr p0 8) &&& 255)), .val (.int 1), .val (.int (p1 &&& 255)), .unset, .unset, .unset, .unset, .unset, .unset, .unset, .unset, .unset, .unset, .unset, .unset, .unset, .unset] rfl ?_
      refine go_iloadN at_77 rfl rfl ?_
      refine go_bipush 8 at_78 rfl (by decide) ?_
      refine go_iushr at_80 rfl ?_
      refine go_sipush 255 at_81 rfl (by decide) ?_
      refine go_iand at_84 rfl ?_
      refine go_i2c at_85 rfl ?_
      rw [i2c_mask]
      refine go_istore at_86 rfl #[.val (.int p0), .val (.int p1), .val (.int p2), .val (.int p3), .val (.int p4), .val (.int p5), .val (.int 0), .val (.int (p0 &&& 255)), .val (.int ((XT.ushr p0 8) &&& 255)), .val (.int 1), .val (.int (p1 &&& 255)), .val (.int ((XT.ushr p1 8) &&& 255)), .unset, .unset, .unset, .unset, .unset, .unset, .unset, .unset, .unset, .unset, .unset, .unset, .unset] rfl ?_
      refine go_iloadN at_88 rfl rfl ?_
      refine go_bipush 16 at_89 rfl (by decide) ?_
      refine go_iushr at_91 rfl ?_
      refine go_iconst 1 at_92 rfl (by decide) ?_
      refine go_iand at_93 rfl ?_
      by_cases hB_ : (((XT.ushr p1 16) &&& 1) = 0 : Prop)
      · refine go_if_ne_f at_94 rfl hB_ ?_
        refine go_iconst 1 at_97 rfl (by decide) ?_
        refine go_goto (pt := 102) at_98 (by decide) (by decide) ?_
        refine go_istore at_102 rfl #[.val (.int p0), .val (.int p1), .val (.int p2), .val (.int p3), .val (.int p4), .val (.int p5), .val (.int 0), .val (.int (p0 &&& 255)), .val (.int ((XT.ushr p0 8) &&& 255)), .val (.int 1), .val (.int (p1 &&& 255)), .val (.int ((XT.ushr p1 8) &&& 255)), .val (.int 1), .unset, .unset, .unset, .unset, .unset, .unset, .unset, .unset, .unset, .unset, .unset, .unset] rfl ?_
        exact J101 0 (p0 &&& 255) ((XT.ushr p0 8) &&& 255) 1 (p1 &&& 255) ((XT.ushr p1 8) &&& 255) 1 (isC_and _) (isC_and _) (Or.inl rfl) (isC_and _) (isC_and _) (Or.inl rfl)
      · refine go_if_ne_t (pt := 101) at_94 (by decide) (by decide) hB_ ?_
        refine go_iconst 2 at_101 rfl (by decide) ?_
        refine go_istore at_102 rfl #[.val (.int p0), .val (.int p1), .val (.int p2), .val (.int p3), .val (.int p4), .val (.int p5), .val (.int 0), .val (.int (p0 &&& 255)), .val (.int ((XT.ushr p0 8) &&& 255)), .val (.int 1), .val (.int (p1 &&& 255)), .val (.int ((XT.ushr p1 8) &&& 255)), .val (.int 2), .unset, .unset, .unset, .unset, .unset, .unset, .unset, .unset, .unset, .unset, .unset, .unset] rfl ?_
        exact J101 0 (p0 &&& 255) ((XT.ushr p0 8) &&& 255) 1 (p1 &&& 255) ((XT.ushr p1 8) &&& 255) 2 (isC_and _) (isC_and _) (Or.inl rfl) (isC_and _) (isC_and _) (Or.inr rfl)
    · refine go_if_ne_t (pt := 46) at_39 (by decide) (by decide) hA_ ?_
      refine go_iconst 2 at_46 rfl (by decide) ?_
      refine go_istore at_47 rfl #[.val (.int p0), .val (.int p1), .val (.int p2), .val (.int p3), .val (.int p4), .val (.int p5), .val (.int 0), .val (.int (p0 &&& 255)), .val (.int ((XT.ushr p0 8) &&& 255)), .val (.int 2), .unset, .unset, .unset, .unset, .unset, .unset, .unset, .unset, .unset, .unset, .unset, .unset, .unset, .unset, .unset] rfl ?_
      refine go_iload at_49 rfl rfl ?_
      refine go_if_eq_t (pt := 69) at_51 (by decide) (by decide) (by decide) ?_
      refine go_iloadN at_69 rfl rfl ?_
      refine go_sipush 255 at_70 rfl (by decide) ?_
      refine go_iand at_73 rfl ?_
      refine go_i2c at_74 rfl ?_
      rw [i2c_mask]
      refine go_istore at_75 rfl #[.val (.int p0), .val (.int p1), .val (.int p2), .val (.int p3), .val (.int p4), .val (.int p5), .val (.int 0), .val (.int (p0 &&& 255)), .val (.int ((XT.ushr p0 8) &&& 255)), .val (.int 2), .val (.int (p1 &&& 255)), .unset, .unset, .unset, .unset, .unset, .unset, .unset, .unset, .unset, .unset, .unset, .unset, .unset, .unset] rfl ?_
      refine go_iloadN at_77 rfl rfl ?_
      refine go_bipush 8 at_78 rfl (by decide) ?_
      refine go_iushr at_80 rfl ?_
      refine go_sipush 255 at_81 rfl (by decide) ?_
      refine go_iand at_84 rfl ?_
      refine go_i2c at_85 rfl ?_
      rw [i2c_mask]
      refine go_istore at_86 rfl #[.val (.int p0), .val (.int p1), .val (.int p2), .val (.int p3), .val (.int p4), .val (.int p5), .val (.int 0), .val (.int (p0 &&& 255)), .val (.int ((XT.ushr p0 8) &&& 255)), .val (.int 2), .val (.int (p1 &&& 255)), .val (.int ((XT.ushr p1 8) &&& 255)), .unset, .unset, .unset, .unset, .unset, .unset, .unset, .unset, .unset, .unset, .unset, .unset, .unset] rfl ?_
      refine go_iloadN at_88 rfl rfl ?_
      refine go_bipush 16 at_89 rfl (by decide) ?_
      refine go_iushr at_91 rfl ?_
      refine go_iconst 1 at_92 rfl (by decide) ?_
      refine go_iand at_93 rfl ?_
      by_cases hB_ : (((XT.ushr p1 16) &&& 1) = 0 : Prop)
      · refine go_if_ne_f at_94 rfl hB_ ?_
        refine go_iconst 1 at_97 rfl (by decide) ?_
        refine go_goto (pt := 102) at_98 (by decide) (by decide) ?_
        refine go_istore at_102 rfl #[.val (.int p0), .val (.int p1), .val (.int p2), .val (.int p3), .val (.int p4), .val (.int p5), .val (.int 0), .val (.int (p0 &&& 255)), .val (.int ((XT.ushr p0 8) &&& 255)), .val (.int 2), .val (.int (p1 &&& 255)), .val (.int ((XT.ushr p1 8) &&& 255)), .val (.int 1), .unset, .unset, .unset, .unset, .unset, .unset, .unset, .unset, .unset, .unset, .unset, .unset] rfl ?_
        exact J101 0 (p0 &&& 255) ((XT.ushr p0 8) &&& 255) 2 (p1 &&& 255) ((XT.ushr p1 8) &&& 255) 1 (isC_and _) (isC_and _) (Or.inr rfl) (isC_and _) (isC_and _) (Or.inl rfl)
      · refine go_if_ne_t (pt := 101) at_94 (by decide) (by decide) hB_ ?_
        refine go_iconst 2 at_101 rfl (by decide) ?_
        refine go_istore at_102 rfl #[.val (.int p0), .val (.int p1), .val (.int p2), .val (.int p3), .val (.int p4), .val (.int p5), .val (.int 0), .val (.int (p0 &&& 255)), .val (.int ((XT.ushr p0 8) &&& 255)), .val (.int 2), .val (.int (p1 &&& 255)), .val (.int ((XT.ushr p1 8) &&& 255)), .val (.int 2), .unset, .unset, .unset, .unset, .unset, .unset, .unset, .unset, .unset, .unset, .unset, .unset] rfl ?_
        exact J101 0 (p0 &&& 255) ((XT.ushr p0 8) &&& 255) 2 (p1 &&& 255) ((XT.ushr p1 8) &&& 255) 2 (isC_and _) (isC_and _) (Or.inr rfl) (isC_and _) (isC_and _) (Or.inr rfl)
  · refine go_if_eq_f at_4 rfl hs_ ?_
    refine go_iconst 1 at_7 rfl (by decide) ?_
    refine go_goto (pt := 12) at_8 (by decide) (by decide) ?_
    refine go_istore at_12 rfl #[.val (.int p0), .val (.int p1), .val (.int p2), .val (.int p3), .val (.int p4), .val (.int p5), .val (.int 1), .unset, .unset, .unset, .unset, .unset, .unset, .unset, .unset, .unset, .unset, .unset, .unset, .unset, .unset, .unset, .unset, .unset, .unset] rfl ?_
    refine go_iloadN at_14 rfl rfl ?_
    refine go_sipush 255 at_15 rfl (by decide) ?_
    refine go_iand at_18 rfl ?_
    refine go_i2c at_19 rfl ?_
    rw [i2c_mask]
    refine go_istore at_20 rfl #[.val (.int p0), .val (.int p1), .val (.int p2), .val (.int p3), .val (.int p4), .val (.int p5), .val (.int 1), .val (.int (p0 &&& 255)), .unset, .unset, .unset, .unset, .unset, .unset, .unset, .unset, .unset, .unset, .unset, .unset, .unset, .unset, .unset, .unset, .unset] rfl ?_
    refine go_iloadN at_22 rfl rfl ?_
    refine go_bipush 8 at_23 rfl (by decide) ?_
    refine go_iushr at_25 rfl ?_
    refine go_sipush 255 at_26 rfl (by decide) ?_
    refine go_iand at_29 rfl ?_
    refine go_i2c at_30 rfl ?_
    rw [i2c_mask]
    refine go_istore at_31 rfl #[.val (.int p0), .val (.int p1), .val (.int p2), .val (.int p3), .val (.int p4), .val (.int p5), .val (.int 1), .val (.int (p0 &&& 255)), .val (.int ((XT.ushr p0 8) &&& 255)), .unset, .unset, .unset, .unset, .unset, .unset, .unset, .unset, .unset, .unset, .unset, .unset, .unset, .unset, .unset, .unset] rfl ?_
    refine go_iloadN at_33 rfl rfl ?_
    refine go_bipush 16 at_34 rfl (by decide) ?_
    refine go_iushr at_36 rfl ?_
    refine go_iconst 1 at_37 rfl (by decide) ?_
    refine go_iand at_38 rfl ?_
    by_cases hA_ : (((XT.ushr p0 16) &&& 1) = 0 : Prop)
    · refine go_if_ne_f at_39 rfl hA_ ?_
      refine go_iconst 1 at_42 rfl (by decide) ?_
      refine go_goto (pt := 47) at_43 (by decide) (by decide) ?_
      refine go_istore at_47 rfl #[.val (.int p0), .val (.int p1), .val (.int p2), .val (.int p3), .val (.int p4), .val (.int p5), .val (.int 1), .val (.int (p0 &&& 255)), .val (.int ((XT.ushr p0 8) &&& 255)), .val (.int 1), .unset, .unset, .unset, .unset, .unset, .unset, .unset, .unset, .unset, .unset, .unset, .unset, .unset, .unset, .unset] rfl ?_
      refine go_iload at_49 rfl rfl ?_
      refine go_if_eq_f at_51 rfl (by decide) ?_
      refine go_iload at_54 rfl rfl ?_
      refine go_istore at_56 rfl #[.val (.int p0), .val (.int p1), .val (.int p2), .val (.int p3), .val (.int p4), .val (.int p5), .val (.int 1), .val (.int (p0 &&& 255)), .val (.int ((XT.ushr p0 8) &&& 255)), .val (.int 1), .val (.int (p0 &&& 255)), .unset, .unset, .unset, .unset, .unset, .unset, .unset, .unset, .unset, .unset, .unset, .unset, .unset, .unset] rfl ?_
      refine go_iload at_58 rfl rfl ?_
      refine go_istore at_60 rfl #[.val (.int p0), .val (.int p1), .val (.int p2), .val (.int p3), .val (.int p4), .val (.int p5), .val (.int 1), .val (.int (p0 &&& 255)), .val (.int ((XT.ushr p0 8) &&& 255)), .val (.int 1), .val (.int (p0 &&& 255)), .val (.int ((XT.ushr p0 8) &&& 255)), .unset, .unset, .unset, .unset, .unset, .unset, .unset, .unset, .unset, .unset, .unset, .unset, .unset] rfl ?_
      refine go_iload at_62 rfl rfl ?_
      refine go_istore at_64 rfl #[.val (.int p0), .val (.int p1), .val (.int p2), .val (.int p3), .val (.int p4), .val (.int p5), .val (.int 1), .val (.int (p0 &&& 255)), .val (.int ((XT.ushr p0 8) &&& 255)), .val (.int 1), .val (.int (p0 &&& 255)), .val (.int ((XT.ushr p0 8) &&& 255)), .val (.int 1), .unset, .unset, .unset, .unset, .unset, .unset, .unset, .unset, .unset, .unset, .unset, .unset] rfl ?_
      refine go_goto (pt := 104) at_66 (by decide) (by decide) ?_
      exact J101 1 (p0 &&& 255) ((XT.ushr p0 8) &&& 255) 1 (p0 &&& 255) ((XT.ushr p0 8) &&& 255) 1 (isC_and _) (isC_and _) (Or.inl rfl) (isC_and _) (isC_and _) (Or.inl rfl)
    · refine go_if_ne_t (pt := 46) at_39 (by decide) (by decide) hA_ ?_
      refine go_iconst 2 at_46 rfl (by decide) ?_
      refine go_istore at_47 rfl #[.val (.int p0), .val (.int p1), .val (.int p2), .val (.int p3), .val (.int p4), .val (.int p5), .val (.int 1), .val (.int (p0 &&& 255)), .val (.int ((XT.ushr p0 8) &&& 255)), .val (.int 2), .unset, .unset, .unset, .unset, .unset, .unset, .unset, .unset, .unset, .unset, .unset, .unset, .unset, .unset, .unset] rfl ?_
      refine go_iload at_49 rfl rfl ?_
      refine go_if_eq_f at_51 rfl (by decide) ?_
      refine go_iload at_54 rfl rfl ?_
      refine go_istore at_56 rfl #[.val (.int p0), .val (.int p1), .val (.int p2), .val (.int p3), .val (.int p4), .val (.int p5), .val (.int 1), .val (.int (p0 &&& 255)), .val (.int ((XT.ushr p0 8) &&& 255)), .val (.int 2), .val (.int (p0 &&& 255)), .unset, .unset, .unset, .unset, .unset, .unset, .unset, .unset, .unset, .unset, .unset, .unset, .unset, .unset] rfl ?_
      refine go_iload at_58 rfl rfl ?_
      refine go_istore at_60 rfl #[.val (.int p0), .val (.int p1), .val (.int p2), .val (.int p3), .val (.int p4), .val (.int p5), .val (.int 1), .val (.int (p0 &&& 255)), .val (.int ((XT.ushr p0 8) &&& 255)), .val (.int 2), .val (.int (p0 &&& 255)), .val (.int ((XT.ushr p0 8) &&& 255)), .unset, .unset, .unset, .unset, .unset, .unset, .unset, .unset, .unset, .unset, .unset, .unset, .unset] rfl ?_
      refine go_iload at_62 rfl rfl ?_
      refine go_istore at_64 rfl #[.val (.int p0), .val (.int p1), .val (.int p2), .val (.int p3), .val (.int p4), .val (.int p5), .val (.int 1), .val (.int (p0 &&& 255)), .val (.int ((XT.ushr p0 8) &&& 255)), .val (.int 2), .val (.int (p0 &&& 255)), .val (.int ((XT.ushr p0 8) &&& 255)), .val (.int 2), .unset, .unset, .unset, .unset, .unset, .unset, .unset, .unset, .unset, .unset, .unset, .unset] rfl ?_
      refine go_goto (pt := 104) at_66 (by decide) (by decide) ?_
      exact J101 1 (p0 &&& 255) ((XT.ushr p0 8) &&& 255) 2 (p0 &&& 255) ((XT.ushr p0 8) &&& 255) 2 (isC_and _) (isC_and _) (Or.inr rfl) (isC_and _) (isC_and _) (Or.inr rfl)
set_option maxRecDepth 65536 in
set_option maxHeartbeats 40000000 in
theorem comes_1 {Post : Tables → Env → Array Value → State → Outcome → State → Prop} (hpost : ∀ tb e args s v u, (limb_1_1.after args s (.returned v) u = true ∧ limb_1_2.after args s (.returned v) u = true ∧ True) → ReturnedEndW s (.returned v) u (Jvm.fieldLocs frame_1_writes args s ++ Jvm.arrayLocs frame_1_arrays args s ++ Jvm.staticLocs frame_1_statics s) 32 1152 → Post tb e args s (.returned v) u) :
    ArmFor flags0 classFile x code maxLocals ret World_1 tables_1 room_1 Calls_1 rest_1 Pre_1 Post := by
  intro l hfl _ _ p e ha hc hk s m args below hf hA hF happ hP
  obtain ⟨hcalls, hrest, hpre⟩ := hP
  obtain ⟨-, -, -, hnamed, -, -, -, hat⟩ := (Spec.applies_iff hf).mp happ
  obtain ⟨hg, hn⟩ := and_e (Cond.before_iff.mp (show (Jvm.Cond.and given_1 narrow_1).before args s = true from hpre))
  obtain ⟨hcount, hr_0⟩ := and_e hg
  obtain ⟨hk_0, hr_1⟩ := and_e hr_0
  obtain ⟨hk_1, hr_2⟩ := and_e hr_1
  obtain ⟨hk_2, hr_3⟩ := and_e hr_2
  obtain ⟨hk_3, hr_4⟩ := and_e hr_3
  obtain ⟨hk_4, hr_5⟩ := and_e hr_4
  have hk_5 := hr_5
  obtain ⟨w0, w1, w2, w3, w4, w5, rfl⟩ : ∃ w0 w1 w2 w3 w4 w5 : Value, args = #[w0, w1, w2, w3, w4, w5] := by
    have hs : args.size = 6 := by simpa [Cond.value, given_1] using hcount
    obtain ⟨L⟩ := args
    match L, hs with
    | [w0, w1, w2, w3, w4, w5], _ => exact ⟨w0, w1, w2, w3, w4, w5, rfl⟩
  have hw := fun d (hd : d ∈ tables_1) => atoms_spec (ws := Jvm.Cond.code x code maxLocals ret :: tables_1) hat d (List.mem_cons_of_mem _ hd)
  obtain ⟨hsets, hown0⟩ := atoms_of _ (rest_1_c_eq ▸ (show rest_1_c.before _ s = true from hrest))
  have hfit : Fit s := fun {y c} hc i hi => by
    obtain ⟨ha, rfl⟩ := Array.getElem?_eq_some_iff.mp hc
    have q := List.all_eq_true.mp ((Array.all_eq_true_iff_forall_mem.mp hF) _ (Array.getElem_mem ha)) i (List.mem_range.mpr hi)
    simpa [Array.getElem?_eq_getElem hi] using q
  obtain ⟨p0, e_0⟩ := is_v hk_0
  obtain rfl : w0 = (.int p0) := Option.some.inj e_0
  obtain ⟨p1, e_1⟩ := is_v hk_1
  obtain rfl : w1 = (.int p1) := Option.some.inj e_1
  obtain ⟨p2, e_2⟩ := is_v hk_2
  obtain rfl : w2 = (.int p2) := Option.some.inj e_2
  obtain ⟨p3, e_3⟩ := is_v hk_3
  obtain rfl : w3 = (.int p3) := Option.some.inj e_3
  obtain ⟨p4, e_4⟩ := is_v hk_4
  obtain rfl : w4 = (.int p4) := Option.some.inj e_4
  obtain ⟨p5, e_5⟩ := is_v hk_5
  obtain rfl : w5 = (.int p5) := Option.some.inj e_5
  obtain ⟨cz, e_cz⟩ := is_v (Cond.before_iff.mp (hsets _ (List.mem_of_getElem? (i := 1) rfl)))
  have S_cs : Sta s s.heap "java/lang/String" "COMPACT_STRINGS" "Z" (.int cz) := Sta.start e_cz (Or.inl (hsets _ (List.mem_of_getElem? (i := 0) rfl)))
  have c_cs : ¬ (cz = (0 : Int32)) := gotF (Cond.eq_ints e_cz (Term.int_eval (0))) (not_v (Cond.before_iff.mp (hsets _ (List.mem_of_getElem? (i := 2) rfl))))
  have hEW : EW s #[.int p0, .int p1, .int p2, .int p3, .int p4, .int p5] ELc := EW.nil
  have hCH : CHv s ELc s.vm s.heap := fun q hq => by cases hq
  have hB : Base s #[.int p0, .int p1, .int p2, .int p3, .int p4, .int p5] := ⟨hw, hEW, ⟨cz, S_cs, c_cs⟩, trivial⟩
  obtain ⟨n, o, h1, h2, h3, v, L, sf', rfl, rfl, N, -, -, -, hq⟩ := c_law (l := l) (n0 := s.heap.size) hB tables_1 p0 p1 p2 p3 p4 p5 (h := s.heap) p e ha hc hk s m _ below hf ((Spec.applies_iff_loose hf).mp happ).1 ⟨rfl, State.Warmed39.refl s, rfl, hCH, OwnL.nil, Old.start s⟩ trivial
  refine ⟨n, _, h1, h2, h3, hpost _ _ _ _ _ _ ⟨Cond.after_iff.mpr rfl, Cond.after_iff.mpr (eq_i res_at (Term.int_eval (1)) rfl), trivial⟩ ⟨hq.1, hq.2.1, hq.2.2.1, (hq.2.2.2.sift fun y hy => Or.inr (N y hy)).mono (by decide) (by decide)⟩⟩
theorem main_1_1 : Claimed_1_1 := comes_1 fun _ _ _ _ _ _ h hF => ⟨h.1, hF⟩
theorem main_1_2 : Claimed_1_2 := comes_1 fun _ _ _ _ _ _ h hF => ⟨h.2.1, hF⟩
end Jvm.Pilot.@@N@@
namespace Jvm.Pilot.@@N@@
open Jvm Jvm.ClassFile Sem Op Lib Jvm.Free Jvm.Stand Jvm.Pilot.@@N@@.Jvm.D
/-! MADE BY PROGRAM (witnessworld.py) out of the Statement's table words and the real class files: 21 classes; the members and pool entries that the words name. The judged class is class 1, her method 1. -/
namespace start1
open Jvm.ClassFile
def u (s : String) : CpInfo := .utf8 (stringToUtf16 s)
/-- a pool by its gaps: so many unusable entries, then the entry; so many at the end -/
def gap : Nat → List CpInfo → List CpInfo
  | 0, r => r
  | n + 1, r => .unusable :: gap n r
def poolList (es : List (Nat × CpInfo)) (last : Nat) : List CpInfo := es.foldr (fun e r => gap e.1 (e.2 :: r)) (gap last [])
def pool (es : List (Nat × CpInfo)) (last : Nat) : Array CpInfo := ⟨poolList es last⟩
def fileOf (pool : Array CpInfo) (this : Nat) (attrs : Array Attribute := #[]) (ms : Array MethodInfo := #[]) (fl : Nat := 33) (sup : Nat := 0) (ifs : Array Nat := #[]) (fds : Array FieldInfo := #[]) : ClassFile where
  minorVersion := 0
  majorVersion := 65
  constantPool := pool
  accessFlags := fl
  thisClass := this
  superClass := sup
  interfaces := ifs
  fields := fds
  methods := ms
  attributes := attrs
def plain (name : String) (sup : Option ClassId) : Class where
  name := name
  kind := .ordinary
  loader := none
  accessFlags := 33
  super := sup
  interfaces := #[]
  cf := none
  fields := #[]
  methods := #[]
  instanceTypes := #[]
  staticTypes := #[]
  resolved := #[]
  callSites := []
  init := .initialized
  statics := none
  mirror := none

def pool0 : Array CpInfo := pool [(5, u "<init>"), (0, u "()V"), (1, .class_ 10), (1, u "java/lang/Object")] 113

def k0c0 : Code := { maxStack := 0, maxLocals := 1, code := object_method_1_code, exceptionTable := #[], attributes := #[] }
def k0m0 : Method := { name := "<init>", desc := "()V", sig := { parameters := [], returnType := none }, accessFlags := 1, code := some k0c0 }
/-- java/lang/Object -/
def k0 : Class := { plain "java/lang/Object" none with
  accessFlags := 33
  interfaces := #[]
  cf := some (fileOf pool0 8 #[] #[{ accessFlags := 1, nameIndex := 5, descriptorIndex := 6, attributes := #[] }] 33 0 #[] #[])
  fields := #[]
  methods := #[k0m0]
  instanceTypes := #[]
  staticTypes := #[]
  resolved := Array.replicate 124 none
  statics := none }

def pool1 : Array CpInfo := pool [(2, .class_ 4), (1, u "java/lang/Object"), (0, u "<init>"), (0, u "()V"), (0, .methodref 8 9), (0, .class_ 10), (0, .nameAndType 11 12), (0, u "com/example/orderly_wiring/orderlywiring/interpreter/LocationEqualsPinLaw"), (0, u "make"), (0, u "(CCI)Ljava/lang/String;"), (0, .class_ 14), (0, u "com/example/orderly_wiring/orderlywiring/interpreter/Location"), (0, .methodref 13 16), (0, .nameAndType 5 17), (0, u "(Ljava/lang/String;II)V"), (0, .methodref 13 19), (0, .nameAndType 20 21), (0, u "equals"), (0, u "(Ljava/lang/Object;)Z"), (0, .class_ 23), (0, u "java/lang/String"), (0, .methodref 22 25), (0, .nameAndType 5 26), (0, u "([C)V"), (2, u "law"), (0, u "(IIIIII)Z")] 3

def k1m0 : Method := { name := "<init>", desc := "()V", sig := { parameters := [], returnType := none }, accessFlags := 1, code := none }
def k1c1 : Code := { maxStack := 5, maxLocals := 25, code := code, exceptionTable := #[], attributes := #[] }
def k1m1 : Method := { name := "law", desc := "(IIIIII)Z", sig := { parameters := [.int, .int, .int, .int, .int, .int], returnType := some .boolean }, accessFlags := 9, code := some k1c1 }
def k1c2 : Code := { maxStack := 6, maxLocals := 3, code := method_3_code, exceptionTable := #[], attributes := #[] }
def k1m2 : Method := { name := "make", desc := "(CCI)Ljava/lang/String;", sig := { parameters := [.char, .char, .int], returnType := some (.object "java/lang/String") }, accessFlags := 10, code := some k1c2 }
/-- com/example/orderly_wiring/orderlywiring/interpreter/LocationEqualsPinLaw -/
def k1 : Class := { plain "com/example/orderly_wiring/orderlywiring/interpreter/LocationEqualsPinLaw" (some 0) with
  accessFlags := 49
  interfaces := #[]
  cf := some (fileOf pool1 8 #[] #[{ accessFlags := 1, nameIndex := 5, descriptorIndex := 6, attributes := #[] }, { accessFlags := 9, nameIndex := 29, descriptorIndex := 30, attributes := #[] }, { accessFlags := 10, nameIndex := 11, descriptorIndex := 12, attributes := #[] }] 49 2 #[] #[])
  fields := #[]
  methods := #[k1m0, k1m1, k1m2]
  instanceTypes := #[]
  staticTypes := #[]
  resolved := Array.replicate 34 none
  statics := none }

def pool2 : Array CpInfo := pool [(1, .class_ 2), (0, u "java/io/Serializable"), (0, .class_ 4), (0, u "java/lang/Object")] 2

/-- java/io/Serializable -/
def k2 : Class := { plain "java/io/Serializable" (some 0) with
  accessFlags := 1537
  interfaces := #[]
  cf := some (fileOf pool2 1 #[] #[] 1537 3 #[] #[])
  fields := #[]
  methods := #[]
  instanceTypes := #[]
  staticTypes := #[]
  resolved := Array.replicate 7 none
  statics := none }

def pool3 : Array CpInfo := pool [(1, .class_ 2), (0, u "java/lang/Comparable"), (0, .class_ 4), (0, u "java/lang/Object")] 7

/-- java/lang/Comparable -/
def k3 : Class := { plain "java/lang/Comparable" (some 0) with
  accessFlags := 1537
  interfaces := #[]
  cf := some (fileOf pool3 1 #[] #[] 1537 3 #[] #[])
  fields := #[]
  methods := #[]
  instanceTypes := #[]
  staticTypes := #[]
  resolved := Array.replicate 12 none
  statics := none }

def pool4 : Array CpInfo := pool [(2, .class_ 4), (1, u "java/lang/CharSequence"), (42, .class_ 48), (0, u "java/lang/CharSequence$1CodePointIterator"), (10, .class_ 60), (0, u "java/lang/CharSequence$1CharIterator"), (5, .class_ 67), (0, u "java/lang/Object")] 63

/-- java/lang/CharSequence -/
def k4 : Class := { plain "java/lang/CharSequence" (some 0) with
  accessFlags := 1537
  interfaces := #[]
  cf := some (fileOf pool4 2 #[.nestMembers #[47, 59]] #[] 1537 66 #[] #[])
  fields := #[]
  methods := #[]
  instanceTypes := #[]
  staticTypes := #[]
  resolved := Array.replicate 131 none
  statics := none }

def pool5 : Array CpInfo := pool [(1, .class_ 2), (0, u "java/lang/constant/Constable"), (0, .class_ 4), (0, u "java/lang/Object")] 6

/-- java/lang/constant/Constable -/
def k5 : Class := { plain "java/lang/constant/Constable" (some 0) with
  accessFlags := 1537
  interfaces := #[]
  cf := some (fileOf pool5 1 #[] #[] 1537 3 #[] #[])
  fields := #[]
  methods := #[]
  instanceTypes := #[]
  staticTypes := #[]
  resolved := Array.replicate 11 none
  statics := none }

def pool6 : Array CpInfo := pool [(1, .class_ 2), (0, u "java/lang/constant/ConstantDesc"), (0, .class_ 4), (0, u "java/lang/Object")] 32

/-- java/lang/constant/ConstantDesc -/
def k6 : Class := { plain "java/lang/constant/ConstantDesc" (some 0) with
  accessFlags := 1537
  interfaces := #[]
  cf := some (fileOf pool6 1 #[] #[] 1537 3 #[] #[])
  fields := #[]
  methods := #[]
  instanceTypes := #[]
  staticTypes := #[]
  resolved := Array.replicate 37 none
  statics := none }

def pool7 : Array CpInfo := pool [(1, .methodref 2 3), (0, .class_ 4), (0, .nameAndType 5 6), (0, u "java/lang/Object"), (0, u "<init>"), (0, u "()V"), (2, .fieldref 10 11), (0, .class_ 12), (0, .nameAndType 13 14), (0, u "java/lang/String"), (0, u "value"), (0, u "[B"), (0, .fieldref 10 16), (0, .nameAndType 17 18), (0, u "coder"), (0, u "B"), (2, u "hash"), (0, u "I"), (2, u "hashIsZero"), (0, u "Z"), (0, .methodref 10 28), (0, .nameAndType 5 29), (0, u "([CIILjava/lang/Void;)V"), (8, .fieldref 10 39), (0, .nameAndType 40 26), (0, u "COMPACT_STRINGS"), (1, .class_ 44), (1, u "java/lang/StringUTF16"), (0, u "compress"), (1, .methodref 42 48), (0, .nameAndType 49 50), (0, u "coderFromArrayLen"), (0, u "([BI)B"), (56, .class_ 109), (1, u "java/lang/StringLatin1"), (67, .methodref 42 178), (0, .nameAndType 45 179), (0, u "([CII)[B"), (361, .methodref 107 542), (0, .nameAndType 543 544), (0, u "equals"), (0, u "([B[B)Z"), (28, u "(Ljava/lang/Object;)Z"), (1, .class_ 576), (0, u "java/lang/CharSequence"), (22, u "CASE_INSENSITIVE_ORDER"), (0, u "Ljava/util/Comparator;"), (409, u "([C)V"), (90, u "serialPersistentFields"), (0, u "[Ljava/io/ObjectStreamField;"), (0, .class_ 1104), (0, u "java/lang/String$CaseInsensitiveComparator"), (1, .class_ 1107), (0, u "java/io/Serializable"), (0, .class_ 1109), (0, u "java/lang/Comparable"), (0, .class_ 1111), (0, u "java/lang/constant/Constable"), (0, .class_ 1113), (0, u "java/lang/constant/ConstantDesc"), (2, u "serialVersionUID"), (0, u "J"), (3, u "REPL"), (0, u "C"), (2, u "LATIN1"), (1, u "UTF16")] 323

def k7m0 : Method := { name := "<init>", desc := "()V", sig := { parameters := [], returnType := none }, accessFlags := 1, code := none }
def k7c1 : Code := { maxStack := 5, maxLocals := 2, code := jdk_42_method_3_code, exceptionTable := #[], attributes := #[] }
def k7m1 : Method := { name := "<init>", desc := "([C)V", sig := { parameters := [(.array .char)], returnType := none }, accessFlags := 1, code := some k7c1 }
def k7c2 : Code := { maxStack := 2, maxLocals := 3, code := jdk_42_method_66_code, exceptionTable := #[], attributes := #[] }
def k7m2 : Method := { name := "equals", desc := "(Ljava/lang/Object;)Z", sig := { parameters := [(.object "java/lang/Object")], returnType := some .boolean }, accessFlags := 1, code := some k7c2 }
def k7c3 : Code := { maxStack := 4, maxLocals := 6, code := jdk_42_method_149_code, exceptionTable := #[], attributes := #[] }
def k7m3 : Method := { name := "<init>", desc := "([CIILjava/lang/Void;)V", sig := { parameters := [(.array .char), .int, .int, (.object "java/lang/Void")], returnType := none }, accessFlags := 2, code := some k7c3 }
/-- java/lang/String -/
def k7 : Class := { plain "java/lang/String" (some 0) with
  accessFlags := 49
  interfaces := #[2, 3, 4, 5, 6]
  cf := some (fileOf pool7 10 #[.nestMembers #[1103]] #[{ accessFlags := 1, nameIndex := 5, descriptorIndex := 6, attributes := #[] }, { accessFlags := 1, nameIndex := 5, descriptorIndex := 1010, attributes := #[] }, { accessFlags := 1, nameIndex := 543, descriptorIndex := 573, attributes := #[] }, { accessFlags := 2, nameIndex := 5, descriptorIndex := 29, attributes := #[] }] 49 2 #[1106, 1108, 575, 1110, 1112] #[{ accessFlags := 18, nameIndex := 13, descriptorIndex := 14, attributes := #[] }, { accessFlags := 18, nameIndex := 17, descriptorIndex := 18, attributes := #[] }, { accessFlags := 2, nameIndex := 21, descriptorIndex := 22, attributes := #[] }, { accessFlags := 2, nameIndex := 25, descriptorIndex := 26, attributes := #[] }, { accessFlags := 26, nameIndex := 1116, descriptorIndex := 1117, attributes := #[] }, { accessFlags := 24, nameIndex := 40, descriptorIndex := 26, attributes := #[] }, { accessFlags := 26, nameIndex := 1101, descriptorIndex := 1102, attributes := #[] }, { accessFlags := 26, nameIndex := 1121, descriptorIndex := 1122, attributes := #[] }, { accessFlags := 25, nameIndex := 599, descriptorIndex := 600, attributes := #[] }, { accessFlags := 24, nameIndex := 1125, descriptorIndex := 18, attributes := #[] }, { accessFlags := 24, nameIndex := 1127, descriptorIndex := 18, attributes := #[] }])
  fields := #[{ name := "value", type := (.array .byte), accessFlags := 18, slot := 0, constantValue := 0 }, { name := "coder", type := .byte, accessFlags := 18, slot := 1, constantValue := 0 }, { name := "hash", type := .int, accessFlags := 2, slot := 2, constantValue := 0 }, { name := "hashIsZero", type := .boolean, accessFlags := 2, slot := 3, constantValue := 0 }, { name := "serialVersionUID", type := .long, accessFlags := 26, slot := 0, constantValue := 0 }, { name := "COMPACT_STRINGS", type := .boolean, accessFlags := 24, slot := 1, constantValue := 0 }, { name := "serialPersistentFields", type := (.array (.object "java/io/ObjectStreamField")), accessFlags := 26, slot := 2, constantValue := 0 }, { name := "REPL", type := .char, accessFlags := 26, slot := 3, constantValue := 0 }, { name := "CASE_INSENSITIVE_ORDER", type := (.object "java/util/Comparator"), accessFlags := 25, slot := 4, constantValue := 0 }, { name := "LATIN1", type := .byte, accessFlags := 24, slot := 5, constantValue := 0 }, { name := "UTF16", type := .byte, accessFlags := 24, slot := 6, constantValue := 0 }]
  methods := #[k7m0, k7m1, k7m2, k7m3]
  instanceTypes := #[(.array .byte), .byte, .int, .boolean]
  staticTypes := #[.long, .boolean, (.array (.object "java/io/ObjectStreamField")), .char, (.object "java/util/Comparator"), .byte, .byte]
  resolved := Array.replicate 1451 none
  statics := some 0 }

def pool8 : Array CpInfo := pool [(6, .class_ 8), (1, u "java/lang/Object"), (0, u "<init>"), (0, u "()V"), (1, .class_ 14), (1, u "java/lang/StringUTF16"), (31, u "$assertionsDisabled"), (0, u "Z"), (13, u "HI_BYTE_SHIFT"), (0, u "I"), (2, u "LO_BYTE_SHIFT"), (49, .methodref 12 116), (0, .nameAndType 117 118), (0, u "compress"), (0, u "([CI[BII)I"), (3, u "([CII)[B"), (138, u "coderFromArrayLen"), (0, u "([BI)B"), (106, .class_ 371), (1, u "java/lang/StringUTF16$LinesSpliterator"), (58, u "MAX_LENGTH"), (196, .class_ 628), (0, u "java/lang/StringUTF16$CodePointsSpliterator"), (0, .class_ 630), (0, u "java/lang/StringUTF16$CharsSpliterator")] 4

def k8m0 : Method := { name := "<init>", desc := "()V", sig := { parameters := [], returnType := none }, accessFlags := 0, code := none }
def k8c1 : Code := { maxStack := 2, maxLocals := 2, code := jdk_52_method_15_code, exceptionTable := #[], attributes := #[] }
def k8m1 : Method := { name := "coderFromArrayLen", desc := "([BI)B", sig := { parameters := [(.array .byte), .int], returnType := some .byte }, accessFlags := 8, code := some k8c1 }
def k8c2 : Code := { maxStack := 5, maxLocals := 6, code := jdk_52_method_16_code, exceptionTable := #[], attributes := #[] }
def k8m2 : Method := { name := "compress", desc := "([CII)[B", sig := { parameters := [(.array .char), .int, .int], returnType := some (.array .byte) }, accessFlags := 9, code := some k8c2 }
def k8c3 : Code := { maxStack := 3, maxLocals := 7, code := jdk_52_method_21_code, exceptionTable := #[], attributes := #[] }
def k8m3 : Method := { name := "compress", desc := "([CI[BII)I", sig := { parameters := [(.array .char), .int, (.array .byte), .int, .int], returnType := some .int }, accessFlags := 9, code := some k8c3 }
/-- java/lang/StringUTF16 -/
def k8 : Class := { plain "java/lang/StringUTF16" (some 0) with
  accessFlags := 48
  interfaces := #[]
  cf := some (fileOf pool8 12 #[.nestMembers #[627, 629, 369]] #[{ accessFlags := 0, nameIndex := 9, descriptorIndex := 10, attributes := #[] }, { accessFlags := 8, nameIndex := 261, descriptorIndex := 262, attributes := #[] }, { accessFlags := 9, nameIndex := 117, descriptorIndex := 122, attributes := #[] }, { accessFlags := 9, nameIndex := 117, descriptorIndex := 118, attributes := #[] }] 48 6 #[] #[{ accessFlags := 26, nameIndex := 61, descriptorIndex := 62, attributes := #[] }, { accessFlags := 26, nameIndex := 65, descriptorIndex := 62, attributes := #[] }, { accessFlags := 24, nameIndex := 430, descriptorIndex := 62, attributes := #[] }, { accessFlags := 4120, nameIndex := 46, descriptorIndex := 47, attributes := #[] }])
  fields := #[{ name := "HI_BYTE_SHIFT", type := .int, accessFlags := 26, slot := 0, constantValue := 0 }, { name := "LO_BYTE_SHIFT", type := .int, accessFlags := 26, slot := 1, constantValue := 0 }, { name := "MAX_LENGTH", type := .int, accessFlags := 24, slot := 2, constantValue := 0 }, { name := "$assertionsDisabled", type := .boolean, accessFlags := 4120, slot := 3, constantValue := 0 }]
  methods := #[k8m0, k8m1, k8m2, k8m3]
  instanceTypes := #[]
  staticTypes := #[.int, .int, .int, .boolean]
  resolved := Array.replicate 635 none
  statics := none }

def pool9 : Array CpInfo := pool [(1, .methodref 2 3), (0, .class_ 4), (0, .nameAndType 5 6), (0, u "java/lang/Object"), (0, u "<init>"), (0, u "()V"), (0, .string 8), (0, u "file"), (0, .methodref 10 11), (0, .class_ 12), (0, .nameAndType 13 14), (0, u "java/util/Objects"), (0, u "requireNonNull"), (0, u "(Ljava/lang/Object;Ljava/lang/String;)Ljava/lang/Object;"), (0, .class_ 16), (0, u "java/lang/String"), (0, .fieldref 18 19), (0, .class_ 20), (0, .nameAndType 8 21), (0, u "com/example/orderly_wiring/orderlywiring/interpreter/Location"), (0, u "Ljava/lang/String;"), (0, .fieldref 18 23), (0, .nameAndType 24 25), (0, u "line"), (0, u "I"), (0, .fieldref 18 27), (0, .nameAndType 28 25), (0, u "column"), (0, .methodref 15 30), (0, .nameAndType 31 32), (0, u "equals"), (0, u "(Ljava/lang/Object;)Z"), (31, u "(Ljava/lang/String;II)V")] 7

def k9c0 : Code := { maxStack := 3, maxLocals := 4, code := prog_46_method_1_code, exceptionTable := #[], attributes := #[] }
def k9m0 : Method := { name := "<init>", desc := "(Ljava/lang/String;II)V", sig := { parameters := [(.object "java/lang/String"), .int, .int], returnType := none }, accessFlags := 1, code := some k9c0 }
def k9c1 : Code := { maxStack := 2, maxLocals := 3, code := prog_46_method_5_code, exceptionTable := #[], attributes := #[] }
def k9m1 : Method := { name := "equals", desc := "(Ljava/lang/Object;)Z", sig := { parameters := [(.object "java/lang/Object")], returnType := some .boolean }, accessFlags := 1, code := some k9c1 }
/-- com/example/orderly_wiring/orderlywiring/interpreter/Location -/
def k9 : Class := { plain "com/example/orderly_wiring/orderlywiring/interpreter/Location" (some 0) with
  accessFlags := 33
  interfaces := #[]
  cf := some (fileOf pool9 18 #[] #[{ accessFlags := 1, nameIndex := 5, descriptorIndex := 64, attributes := #[] }, { accessFlags := 1, nameIndex := 31, descriptorIndex := 32, attributes := #[] }] 33 2 #[] #[{ accessFlags := 18, nameIndex := 8, descriptorIndex := 21, attributes := #[] }, { accessFlags := 18, nameIndex := 24, descriptorIndex := 25, attributes := #[] }, { accessFlags := 18, nameIndex := 28, descriptorIndex := 25, attributes := #[] }])
  fields := #[{ name := "file", type := (.object "java/lang/String"), accessFlags := 18, slot := 0, constantValue := 0 }, { name := "line", type := .int, accessFlags := 18, slot := 1, constantValue := 0 }, { name := "column", type := .int, accessFlags := 18, slot := 2, constantValue := 0 }]
  methods := #[k9m0, k9m1]
  instanceTypes := #[(.object "java/lang/String"), .int, .int]
  staticTypes := #[]
  resolved := Array.replicate 72 none
  statics := none }

def pool10 : Array CpInfo := pool [(2, .class_ 4), (1, u "java/lang/Object"), (0, u "<init>"), (0, u "()V"), (35, .class_ 44), (1, u "java/util/Objects"), (0, u "requireNonNull"), (48, u "(Ljava/lang/Object;Ljava/lang/String;)Ljava/lang/Object;")] 89

def k10m0 : Method := { name := "<init>", desc := "()V", sig := { parameters := [], returnType := none }, accessFlags := 2, code := none }
def k10c1 : Code := { maxStack := 3, maxLocals := 2, code := jdk_31_method_11_code, exceptionTable := #[], attributes := #[] }
def k10m1 : Method := { name := "requireNonNull", desc := "(Ljava/lang/Object;Ljava/lang/String;)Ljava/lang/Object;", sig := { parameters := [(.object "java/lang/Object"), (.object "java/lang/String")], returnType := some (.object "java/lang/Object") }, accessFlags := 9, code := some k10c1 }
/-- java/util/Objects -/
def k10 : Class := { plain "java/util/Objects" (some 0) with
  accessFlags := 49
  interfaces := #[]
  cf := some (fileOf pool10 42 #[] #[{ accessFlags := 2, nameIndex := 5, descriptorIndex := 6, attributes := #[] }, { accessFlags := 9, nameIndex := 45, descriptorIndex := 94, attributes := #[] }] 49 2 #[] #[])
  fields := #[]
  methods := #[k10m0, k10m1]
  instanceTypes := #[]
  staticTypes := #[]
  resolved := Array.replicate 184 none
  statics := none }

def pool11 : Array CpInfo := pool [(4, .class_ 6), (1, u "java/lang/Object"), (0, u "<init>"), (0, u "()V"), (5, .class_ 16), (1, u "java/lang/StringLatin1"), (104, u "$assertionsDisabled"), (0, u "Z"), (98, .class_ 223), (1, u "java/lang/StringLatin1$LinesSpliterator"), (57, u "equals"), (0, u "([B[B)Z"), (107, .class_ 391), (0, u "java/lang/StringLatin1$CharsSpliterator")] 3

def k11m0 : Method := { name := "<init>", desc := "()V", sig := { parameters := [], returnType := none }, accessFlags := 0, code := none }
def k11c1 : Code := { maxStack := 3, maxLocals := 3, code := jdk_43_method_13_code, exceptionTable := #[], attributes := #[] }
def k11m1 : Method := { name := "equals", desc := "([B[B)Z", sig := { parameters := [(.array .byte), (.array .byte)], returnType := some .boolean }, accessFlags := 9, code := some k11c1 }
/-- java/lang/StringLatin1 -/
def k11 : Class := { plain "java/lang/StringLatin1" (some 0) with
  accessFlags := 48
  interfaces := #[]
  cf := some (fileOf pool11 14 #[.nestMembers #[390, 221]] #[{ accessFlags := 0, nameIndex := 7, descriptorIndex := 8, attributes := #[] }, { accessFlags := 9, nameIndex := 281, descriptorIndex := 282, attributes := #[] }] 48 4 #[] #[{ accessFlags := 4120, nameIndex := 121, descriptorIndex := 122, attributes := #[] }])
  fields := #[{ name := "$assertionsDisabled", type := .boolean, accessFlags := 4120, slot := 0, constantValue := 0 }]
  methods := #[k11m0, k11m1]
  instanceTypes := #[]
  staticTypes := #[.boolean]
  resolved := Array.replicate 395 none
  statics := none }

def pool12 : Array CpInfo := pool [(2, .class_ 4), (1, u "java/lang/Object"), (0, u "<init>"), (0, u "()V"), (17, .class_ 26), (1, u "jdk/internal/util/Preconditions"), (28, .class_ 56), (0, u "jdk/internal/util/Preconditions$4"), (57, .class_ 115), (0, u "jdk/internal/util/Preconditions$1"), (7, u "SIOOBE_FORMATTER"), (0, u "Ljava/util/function/BiFunction;"), (0, .class_ 126), (0, u "jdk/internal/util/Preconditions$2"), (3, u "AIOOBE_FORMATTER"), (0, .class_ 132), (0, u "jdk/internal/util/Preconditions$3"), (3, u "IOOBE_FORMATTER")] 57

def k12m0 : Method := { name := "<init>", desc := "()V", sig := { parameters := [], returnType := none }, accessFlags := 1, code := none }
/-- jdk/internal/util/Preconditions -/
def k12 : Class := { plain "jdk/internal/util/Preconditions" (some 0) with
  accessFlags := 33
  interfaces := #[]
  cf := some (fileOf pool12 24 #[.nestMembers #[55, 131, 125, 114]] #[{ accessFlags := 1, nameIndex := 5, descriptorIndex := 6, attributes := #[] }] 33 2 #[] #[{ accessFlags := 25, nameIndex := 123, descriptorIndex := 124, attributes := #[] }, { accessFlags := 25, nameIndex := 130, descriptorIndex := 124, attributes := #[] }, { accessFlags := 25, nameIndex := 136, descriptorIndex := 124, attributes := #[] }])
  fields := #[{ name := "SIOOBE_FORMATTER", type := (.object "java/util/function/BiFunction"), accessFlags := 25, slot := 0, constantValue := 0 }, { name := "AIOOBE_FORMATTER", type := (.object "java/util/function/BiFunction"), accessFlags := 25, slot := 1, constantValue := 0 }, { name := "IOOBE_FORMATTER", type := (.object "java/util/function/BiFunction"), accessFlags := 25, slot := 2, constantValue := 0 }]
  methods := #[k12m0]
  instanceTypes := #[]
  staticTypes := #[(.object "java/util/function/BiFunction"), (.object "java/util/function/BiFunction"), (.object "java/util/function/BiFunction")]
  resolved := Array.replicate 194 none
  statics := some 1 }

def pool13 : Array CpInfo := pool [(9, u "<init>"), (6, .class_ 18), (1, u "java/lang/Object"), (0, u "()V"), (1, .class_ 23), (1, u "jdk/internal/util/ArraysSupport"), (0, u "LOG2_ARRAY_LONG_INDEX_SCALE"), (0, u "I"), (2, u "U"), (0, u "Ljdk/internal/misc/Unsafe;"), (8, u "BIG_ENDIAN"), (0, u "Z"), (8, u "LOG2_BYTE_BIT_SIZE"), (4, u "LOG2_ARRAY_INT_INDEX_SCALE"), (54, u "JLA"), (0, u "Ljdk/internal/access/JavaLangAccess;"), (11, u "LOG2_ARRAY_BOOLEAN_INDEX_SCALE"), (9, u "LOG2_ARRAY_BYTE_INDEX_SCALE"), (5, u "LOG2_ARRAY_CHAR_INDEX_SCALE"), (5, u "LOG2_ARRAY_SHORT_INDEX_SCALE"), (18, u "LOG2_ARRAY_FLOAT_INDEX_SCALE"), (24, u "LOG2_ARRAY_DOUBLE_INDEX_SCALE"), (89, u "T_BOOLEAN"), (2, u "T_CHAR"), (1, u "T_FLOAT"), (1, u "T_DOUBLE"), (1, u "T_BYTE"), (1, u "T_SHORT"), (1, u "T_INT"), (1, u "T_LONG"), (1, u "SOFT_MAX_ARRAY_LENGTH")] 83

def k13m0 : Method := { name := "<init>", desc := "()V", sig := { parameters := [], returnType := none }, accessFlags := 2, code := none }
/-- jdk/internal/util/ArraysSupport -/
def k13 : Class := { plain "jdk/internal/util/ArraysSupport" (some 0) with
  accessFlags := 33
  interfaces := #[]
  cf := some (fileOf pool13 21 #[] #[{ accessFlags := 2, nameIndex := 9, descriptorIndex := 19, attributes := #[] }] 33 16 #[] #[{ accessFlags := 24, nameIndex := 28, descriptorIndex := 29, attributes := #[] }, { accessFlags := 26, nameIndex := 38, descriptorIndex := 39, attributes := #[] }, { accessFlags := 25, nameIndex := 121, descriptorIndex := 25, attributes := #[] }, { accessFlags := 25, nameIndex := 131, descriptorIndex := 25, attributes := #[] }, { accessFlags := 25, nameIndex := 137, descriptorIndex := 25, attributes := #[] }, { accessFlags := 25, nameIndex := 143, descriptorIndex := 25, attributes := #[] }, { accessFlags := 25, nameIndex := 53, descriptorIndex := 25, attributes := #[] }, { accessFlags := 25, nameIndex := 24, descriptorIndex := 25, attributes := #[] }, { accessFlags := 25, nameIndex := 162, descriptorIndex := 25, attributes := #[] }, { accessFlags := 25, nameIndex := 187, descriptorIndex := 25, attributes := #[] }, { accessFlags := 26, nameIndex := 48, descriptorIndex := 25, attributes := #[] }, { accessFlags := 25, nameIndex := 277, descriptorIndex := 25, attributes := #[] }, { accessFlags := 25, nameIndex := 280, descriptorIndex := 25, attributes := #[] }, { accessFlags := 25, nameIndex := 282, descriptorIndex := 25, attributes := #[] }, { accessFlags := 25, nameIndex := 284, descriptorIndex := 25, attributes := #[] }, { accessFlags := 25, nameIndex := 286, descriptorIndex := 25, attributes := #[] }, { accessFlags := 25, nameIndex := 288, descriptorIndex := 25, attributes := #[] }, { accessFlags := 25, nameIndex := 290, descriptorIndex := 25, attributes := #[] }, { accessFlags := 25, nameIndex := 292, descriptorIndex := 25, attributes := #[] }, { accessFlags := 26, nameIndex := 108, descriptorIndex := 109, attributes := #[] }, { accessFlags := 25, nameIndex := 294, descriptorIndex := 25, attributes := #[] }])
  fields := #[{ name := "U", type := (.object "jdk/internal/misc/Unsafe"), accessFlags := 24, slot := 0, constantValue := 0 }, { name := "BIG_ENDIAN", type := .boolean, accessFlags := 26, slot := 1, constantValue := 0 }, { name := "LOG2_ARRAY_BOOLEAN_INDEX_SCALE", type := .int, accessFlags := 25, slot := 2, constantValue := 0 }, { name := "LOG2_ARRAY_BYTE_INDEX_SCALE", type := .int, accessFlags := 25, slot := 3, constantValue := 0 }, { name := "LOG2_ARRAY_CHAR_INDEX_SCALE", type := .int, accessFlags := 25, slot := 4, constantValue := 0 }, { name := "LOG2_ARRAY_SHORT_INDEX_SCALE", type := .int, accessFlags := 25, slot := 5, constantValue := 0 }, { name := "LOG2_ARRAY_INT_INDEX_SCALE", type := .int, accessFlags := 25, slot := 6, constantValue := 0 }, { name := "LOG2_ARRAY_LONG_INDEX_SCALE", type := .int, accessFlags := 25, slot := 7, constantValue := 0 }, { name := "LOG2_ARRAY_FLOAT_INDEX_SCALE", type := .int, accessFlags := 25, slot := 8, constantValue := 0 }, { name := "LOG2_ARRAY_DOUBLE_INDEX_SCALE", type := .int, accessFlags := 25, slot := 9, constantValue := 0 }, { name := "LOG2_BYTE_BIT_SIZE", type := .int, accessFlags := 26, slot := 10, constantValue := 0 }, { name := "T_BOOLEAN", type := .int, accessFlags := 25, slot := 11, constantValue := 0 }, { name := "T_CHAR", type := .int, accessFlags := 25, slot := 12, constantValue := 0 }, { name := "T_FLOAT", type := .int, accessFlags := 25, slot := 13, constantValue := 0 }, { name := "T_DOUBLE", type := .int, accessFlags := 25, slot := 14, constantValue := 0 }, { name := "T_BYTE", type := .int, accessFlags := 25, slot := 15, constantValue := 0 }, { name := "T_SHORT", type := .int, accessFlags := 25, slot := 16, constantValue := 0 }, { name := "T_INT", type := .int, accessFlags := 25, slot := 17, constantValue := 0 }, { name := "T_LONG", type := .int, accessFlags := 25, slot := 18, constantValue := 0 }, { name := "JLA", type := (.object "jdk/internal/access/JavaLangAccess"), accessFlags := 26, slot := 19, constantValue := 0 }, { name := "SOFT_MAX_ARRAY_LENGTH", type := .int, accessFlags := 25, slot := 20, constantValue := 0 }]
  methods := #[k13m0]
  instanceTypes := #[]
  staticTypes := #[(.object "jdk/internal/misc/Unsafe"), .boolean, .int, .int, .int, .int, .int, .int, .int, .int, .int, .int, .int, .int, .int, .int, .int, .int, .int, (.object "jdk/internal/access/JavaLangAccess"), .int]
  resolved := Array.replicate 378 none
  statics := none }

def pool14 : Array CpInfo := pool [(1, u "java/lang/Cloneable"), (0, .class_ 1), (0, u "java/lang/Object"), (0, .class_ 3)] 3

/-- java/lang/Cloneable -/
def k14 : Class := { plain "java/lang/Cloneable" (some 0) with
  accessFlags := 1537
  interfaces := #[]
  cf := some (fileOf pool14 2 #[] #[] 1537 4 #[] #[])
  fields := #[]
  methods := #[]
  instanceTypes := #[]
  staticTypes := #[]
  resolved := Array.replicate 8 none
  statics := none }

/-- the primitive byte -/
def k15 : Class := { plain "byte" none with kind := .primitive 'B', accessFlags := 0x411 }
/-- [B -/
def k16 : Class := { plain "[B" (some 0) with kind := .array 15 .byte, interfaces := #[14, 2], accessFlags := 1041 }

/-- the primitive char -/
def k17 : Class := { plain "char" none with kind := .primitive 'C', accessFlags := 0x411 }
/-- [C -/
def k18 : Class := { plain "[C" (some 0) with kind := .array 17 .char, interfaces := #[14, 2], accessFlags := 1041 }

/-- the primitive int -/
def k19 : Class := { plain "int" none with kind := .primitive 'I', accessFlags := 0x411 }
/-- [I -/
def k20 : Class := { plain "[I" (some 0) with kind := .array 19 .int, interfaces := #[14, 2], accessFlags := 1041 }

def heap : Heap := #[{ cls := 7, slots := #[.long 0, .int 1, .null, .int 0, .null, .int 0, .int 0], vm := .statics 7 },
  { cls := 12, slots := #[.null, .null, .null], vm := .statics 12 }]
def classes : Array Class := #[k0, k1, k2, k3, k4, k5, k6, k7, k8, k9, k10, k11, k12, k13, k14, k15, k16, k17, k18, k19, k20]
def interned : List (Array UInt16 × Addr) := []
def slotsUsed : Nat := 10
def theMethod : MethodId := ⟨1, 1⟩
def args0 : Array Value := #[.int 65, .int 66, .int 3, .int 4, .int 5, .int 16]
def aboutOver (below : List Frame) : State where
  vm := { classes := classes, interned := interned.toArray }
  heap := heap
  slotsUsed := slotsUsed
  threads := #[{ frames := .invoking theMethod args0 :: below }]
def below0 : List Frame := [.native { method := ⟨0, 0⟩, args := #[] }]
def about1 : State := aboutOver below0
def p0 : Program := .bare "" "" ""
def e0 : Env := launch0.env 0 0 0
theorem w_frames : about1.frames = Frame.invoking theMethod args0 :: below0 := rfl
set_option maxRecDepth 65536 in
theorem w_args : argsFit about1.vm theMethod args0 = true := by decide +kernel
set_option maxRecDepth 65536 in
theorem w_heap : heapFits about1 = true := by decide +kernel
set_option maxRecDepth 65536 in
theorem w_runnable : about1.curStatus? = some .runnable := by decide +kernel
set_option maxRecDepth 65536 in
theorem w_alone : about1.alone = true := by decide +kernel
set_option maxRecDepth 65536 in
theorem w_named : about1.methodNamed? x = some theMethod := by decide +kernel
set_option maxRecDepth 65536 in
theorem w_hears : about1.hears theMethod below0 = true := by decide +kernel
set_option maxRecDepth 65536 in
theorem w_ripe : about1.ripe theMethod args0 below0 = true := by decide +kernel
theorem w_running : about1.status = .running := rfl
set_option maxRecDepth 65536 in
theorem w_room : about1.hasRoom e0.platform room_1 = true :=
  launch0.hasRoom_least _ room_1 (by decide +kernel) (by decide +kernel) (by decide +kernel) (by decide +kernel) (by decide +kernel) (by decide +kernel)
theorem allAtoms_all (ts : List Jvm.Cond) (a : Array Jvm.Value) (st : Jvm.State) : (allAtoms ts).before a st = ts.all (fun c => c.before a st) := by
  induction ts with
  | nil => rfl
  | cons c t ih =>
    show (Jvm.Cond.and c (allAtoms t)).before a st = _
    rw [Jvm.Cond.before_and, ih, List.all_cons]
def words1 : List Jvm.Cond := Jvm.Cond.code x code maxLocals ret :: tables_1
/-- a 'code' word, met by the world's own term for the bytes: nothing is compared byte by byte -/
theorem code_word {y : MethodName} {bytes : ByteArray} {mx : Nat} {rt : Option FieldType} {a : Array Value} {s : State} {m : MethodId} {meth : Method} {c : Code} (h1 : s.methodNamed? y = some m) (h2 : s.vm.method? m = some meth) (h3 : meth.code = some c) (h4 : c.code = bytes)
    (h5 : (c.maxLocals == mx && c.exceptionTable.isEmpty && decide (c.maxStack ≤ mostOperands) && decide (meth.sig.returnType = rt) && !meth.locks && decide (parseMethodDescriptor y.desc = some meth.sig)) = true) : (Jvm.Cond.code y bytes mx rt).before a s = true := by
  simp only [Bool.and_eq_true, beq_iff_eq, Bool.not_eq_true', decide_eq_true_eq] at h5
  obtain ⟨⟨⟨⟨⟨g1, g2⟩, g3⟩, g4⟩, g5⟩, g6⟩ := h5
  simp [Cond.before, Cond.holds, Cond.value, h1, h2, h3, h4, g1, g2, g3, g4, g5, g6]
def isCode : Jvm.Cond → Bool
  | .code _ _ _ _ => true
  | _ => false
theorem all_split {L : List Jvm.Cond} {P : Jvm.Cond → Bool} (h1 : L.all (fun c => isCode c || P c) = true) (h2 : ∀ c ∈ L.filter isCode, P c = true) : L.all P = true := by
  refine List.all_eq_true.mpr fun c hc => ?_
  have h := List.all_eq_true.mp h1 c hc
  rcases Bool.eq_false_or_eq_true (isCode c) with hi | hi
  · exact h2 c (List.mem_filter.mpr ⟨hc, hi⟩)
  · simpa [hi] using h
set_option maxRecDepth 65536 in
theorem w_c0 : (Jvm.Cond.code x code maxLocals ret).before args0 about1 = true := code_word (m := ⟨1, 1⟩) (meth := k1m1) (c := k1c1) (by decide +kernel) rfl rfl rfl (by decide +kernel)
set_option maxRecDepth 65536 in
theorem w_c1 : (Jvm.Cond.code ({ cls := "com/example/orderly_wiring/orderlywiring/interpreter/LocationEqualsPinLaw", name := "make", desc := "(CCI)Ljava/lang/String;" } : Jvm.MethodName) method_3_code (3 : Nat) (Option.some (Jvm.ClassFile.FieldType.object "java/lang/String"))).before args0 about1 = true := code_word (m := ⟨1, 2⟩) (meth := k1m2) (c := k1c2) (by decide +kernel) rfl rfl rfl (by decide +kernel)
set_option maxRecDepth 65536 in
theorem w_c2 : (Jvm.Cond.code ({ cls := "java/lang/String", name := "<init>", desc := "([C)V" } : Jvm.MethodName) jdk_42_method_3_code (2 : Nat) (Option.none : Option Jvm.ClassFile.FieldType)).before args0 about1 = true := code_word (m := ⟨7, 1⟩) (meth := k7m1) (c := k7c1) (by decide +kernel) rfl rfl rfl (by decide +kernel)
set_option maxRecDepth 65536 in
theorem w_c3 : (Jvm.Cond.code ({ cls := "java/lang/String", name := "<init>", desc := "([CIILjava/lang/Void;)V" } : Jvm.MethodName) jdk_42_method_149_code (6 : Nat) (Option.none : Option Jvm.ClassFile.FieldType)).before args0 about1 = true := code_word (m := ⟨7, 3⟩) (meth := k7m3) (c := k7c3) (by decide +kernel) rfl rfl rfl (by decide +kernel)
set_option maxRecDepth 65536 in
theorem w_c4 : (Jvm.Cond.code ({ cls := "java/lang/Object", name := "<init>", desc := "()V" } : Jvm.MethodName) object_method_1_code (1 : Nat) (Option.none : Option Jvm.ClassFile.FieldType)).before args0 about1 = true := code_word (m := ⟨0, 0⟩) (meth := k0m0) (c := k0c0) (by decide +kernel) rfl rfl rfl (by decide +kernel)
set_option maxRecDepth 65536 in
theorem w_c5 : (Jvm.Cond.code ({ cls := "java/lang/StringUTF16", name := "compress", desc := "([CII)[B" } : Jvm.MethodName) jdk_52_method_16_code (6 : Nat) (Option.some (Jvm.ClassFile.FieldType.array Jvm.ClassFile.FieldType.byte))).before args0 about1 = true := code_word (m := ⟨8, 2⟩) (meth := k8m2) (c := k8c2) (by decide +kernel) rfl rfl rfl (by decide +kernel)
set_option maxRecDepth 65536 in
theorem w_c6 : (Jvm.Cond.code ({ cls := "java/lang/StringUTF16", name := "compress", desc := "([CI[BII)I" } : Jvm.MethodName) jdk_52_method_21_code (7 : Nat) (Option.some Jvm.ClassFile.FieldType.int)).before args0 about1 = true := code_word (m := ⟨8, 3⟩) (meth := k8m3) (c := k8c3) (by decide +kernel) rfl rfl rfl (by decide +kernel)
set_option maxRecDepth 65536 in
theorem w_c7 : (Jvm.Cond.code ({ cls := "java/lang/StringUTF16", name := "coderFromArrayLen", desc := "([BI)B" } : Jvm.MethodName) jdk_52_method_15_code (2 : Nat) (Option.some Jvm.ClassFile.FieldType.byte)).before args0 about1 = true := code_word (m := ⟨8, 1⟩) (meth := k8m1) (c := k8c1) (by decide +kernel) rfl rfl rfl (by decide +kernel)
set_option maxRecDepth 65536 in
theorem w_c8 : (Jvm.Cond.code ({ cls := "com/example/orderly_wiring/orderlywiring/interpreter/Location", name := "<init>", desc := "(Ljava/lang/String;II)V" } : Jvm.MethodName) prog_46_method_1_code (4 : Nat) (Option.none : Option Jvm.ClassFile.FieldType)).before args0 about1 = true := code_word (m := ⟨9, 0⟩) (meth := k9m0) (c := k9c0) (by decide +kernel) rfl rfl rfl (by decide +kernel)
set_option maxRecDepth 65536 in
theorem w_c9 : (Jvm.Cond.code ({ cls := "java/util/Objects", name := "requireNonNull", desc := "(Ljava/lang/Object;Ljava/lang/String;)Ljava/lang/Object;" } : Jvm.MethodName) jdk_31_method_11_code (2 : Nat) (Option.some (Jvm.ClassFile.FieldType.object "java/lang/Object"))).before args0 about1 = true := code_word (m := ⟨10, 1⟩) (meth := k10m1) (c := k10c1) (by decide +kernel) rfl rfl rfl (by decide +kernel)
set_option maxRecDepth 65536 in
theorem w_c10 : (Jvm.Cond.code ({ cls := "com/example/orderly_wiring/orderlywiring/interpreter/Location", name := "equals", desc := "(Ljava/lang/Object;)Z" } : Jvm.MethodName) prog_46_method_5_code (3 : Nat) (Option.some Jvm.ClassFile.FieldType.boolean)).before args0 about1 = true := code_word (m := ⟨9, 1⟩) (meth := k9m1) (c := k9c1) (by decide +kernel) rfl rfl rfl (by decide +kernel)
set_option maxRecDepth 65536 in
theorem w_c11 : (Jvm.Cond.code ({ cls := "java/lang/String", name := "equals", desc := "(Ljava/lang/Object;)Z" } : Jvm.MethodName) jdk_42_method_66_code (3 : Nat) (Option.some Jvm.ClassFile.FieldType.boolean)).before args0 about1 = true := code_word (m := ⟨7, 2⟩) (meth := k7m2) (c := k7c2) (by decide +kernel) rfl rfl rfl (by decide +kernel)
set_option maxRecDepth 65536 in
theorem w_c12 : (Jvm.Cond.code ({ cls := "java/lang/StringLatin1", name := "equals", desc := "([B[B)Z" } : Jvm.MethodName) jdk_43_method_13_code (3 : Nat) (Option.some Jvm.ClassFile.FieldType.boolean)).before args0 about1 = true := code_word (m := ⟨11, 1⟩) (meth := k11m1) (c := k11c1) (by decide +kernel) rfl rfl rfl (by decide +kernel)
def codes1 : List Jvm.Cond := [Jvm.Cond.code x code maxLocals ret, Jvm.Cond.code ({ cls := "com/example/orderly_wiring/orderlywiring/interpreter/LocationEqualsPinLaw", name := "make", desc := "(CCI)Ljava/lang/String;" } : Jvm.MethodName) method_3_code (3 : Nat) (Option.some (Jvm.ClassFile.FieldType.object "java/lang/String")), Jvm.Cond.code ({ cls := "java/lang/String", name := "<init>", desc := "([C)V" } : Jvm.MethodName) jdk_42_method_3_code (2 : Nat) (Option.none : Option Jvm.ClassFile.FieldType), Jvm.Cond.code ({ cls := "java/lang/String", name := "<init>", desc := "([CIILjava/lang/Void;)V" } : Jvm.MethodName) jdk_42_method_149_code (6 : Nat) (Option.none : Option Jvm.ClassFile.FieldType), Jvm.Cond.code ({ cls := "java/lang/Object", name := "<init>", desc := "()V" } : Jvm.MethodName) object_method_1_code (1 : Nat) (Option.none : Option Jvm.ClassFile.FieldType), Jvm.Cond.code ({ cls := "java/lang/StringUTF16", name := "compress", desc := "([CII)[B" } : Jvm.MethodName) jdk_52_method_16_code (6 : Nat) (Option.some (Jvm.ClassFile.FieldType.array Jvm.ClassFile.FieldType.byte)), Jvm.Cond.code ({ cls := "java/lang/StringUTF16", name := "compress", desc := "([CI[BII)I" } : Jvm.MethodName) jdk_52_method_21_code (7 : Nat) (Option.some Jvm.ClassFile.FieldType.int), Jvm.Cond.code ({ cls := "java/lang/StringUTF16", name := "coderFromArrayLen", desc := "([BI)B" } : Jvm.MethodName) jdk_52_method_15_code (2 : Nat) (Option.some Jvm.ClassFile.FieldType.byte), Jvm.Cond.code ({ cls := "com/example/orderly_wiring/orderlywiring/interpreter/Location", name := "<init>", desc := "(Ljava/lang/String;II)V" } : Jvm.MethodName) prog_46_method_1_code (4 : Nat) (Option.none : Option Jvm.ClassFile.FieldType), Jvm.Cond.code ({ cls := "java/util/Objects", name := "requireNonNull", desc := "(Ljava/lang/Object;Ljava/lang/String;)Ljava/lang/Object;" } : Jvm.MethodName) jdk_31_method_11_code (2 : Nat) (Option.some (Jvm.ClassFile.FieldType.object "java/lang/Object")), Jvm.Cond.code ({ cls := "com/example/orderly_wiring/orderlywiring/interpreter/Location", name := "equals", desc := "(Ljava/lang/Object;)Z" } : Jvm.MethodName) prog_46_method_5_code (3 : Nat) (Option.some Jvm.ClassFile.FieldType.boolean), Jvm.Cond.code ({ cls := "java/lang/String", name := "equals", desc := "(Ljava/lang/Object;)Z" } : Jvm.MethodName) jdk_42_method_66_code (3 : Nat) (Option.some Jvm.ClassFile.FieldType.boolean), Jvm.Cond.code ({ cls := "java/lang/StringLatin1", name := "equals", desc := "([B[B)Z" } : Jvm.MethodName) jdk_43_method_13_code (3 : Nat) (Option.some Jvm.ClassFile.FieldType.boolean)]
set_option maxRecDepth 65536 in
theorem codes_eq : words1.filter isCode = codes1 := rfl
theorem w_codes : ∀ c ∈ words1.filter isCode, c.before args0 about1 = true := by
  rw [codes_eq]
  intro c hc
  simp only [codes1, List.mem_cons, List.not_mem_nil, or_false] at hc
  rcases hc with rfl | rfl | rfl | rfl | rfl | rfl | rfl | rfl | rfl | rfl | rfl | rfl | rfl
  · exact w_c0
  · exact w_c1
  · exact w_c2
  · exact w_c3
  · exact w_c4
  · exact w_c5
  · exact w_c6
  · exact w_c7
  · exact w_c8
  · exact w_c9
  · exact w_c10
  · exact w_c11
  · exact w_c12
set_option maxRecDepth 65536 in
theorem w_t1 : (words1.take 24).all (fun c => isCode c || c.before args0 about1) = true := by decide +kernel
set_option maxRecDepth 65536 in
theorem w_t2 : ((words1.drop 24).take 24).all (fun c => isCode c || c.before args0 about1) = true := by decide +kernel
set_option maxRecDepth 65536 in
theorem w_t3 : (((words1.drop 24).drop 24).take 24).all (fun c => isCode c || c.before args0 about1) = true := by decide +kernel
set_option maxRecDepth 65536 in
theorem w_t4 : (((words1.drop 24).drop 24).drop 24).all (fun c => isCode c || c.before args0 about1) = true := by decide +kernel
theorem w_tables : (allAtoms (Jvm.Cond.code x code maxLocals ret :: tables_1)).before args0 about1 = true := by
  rw [allAtoms_all]
  show words1.all (fun c => c.before args0 about1) = true
  refine all_split ?_ w_codes
  rw [← List.take_append_drop 24 words1, List.all_append, w_t1, ← List.take_append_drop 24 (words1.drop 24), List.all_append, w_t2, ← List.take_append_drop 24 ((words1.drop 24).drop 24), List.all_append, w_t3, w_t4]
  rfl
set_option maxRecDepth 65536 in
theorem w_rest : rest_1_c.before args0 about1 = true := by decide +kernel
set_option maxRecDepth 65536 in
theorem w_case : (Jvm.Cond.and given_1 narrow_1).before args0 about1 = true := by decide +kernel
theorem w_applies : (headSpec (Jvm.Cond.code x code maxLocals ret :: tables_1) room_1).applies x e0.platform about1 = true :=
  (Spec.applies_iff w_frames).mpr ⟨w_running, w_runnable, w_alone, w_named, w_hears, w_ripe, w_room, w_tables⟩
theorem atStart : AtStart classFile x code maxLocals ret World_1 tables_1 room_1 Calls_1 rest_1 Pre_1 launch0 p0 e0 about1 theMethod args0 below0 :=
  ⟨lists_1, trivial, launch0.admits_env _ _ _, launch0.least_env, fairChoices_fair.cas, fairChoices_fair.clock, w_frames, w_args, w_heap, w_applies, trivial, w_rest, w_case⟩
end start1
theorem witness_1 : WitnessClaimed_1 := ⟨start1.p0, start1.e0, start1.about1, start1.theMethod, start1.args0, start1.below0, start1.atStart⟩
end Jvm.Pilot.@@N@@
