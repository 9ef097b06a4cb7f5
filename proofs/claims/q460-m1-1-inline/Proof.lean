import JvmDerived
import JvmDerived.Pilot.@@N@@Statement
import JvmDerived.Pilot.@@N@@Code
set_option linter.unusedVariables false
set_option linter.unusedSimpArgs false
namespace Jvm.Pilot.@@N@@
open Jvm Jvm.ClassFile Sem Op Lib Jvm.Free Jvm.Stand Jvm.LawKit Jvm.RoadKit Bundle Jvm.Pilot.@@N@@.Jvm.D
/-- cells made since the law began, none of them a booked literal's -/
def OwnL (Z : State) (EL : List (String × Nat)) (n0 : Nat) (vm : Vm) (h : Heap) (sf : List Addr) : Prop := ∀ x ∈ sf, x < h.size ∧ n0 ≤ x ∧ Safe Z EL vm h x
/-- all that a walk bears at one point -/
def Wk (l : Launch) (Z : State) (a0 : Array Value) (EL : List (String × Nat)) (n0 : Nat) (R : Room) (own : String) (bytes : ByteArray) (maxL : Nat) (ret : Option FieldType) (nm : String) (h : Heap) (sf : List Addr) (ce sl : Nat)
    (p : Program) (e : Env) (s : State) (m : MethodId) (args : Array Value) (below : List Frame) (meth : Method) (c : Code) (T : State) : Prop :=
  (p.tables.exec = Jvm.exec ∧ c.code = bytes ∧ c.maxLocals = maxL ∧ meth.sig.returnType = ret ∧ meth.name = nm ∧ meth.locks = false ∧ EW Z a0 EL ∧ Old Z n0 h) ∧
    ∃ (vm0 : Vm) (locs : List Loc) (k0 : Nat), Stand p l e R (s.setVm vm0) m args below meth c T locs ce sl ∧ T.heap = h ∧ s.Since vm0 k0 ∧ k0 ≤ h.size ∧ Z.Warmed39 vm0 ∧ vm0.findClass own = some m.cls ∧ Fr n0 locs ∧ CHr Z EL s.vm s.heap vm0 h ∧ OwnL Z EL n0 vm0 h sf
/-- the run from here ends as Q says -/
def Fin1 (Z : State) (EL : List (String × Nat)) (n0 : Nat) (R : Room) (Q : Option Value → Heap → List Addr → Prop) (p : Program) (e : Env) (s : State) (below : List Frame) (U : State) : Prop :=
  ∃ t o, Steps p.tables e below U t ∧ t.status = .running ∧ Ended t below o ∧ ∃ v L sf, o = .returned v ∧ Q v t.heap sf ∧ Fr n0 L ∧ CHr Z EL s.vm s.heap t.vm t.heap ∧ OwnL Z EL n0 t.vm t.heap sf ∧ Old Z n0 t.heap ∧ ReturnedEndW s o t L R.cells R.slots
/-- from every such point, with this frame on top, the run ends as Q says -/
def Go (l : Launch) (Z : State) (a0 : Array Value) (EL : List (String × Nat)) (n0 : Nat) (R : Room) (own : String) (bytes : ByteArray) (maxL : Nat) (ret : Option FieldType) (nm : String) (Q : Option Value → Heap → List Addr → Prop)
    (h : Heap) (sf : List Addr) (ce sl pc : Nat) (ls : Array Slot) (st : List Value) : Prop :=
  ∀ p e s m args below meth c T, Wk l Z a0 EL n0 R own bytes maxL ret nm h sf ce sl p e s m args below meth c T → Fin1 Z EL n0 R Q p e s below (T.setTop (mkF m pc ls st))
/-- a body's contract -/
def Con (l : Launch) (Z : State) (EL : List (String × Nat)) (n0 : Nat) (y : MethodName) (bytes : ByteArray) (maxL : Nat) (ret : Option FieldType) (ws : List Jvm.Cond) (R : Room) (as : Array Value) (h : Heap) (sf : List Addr) (Q : Option Value → Heap → List Addr → Prop) : Prop :=
  MetFree l y (head1 (Jvm.Cond.code y bytes maxL ret :: ws) R) (fun a U => a = as ∧ Z.Warmed39 U.vm ∧ U.heap = h ∧ CHv Z EL U.vm h ∧ OwnL Z EL n0 U.vm h sf ∧ Old Z n0 h) (fun _ _ _ _ _ => True)
    (fun _ U o U' => ∃ v L sf', o = .returned v ∧ Q v U'.heap sf' ∧ Fr n0 L ∧ CHr Z EL U.vm U.heap U'.vm U'.heap ∧ OwnL Z EL n0 U'.vm U'.heap sf' ∧ Old Z n0 U'.heap ∧ ReturnedEndW U o U' L R.cells R.slots)
section Walk
variable {l : Launch} {Z : State} {a0 : Array Value} {EL : List (String × Nat)} {n0 : Nat} {R : Room} {own : String} {bytes : ByteArray} {maxL : Nat} {ret : Option FieldType} {nm : String} {Q : Option Value → Heap → List Addr → Prop}
  {h : Heap} {sf : List Addr} {ce sl pc pc' pt : Nat} {ls ls' : Array Slot} {st rest : List Value}
theorem OwnL.nil {vm : Vm} : OwnL Z EL n0 vm h [] := fun _ q => nomatch q
theorem OwnL.cons {vm : Vm} {x : Addr} (h1 : x < h.size) (h2 : n0 ≤ x) (h3 : Safe Z EL vm h x) (O : OwnL Z EL n0 vm h sf) : OwnL Z EL n0 vm h (x :: sf) := fun y q => by
  rcases List.mem_cons.mp q with rfl | q
  · exact ⟨h1, h2, h3⟩
  · exact O y q
theorem OwnL.app {vm : Vm} {sf' : List Addr} (A : OwnL Z EL n0 vm h sf') (B : OwnL Z EL n0 vm h sf) : OwnL Z EL n0 vm h (sf' ++ sf) := fun y q => (List.mem_append.mp q).elim (A y) (B y)
theorem OwnL.sub {vm : Vm} {sf' : List Addr} (B : OwnL Z EL n0 vm h sf) (q : ∀ x ∈ sf', x ∈ sf) : OwnL Z EL n0 vm h sf' := fun y r => B y (q y r)
theorem OwnL.mv {vm vm1 : Vm} {h' : Heap} (A : CHr Z EL vm h vm1 h') (B : OwnL Z EL n0 vm h sf) : OwnL Z EL n0 vm1 h' sf := fun y r => by
  obtain ⟨q1, q2, q3⟩ := B y r
  exact ⟨Nat.lt_of_lt_of_le q1 A.2.1, q2, A.safe q1 q3⟩
/-- fewer owned cells, the same walk -/
theorem Go.sub {sf' : List Addr} (hr : Go l Z a0 EL n0 R own bytes maxL ret nm Q h sf' ce sl pc ls st) (q : ∀ x ∈ sf', x ∈ sf) : Go l Z a0 EL n0 R own bytes maxL ret nm Q h sf ce sl pc ls st := by
  intro p e s m args below meth c T W
  obtain ⟨W1, vm0, locs, k0, X, eT, hS, hk, hZ, hown, N, C, O⟩ := W
  exact hr p e s m args below meth c T ⟨W1, vm0, locs, k0, X, eT, hS, hk, hZ, hown, N, C, O.sub q⟩
theorem Go.old (hr : Old Z n0 h → Go l Z a0 EL n0 R own bytes maxL ret nm Q h sf ce sl pc ls st) : Go l Z a0 EL n0 R own bytes maxL ret nm Q h sf ce sl pc ls st := by
  intro p e s m args below meth c T W
  exact hr W.1.2.2.2.2.2.2.2 p e s m args below meth c T W
theorem Go.owned (hr : (∀ x ∈ sf, x < h.size ∧ n0 ≤ x) → Go l Z a0 EL n0 R own bytes maxL ret nm Q h sf ce sl pc ls st) : Go l Z a0 EL n0 R own bytes maxL ret nm Q h sf ce sl pc ls st := by
  intro p e s m args below meth c T W
  refine hr (fun x q => ?_) p e s m args below meth c T W
  obtain ⟨W1, vm0, locs, k0, X, eT, hS, hk, hZ, hown, N, C, O⟩ := W
  exact ⟨(O x q).1, (O x q).2.1⟩
theorem Go.more {ce' sl' : Nat} (hr : Go l Z a0 EL n0 R own bytes maxL ret nm Q h sf ce' sl' pc ls st) (q1 : ce ≤ ce') (q2 : sl ≤ sl') : Go l Z a0 EL n0 R own bytes maxL ret nm Q h sf ce sl pc ls st := by
  intro p e s m args below meth c T W
  obtain ⟨W1, vm0, locs, k0, X, r⟩ := W
  exact hr p e s m args below meth c T ⟨W1, vm0, locs, k0, ⟨X.admits, X.cas, X.clock, X.frames, X.room, X.hears, X.method, X.code, X.here, X.tail, X.warmed, X.limits, X.bytes, X.same.mono q1 q2⟩, r⟩
theorem Go.mono {Q' : Option Value → Heap → List Addr → Prop} (hr : Go l Z a0 EL n0 R own bytes maxL ret nm Q' h sf ce sl pc ls st) (q : ∀ v h' sf', Q' v h' sf' → Q v h' sf') : Go l Z a0 EL n0 R own bytes maxL ret nm Q h sf ce sl pc ls st := by
  intro p e s m args below meth c T W
  obtain ⟨t, o, h1, h2, h3, v, L, sf', e1, h4, h5⟩ := hr p e s m args below meth c T W
  exact ⟨t, o, h1, h2, h3, v, L, sf', e1, q _ _ _ h4, h5⟩
/-- one step that moves the frame alone -/
theorem go_step (hr : Go l Z a0 EL n0 R own bytes maxL ret nm Q h sf ce sl pc' ls' rest)
    (k : ∀ {p : Program} {e : Env} {m : MethodId} {below : List Frame} {c : Code} {T t : State}, At T m c below → p.tables.exec = Jvm.exec → c.code = bytes → Steps p.tables e below (T.setTop (mkF m pc' ls' rest)) t → Steps p.tables e below (T.setTop (mkF m pc ls st)) t) :
    Go l Z a0 EL n0 R own bytes maxL ret nm Q h sf ce sl pc ls st := by
  intro p e s m args below meth c T W
  obtain ⟨t, o, h1, h2⟩ := hr p e s m args below meth c T W
  obtain ⟨⟨hx, hby, -⟩, vm0, locs, k0, X, -⟩ := W
  exact ⟨t, o, k X.here hx hby h1, h2⟩
/-- one step that may resolve an entry: the heap as it was -/
theorem go_move (hr : Go l Z a0 EL n0 R own bytes maxL ret nm Q h sf ce sl pc' ls' rest)
    (k : ∀ {p : Program} {e : Env} {s : State} {m : MethodId} {args : Array Value} {below : List Frame} {meth : Method} {c : Code} {T : State} {locs : List Loc}, Stand p l e R s m args below meth c T locs ce sl → p.tables.exec = Jvm.exec → c.code = bytes → c.maxLocals = maxL → T.heap = h → Z.Warmed39 s.vm → s.vm.findClass own = some m.cls → Old Z n0 h →
      ∃ T', Stand p l e R s m args below meth c T' locs ce sl ∧ T'.heap = h ∧ ∀ t, Steps p.tables e below (T'.setTop (mkF m pc' ls' rest)) t → Steps p.tables e below (T.setTop (mkF m pc ls st)) t) :
    Go l Z a0 EL n0 R own bytes maxL ret nm Q h sf ce sl pc ls st := by
  intro p e s m args below meth c T W
  obtain ⟨⟨hx, hby, hml, hret, hnm, hlk, hEL, hOld⟩, vm0, locs, k0, X, eT, hS, hk, hZ, hown, N, C, O⟩ := W
  obtain ⟨T', X', eT', st'⟩ := k (s := s.setVm vm0) X hx hby hml eT hZ hown hOld
  obtain ⟨t, o, h1, h2⟩ := hr p e s m args below meth c T' ⟨⟨hx, hby, hml, hret, hnm, hlk, hEL, hOld⟩, vm0, locs, k0, X', eT', hS, hk, hZ, hown, N, C, O⟩
  exact ⟨t, o, st' _ h1, h2⟩
/-- one step that makes cells -/
theorem go_make {P : Heap → Addr → Prop} {ce' sl' : Nat}
    (k : ∀ {p : Program} {e : Env} {s : State} {m : MethodId} {args : Array Value} {below : List Frame} {meth : Method} {c : Code} {T : State} {locs : List Loc}, Stand p l e R s m args below meth c T locs ce sl → p.tables.exec = Jvm.exec → c.code = bytes → c.maxLocals = maxL → T.heap = h → Z.Warmed39 s.vm → s.vm.findClass own = some m.cls →
      ∃ T' h', Stand p l e R s m args below meth c T' locs ce' sl' ∧ T'.heap = h' ∧ Ext h h' ∧ h.size < h'.size ∧ P h' h.size ∧ ∀ t, Steps p.tables e below (T'.setTop (mkF m pc' ls' (.ref h.size :: rest))) t → Steps p.tables e below (T.setTop (mkF m pc ls st)) t)
    (hr : ∀ h' x, x = h.size → Ext h h' → P h' x → Go l Z a0 EL n0 R own bytes maxL ret nm Q h' (x :: sf) ce' sl' pc' ls' (.ref x :: rest)) :
    Go l Z a0 EL n0 R own bytes maxL ret nm Q h sf ce sl pc ls st := by
  intro p e s m args below meth c T W
  obtain ⟨⟨hx, hby, hml, hret, hnm, hlk, hEL, hOld⟩, vm0, locs, k0, X, eT, hS, hk, hZ, hown, N, C, O⟩ := W
  obtain ⟨T', h', X', eT', E, hlt, hP, st'⟩ := k (s := s.setVm vm0) X hx hby hml eT hZ hown
  have A := CHr.ext E C.1
  have hn : n0 ≤ h.size := by have := hOld.1; have := hOld.2.1; omega
  obtain ⟨t, o, h1, h2⟩ := hr h' h.size rfl E hP p e s m args below meth c T' ⟨⟨hx, hby, hml, hret, hnm, hlk, hEL, hOld.ext E⟩, vm0, locs, k0, X', eT', hS, Nat.le_trans hk E.1, hZ, hown, N, C.trans A,
    OwnL.cons hlt hn (Safe.ext E C.1 (Safe.new (Nat.le_refl _))) (O.mv A)⟩
  exact ⟨t, o, st' _ h1, h2⟩
/-- one step that writes one place of an owned cell -/
theorem go_write {x : Addr} {k1 : Nat} {v1 : Value} (hm : x ∈ sf)
    (k : ∀ {p : Program} {e : Env} {s : State} {m : MethodId} {args : Array Value} {below : List Frame} {meth : Method} {c : Code} {T : State} {locs : List Loc}, Stand p l e R s m args below meth c T locs ce sl → p.tables.exec = Jvm.exec → c.code = bytes → meth.name = nm → T.heap = h → Z.Warmed39 s.vm → s.vm.findClass own = some m.cls →
      ∃ T' h', Stand p l e R s m args below meth c T' (locs ++ [⟨x, k1⟩]) ce sl ∧ T'.heap = h' ∧ Wr h h' x k1 v1 ∧ ∀ t, Steps p.tables e below (T'.setTop (mkF m pc' ls' rest)) t → Steps p.tables e below (T.setTop (mkF m pc ls st)) t)
    (hr : ∀ h', Wr h h' x k1 v1 → Go l Z a0 EL n0 R own bytes maxL ret nm Q h' sf ce sl pc' ls' rest) :
    Go l Z a0 EL n0 R own bytes maxL ret nm Q h sf ce sl pc ls st := by
  intro p e s m args below meth c T W
  obtain ⟨⟨hx, hby, hml, hret, hnm, hlk, hEL, hOld⟩, vm0, locs, k0, X, eT, hS, hk, hZ, hown, N, C, O⟩ := W
  obtain ⟨T', h', X', eT', Ww, st'⟩ := k (s := s.setVm vm0) X hx hby hnm eT hZ hown
  obtain ⟨q1, q2, q3⟩ := O x hm
  have A := CHr.wr Ww q3 C.1
  obtain ⟨t, o, h1, h2⟩ := hr h' Ww p e s m args below meth c T' ⟨⟨hx, hby, hml, hret, hnm, hlk, hEL, hOld.wr Ww q2⟩, vm0, _, k0, X', eT', hS, by rw [Ww.size]; exact hk, hZ, hown, N.snoc X' q2, C.trans A, O.mv A⟩
  exact ⟨t, o, st' _ h1, h2⟩
/-- the end -/
theorem go_out {v : Option Value} {sf' : List Addr} (hv : ret = none → v = none) (hc : ce ≤ R.cells) (hs : sl ≤ R.slots) (hsub : ∀ x ∈ sf', x ∈ sf)
    (k : ∀ {p : Program} {e : Env} {s : State} {m : MethodId} {args : Array Value} {below : List Frame} {meth : Method} {c : Code} {T : State} {locs : List Loc} {fs : List Frame}, Stand p l e R s m args below meth c T locs ce sl → p.tables.exec = Jvm.exec → c.code = bytes → meth.sig.returnType = ret →
      (∀ (f : JFrame) (acts : List Action), f.method = m → f.locked = none → f.entered = [] → (doReturn e (T.setTop f) acts v).1 = T.setFrames fs) → Steps p.tables e below (T.setTop (mkF m pc ls st)) (T.setFrames fs))
    (hq : Q v h sf') : Go l Z a0 EL n0 R own bytes maxL ret nm Q h sf ce sl pc ls st := by
  intro p e s m args below meth c T W
  obtain ⟨⟨hx, hby, hml, hret, hnm, hlk, hEL, hOld⟩, vm0, locs, k0, X, eT, hS, hk, hZ, hown, N, C, O⟩ := W
  obtain ⟨fs, hl, hrun, hend, hR⟩ := X.leaveW (v := v) hS (by rw [eT]; exact hk) (by rw [hret]; exact hv) hlk
  have A := CHv.at X hZ hEL C.1
  subst eT
  refine ⟨_, _, k (s := s.setVm vm0) X hx hby hret hl, hrun, hend, v, locs, sf', rfl, hq, N, C.trans A, (O.mv A).sub hsub, hOld, hR.1, hR.2.1, hR.2.2.1, hR.2.2.2.mono hc hs⟩
/-- into a body -/
theorem con_of {y : MethodName} {ws : List Jvm.Cond} {as : Array Value} (hpl : plainFor y = true) (hEW : EW Z a0 EL) (hE : ∀ m, entryFrame m as maxL = mkF m 0 ls [])
    (hr : Go l Z a0 EL n0 R y.cls bytes maxL ret y.name Q h sf 0 0 0 ls []) : Con l Z EL n0 y bytes maxL ret ws R as h sf Q := by
  refine MetFree.of_bodySF hpl hisR ?_
  intro p e s m args below meth c s₁ Bd hml0 hP hK
  obtain ⟨rfl, hZ, hh, hC, hO, hOld⟩ := hP
  have X0 : Stand p l e R s m args below meth c s₁ [] 0 0 := Stand.of_body Bd
  have e0 : s₁.heap = h := by rw [← hh, Bd.state]; rfl
  subst hh
  obtain ⟨t, o, h1, h2⟩ := hr p e s m args below meth c s₁ ⟨⟨Bd.exec, Bd.bytes, hml0, Bd.returns, (name_of_methodNamed Bd.named Bd.method).1, Bd.notSynchronized, hEW, hOld⟩, s.vm, [], 0, X0, e0, (State.WarmedH.refl s).since 0, Nat.zero_le _, hZ, findClass_of_methodNamed Bd.named, Fr.nil n0, CHr.refl hC, hO⟩
  exact ⟨t, o, castTop (hE m) h1, h2⟩
/-- a contract as a payer -/
theorem back_of {p : Program} {e : Env} {s : State} {args : Array Value} {below : List Frame} {vm0 : Vm} {R' : Room} {y : MethodName} {as : Array Value} {len W : Nat}
    (hM : Con l Z EL n0 y bytes maxL ret [] R' as h sf Q) (hZ : Z.Warmed39 vm0) (wc : (Jvm.Cond.code y bytes maxL ret).before a0 Z = true) (wz : (Jvm.Cond.initialized y.cls).before a0 Z = true) (hf : R'.frames + 1 ≤ R.frames) (hl : W + (maxL + 11) + R'.locals ≤ R.locals) (hEL : EW Z a0 EL) (H : CHv Z EL vm0 h) (O : OwnL Z EL n0 vm0 h sf) (hOld : Old Z n0 h) :
    BackS l R p e below (s.setVm vm0) args y len W (fun A a => a = as ∧ A.U.heap = h ∧ A.cells + R'.cells ≤ R.cells ∧ A.slots + R'.slots ≤ R.slots)
      (fun A _ v B => ∃ L sf', Q v B.U.heap sf' ∧ Fr n0 L ∧ OwnL Z EL n0 B.U.vm B.U.heap sf' ∧ Old Z n0 B.U.heap ∧ B.locs = A.locs ++ L ∧ B.cells = A.cells + R'.cells ∧ B.slots = A.slots + R'.slots ∧ CHr Z EL vm0 h B.U.vm B.U.heap) :=
  BackS.of_freeW (bytes := bytes) (maxL := maxL) (ret := ret) (E := fun _ first o t L k n => k = R'.cells ∧ n = R'.slots ∧ Fr n0 L ∧ (∃ v sf', o = .returned v ∧ Q v t.heap sf' ∧ OwnL Z EL n0 t.vm t.heap sf' ∧ Old Z n0 t.heap) ∧ CHr Z EL first.vm first.heap t.vm t.heap) hM hf hl
    (fun m meth c A a Y hp => have hU : Z.Warmed39 A.U.vm := wtrans (s := s.setVm vm0) hZ Y.warmed
      ⟨by show (Jvm.Cond.and _ .tt).before a A.U = true; rw [Cond.before_and, RoadKit.mv hU wc]; rfl, RoadKit.mv hU wc, RoadKit.mv hU wz, hp.2.2.1, hp.2.2.2⟩)
    (fun m meth c A a g mk Y hp => ⟨hp.1, wtrans (s := s.setVm vm0) hZ Y.warmed, hp.2.1, (CHv.at Y hZ hEL H).1, show OwnL Z EL n0 A.U.vm h sf from O.mv (CHv.at Y hZ hEL H), hOld⟩) (fun _ _ _ _ _ _ _ _ _ => trivial)
    (fun _ _ _ _ ⟨v, L, sf', h1, h2, h3, h4, h5, h6, h7⟩ => ⟨L, _, _, h7, rfl, rfl, h3, ⟨v, sf', h1, h2, h5, h6⟩, h4⟩)
    (fun m meth c A a g mk v t L k n Y hp _ _ ⟨e1, e2, e3, ⟨v', sf', e4, e5, e6, e7⟩, e8⟩ => by
      cases e4; subst e1 e2
      refine ⟨L, sf', e5, e3, e6, e7, rfl, rfl, rfl, (CHv.at Y hZ hEL H).trans ?_⟩
      rw [← hp.2.1]; exact e8)
theorem go_aloadN {k : Fin 4} {v : Value} (hd : decode bytes pc = .ok (.aload_n k, 1)) (hp : pc + 1 = pc') (hl : ls[k.val]? = some (.val v)) (hv : v.isRef = true) (hr : Go l Z a0 EL n0 R own bytes maxL ret nm Q h sf ce sl pc' ls (v :: st)) : Go l Z a0 EL n0 R own bytes maxL ret nm Q h sf ce sl pc ls st := by
  subst hp
  exact go_step hr fun A hx hb kk => XS.aloadN A hx rfl (Jvm.hb hb hd) hl hv kk
theorem go_aload {k : Nat} {v : Value} (hd : decode bytes pc = .ok (.aload k, 2)) (hp : pc + 2 = pc') (hl : ls[k]? = some (.val v)) (hv : v.isRef = true) (hr : Go l Z a0 EL n0 R own bytes maxL ret nm Q h sf ce sl pc' ls (v :: st)) : Go l Z a0 EL n0 R own bytes maxL ret nm Q h sf ce sl pc ls st := by
  subst hp
  exact go_step hr fun A hx hb kk => XS.aload A hx rfl (Jvm.hb hb hd) hl hv kk
theorem go_iloadN {k : Fin 4} {v : Int32} (hd : decode bytes pc = .ok (.iload_n k, 1)) (hp : pc + 1 = pc') (hl : ls[k.val]? = some (.val (.int v))) (hr : Go l Z a0 EL n0 R own bytes maxL ret nm Q h sf ce sl pc' ls (.int v :: st)) : Go l Z a0 EL n0 R own bytes maxL ret nm Q h sf ce sl pc ls st := by
  subst hp
  exact go_step hr fun A hx hb kk => XS.iloadN A hx rfl (Jvm.hb hb hd) hl kk
theorem go_iload {k : Nat} {v : Int32} (hd : decode bytes pc = .ok (.iload k, 2)) (hp : pc + 2 = pc') (hl : ls[k]? = some (.val (.int v))) (hr : Go l Z a0 EL n0 R own bytes maxL ret nm Q h sf ce sl pc' ls (.int v :: st)) : Go l Z a0 EL n0 R own bytes maxL ret nm Q h sf ce sl pc ls st := by
  subst hp
  exact go_step hr fun A hx hb kk => XS.iload A hx rfl (Jvm.hb hb hd) hl kk
theorem go_lloadN {k : Fin 4} {v : Int64} (hd : decode bytes pc = .ok (.lload_n k, 1)) (hp : pc + 1 = pc') (hl : ls[k.val]? = some (.val (.long v))) (hr : Go l Z a0 EL n0 R own bytes maxL ret nm Q h sf ce sl pc' ls (.long v :: st)) : Go l Z a0 EL n0 R own bytes maxL ret nm Q h sf ce sl pc ls st := by
  subst hp
  exact go_step hr fun A hx hb kk => XT.lloadN A hx rfl (Jvm.hb hb hd) hl kk
theorem go_lload {k : Nat} {v : Int64} (hd : decode bytes pc = .ok (.lload k, 2)) (hp : pc + 2 = pc') (hl : ls[k]? = some (.val (.long v))) (hr : Go l Z a0 EL n0 R own bytes maxL ret nm Q h sf ce sl pc' ls (.long v :: st)) : Go l Z a0 EL n0 R own bytes maxL ret nm Q h sf ce sl pc ls st := by
  subst hp
  exact go_step hr fun A hx hb kk => XT.lload A hx rfl (Jvm.hb hb hd) hl kk
theorem go_iconst {i : Int} (v : Int32) (hd : decode bytes pc = .ok (.iconst i, 1)) (hp : pc + 1 = pc') (hv : Int32.ofInt i = v) (hr : Go l Z a0 EL n0 R own bytes maxL ret nm Q h sf ce sl pc' ls (.int v :: st)) : Go l Z a0 EL n0 R own bytes maxL ret nm Q h sf ce sl pc ls st := by
  subst hp
  exact go_step hr fun A hx hb kk => XT.iconstV A hx rfl v (Jvm.hb hb hd) hv kk
theorem go_bipush {i : Int} (v : Int32) (hd : decode bytes pc = .ok (.bipush i, 2)) (hp : pc + 2 = pc') (hv : (Int8.ofInt i).toInt32 = v) (hr : Go l Z a0 EL n0 R own bytes maxL ret nm Q h sf ce sl pc' ls (.int v :: st)) : Go l Z a0 EL n0 R own bytes maxL ret nm Q h sf ce sl pc ls st := by
  subst hp
  exact go_step hr fun A hx hb kk => XT.bipushV A hx rfl v (Jvm.hb hb hd) hv kk
theorem go_sipush {i : Int} (v : Int32) (hd : decode bytes pc = .ok (.sipush i, 3)) (hp : pc + 3 = pc') (hv : (Int16.ofInt i).toInt32 = v) (hr : Go l Z a0 EL n0 R own bytes maxL ret nm Q h sf ce sl pc' ls (.int v :: st)) : Go l Z a0 EL n0 R own bytes maxL ret nm Q h sf ce sl pc ls st := by
  subst hp
  exact go_step hr fun A hx hb kk => XT.sipushV A hx rfl v (Jvm.hb hb hd) hv kk
theorem go_lconst {k : Fin 2} (v : Int64) (hd : decode bytes pc = .ok (.lconst k, 1)) (hp : pc + 1 = pc') (hv : Int64.ofNat k = v) (hr : Go l Z a0 EL n0 R own bytes maxL ret nm Q h sf ce sl pc' ls (.long v :: st)) : Go l Z a0 EL n0 R own bytes maxL ret nm Q h sf ce sl pc ls st := by
  subst hp
  exact go_step hr fun A hx hb kk => XT.lconstV A hx rfl v (Jvm.hb hb hd) hv kk
theorem go_aconstNull (hd : decode bytes pc = .ok (.aconst_null, 1)) (hp : pc + 1 = pc') (hr : Go l Z a0 EL n0 R own bytes maxL ret nm Q h sf ce sl pc' ls (.null :: st)) : Go l Z a0 EL n0 R own bytes maxL ret nm Q h sf ce sl pc ls st := by
  subst hp
  exact go_step hr fun A hx hb kk => XS.aconstNull A hx rfl (Jvm.hb hb hd) kk
theorem go_iadd {x y : Int32} (hd : decode bytes pc = .ok (.iadd, 1)) (hp : pc + 1 = pc') (hr : Go l Z a0 EL n0 R own bytes maxL ret nm Q h sf ce sl pc' ls (.int (x + y) :: st)) : Go l Z a0 EL n0 R own bytes maxL ret nm Q h sf ce sl pc ls (.int y :: .int x :: st) := by
  subst hp
  exact go_step hr fun A hx hb kk => XS.iadd A hx rfl (Jvm.hb hb hd) rfl kk
theorem go_isub {x y : Int32} (hd : decode bytes pc = .ok (.isub, 1)) (hp : pc + 1 = pc') (hr : Go l Z a0 EL n0 R own bytes maxL ret nm Q h sf ce sl pc' ls (.int (x - y) :: st)) : Go l Z a0 EL n0 R own bytes maxL ret nm Q h sf ce sl pc ls (.int y :: .int x :: st) := by
  subst hp
  exact go_step hr fun A hx hb kk => XS.isub A hx rfl (Jvm.hb hb hd) rfl kk
theorem go_imul {x y : Int32} (hd : decode bytes pc = .ok (.imul, 1)) (hp : pc + 1 = pc') (hr : Go l Z a0 EL n0 R own bytes maxL ret nm Q h sf ce sl pc' ls (.int (x * y) :: st)) : Go l Z a0 EL n0 R own bytes maxL ret nm Q h sf ce sl pc ls (.int y :: .int x :: st) := by
  subst hp
  exact go_step hr fun A hx hb kk => XS.imul A hx rfl (Jvm.hb hb hd) rfl kk
theorem go_iand {x y : Int32} (hd : decode bytes pc = .ok (.iand, 1)) (hp : pc + 1 = pc') (hr : Go l Z a0 EL n0 R own bytes maxL ret nm Q h sf ce sl pc' ls (.int (x &&& y) :: st)) : Go l Z a0 EL n0 R own bytes maxL ret nm Q h sf ce sl pc ls (.int y :: .int x :: st) := by
  subst hp
  exact go_step hr fun A hx hb kk => XS.iand A hx rfl (Jvm.hb hb hd) rfl kk
theorem go_ior {x y : Int32} (hd : decode bytes pc = .ok (.ior, 1)) (hp : pc + 1 = pc') (hr : Go l Z a0 EL n0 R own bytes maxL ret nm Q h sf ce sl pc' ls (.int (x ||| y) :: st)) : Go l Z a0 EL n0 R own bytes maxL ret nm Q h sf ce sl pc ls (.int y :: .int x :: st) := by
  subst hp
  exact go_step hr fun A hx hb kk => XT.ior A hx rfl (Jvm.hb hb hd) rfl kk
theorem go_ixor {x y : Int32} (hd : decode bytes pc = .ok (.ixor, 1)) (hp : pc + 1 = pc') (hr : Go l Z a0 EL n0 R own bytes maxL ret nm Q h sf ce sl pc' ls (.int (x ^^^ y) :: st)) : Go l Z a0 EL n0 R own bytes maxL ret nm Q h sf ce sl pc ls (.int y :: .int x :: st) := by
  subst hp
  exact go_step hr fun A hx hb kk => XT.ixor A hx rfl (Jvm.hb hb hd) rfl kk
theorem go_iushr {x y : Int32} (hd : decode bytes pc = .ok (.iushr, 1)) (hp : pc + 1 = pc') (hr : Go l Z a0 EL n0 R own bytes maxL ret nm Q h sf ce sl pc' ls (.int (XT.ushr x y) :: st)) : Go l Z a0 EL n0 R own bytes maxL ret nm Q h sf ce sl pc ls (.int y :: .int x :: st) := by
  subst hp
  exact go_step hr fun A hx hb kk => XT.iushr A hx rfl (Jvm.hb hb hd) rfl kk
theorem go_ishl {x y : Int32} (hd : decode bytes pc = .ok (.ishl, 1)) (hp : pc + 1 = pc') (hr : Go l Z a0 EL n0 R own bytes maxL ret nm Q h sf ce sl pc' ls (.int (x <<< (y &&& 31)) :: st)) : Go l Z a0 EL n0 R own bytes maxL ret nm Q h sf ce sl pc ls (.int y :: .int x :: st) := by
  subst hp
  exact go_step hr fun A hx hb kk => XT.ishl A hx rfl (Jvm.hb hb hd) rfl kk
theorem go_ishr {x y : Int32} (hd : decode bytes pc = .ok (.ishr, 1)) (hp : pc + 1 = pc') (hr : Go l Z a0 EL n0 R own bytes maxL ret nm Q h sf ce sl pc' ls (.int (x >>> (y &&& 31)) :: st)) : Go l Z a0 EL n0 R own bytes maxL ret nm Q h sf ce sl pc ls (.int y :: .int x :: st) := by
  subst hp
  exact go_step hr fun A hx hb kk => XT.ishr A hx rfl (Jvm.hb hb hd) rfl kk
theorem go_ineg {x : Int32} (hd : decode bytes pc = .ok (.ineg, 1)) (hp : pc + 1 = pc') (hr : Go l Z a0 EL n0 R own bytes maxL ret nm Q h sf ce sl pc' ls (.int (-x) :: st)) : Go l Z a0 EL n0 R own bytes maxL ret nm Q h sf ce sl pc ls (.int x :: st) := by
  subst hp
  exact go_step hr fun A hx hb kk => XS.ineg A hx rfl (Jvm.hb hb hd) rfl kk
theorem go_i2b {x : Int32} (hd : decode bytes pc = .ok (.i2b, 1)) (hp : pc + 1 = pc') (hr : Go l Z a0 EL n0 R own bytes maxL ret nm Q h sf ce sl pc' ls (.int x.toInt8.toInt32 :: st)) : Go l Z a0 EL n0 R own bytes maxL ret nm Q h sf ce sl pc ls (.int x :: st) := by
  subst hp
  exact go_step hr fun A hx hb kk => XT.i2b A hx rfl (Jvm.hb hb hd) rfl kk
theorem go_i2c {x : Int32} (hd : decode bytes pc = .ok (.i2c, 1)) (hp : pc + 1 = pc') (hr : Go l Z a0 EL n0 R own bytes maxL ret nm Q h sf ce sl pc' ls (.int x.toUInt32.toUInt16.toUInt32.toInt32 :: st)) : Go l Z a0 EL n0 R own bytes maxL ret nm Q h sf ce sl pc ls (.int x :: st) := by
  subst hp
  exact go_step hr fun A hx hb kk => XT.i2c A hx rfl (Jvm.hb hb hd) rfl kk
theorem go_i2l {x : Int32} (hd : decode bytes pc = .ok (.i2l, 1)) (hp : pc + 1 = pc') (hr : Go l Z a0 EL n0 R own bytes maxL ret nm Q h sf ce sl pc' ls (.long x.toInt64 :: st)) : Go l Z a0 EL n0 R own bytes maxL ret nm Q h sf ce sl pc ls (.int x :: st) := by
  subst hp
  exact go_step hr fun A hx hb kk => XT.i2l A hx rfl (Jvm.hb hb hd) rfl kk
theorem go_l2i {x : Int64} (hd : decode bytes pc = .ok (.l2i, 1)) (hp : pc + 1 = pc') (hr : Go l Z a0 EL n0 R own bytes maxL ret nm Q h sf ce sl pc' ls (.int x.toInt32 :: st)) : Go l Z a0 EL n0 R own bytes maxL ret nm Q h sf ce sl pc ls (.long x :: st) := by
  subst hp
  exact go_step hr fun A hx hb kk => XT.l2i A hx rfl (Jvm.hb hb hd) rfl kk
theorem go_land {x y : Int64} (hd : decode bytes pc = .ok (.land, 1)) (hp : pc + 1 = pc') (hr : Go l Z a0 EL n0 R own bytes maxL ret nm Q h sf ce sl pc' ls (.long (x &&& y) :: st)) : Go l Z a0 EL n0 R own bytes maxL ret nm Q h sf ce sl pc ls (.long y :: .long x :: st) := by
  subst hp
  exact go_step hr fun A hx hb kk => XT.land A hx rfl (Jvm.hb hb hd) rfl kk
theorem go_lushr {x : Int64} {y : Int32} (hd : decode bytes pc = .ok (.lushr, 1)) (hp : pc + 1 = pc') (hr : Go l Z a0 EL n0 R own bytes maxL ret nm Q h sf ce sl pc' ls (.long (XT.ushrL x y) :: st)) : Go l Z a0 EL n0 R own bytes maxL ret nm Q h sf ce sl pc ls (.int y :: .long x :: st) := by
  subst hp
  exact go_step hr fun A hx hb kk => XT.lushr A hx rfl (Jvm.hb hb hd) rfl kk
theorem go_dup {x : Value} (hd : decode bytes pc = .ok (.dup, 1)) (hp : pc + 1 = pc') (hc : x.category = 1) (hr : Go l Z a0 EL n0 R own bytes maxL ret nm Q h sf ce sl pc' ls (x :: x :: st)) : Go l Z a0 EL n0 R own bytes maxL ret nm Q h sf ce sl pc ls (x :: st) := by
  subst hp
  exact go_step hr fun A hx hb kk => XS.dup A hx rfl (Jvm.hb hb hd) rfl hc kk
theorem go_pop {x : Value} (hd : decode bytes pc = .ok (.pop, 1)) (hp : pc + 1 = pc') (hc : x.category = 1) (hr : Go l Z a0 EL n0 R own bytes maxL ret nm Q h sf ce sl pc' ls st) : Go l Z a0 EL n0 R own bytes maxL ret nm Q h sf ce sl pc ls (x :: st) := by
  subst hp
  exact go_step hr fun A hx hb kk => XT.pop A hx rfl (Jvm.hb hb hd) rfl hc kk
theorem go_dupX1 {x y : Value} (hd : decode bytes pc = .ok (.dup_x1, 1)) (hp : pc + 1 = pc') (hc : x.category = 1) (hc' : y.category = 1) (hr : Go l Z a0 EL n0 R own bytes maxL ret nm Q h sf ce sl pc' ls (x :: y :: x :: st)) : Go l Z a0 EL n0 R own bytes maxL ret nm Q h sf ce sl pc ls (x :: y :: st) := by
  subst hp
  exact go_step hr fun A hx hb kk => XT.dupX1 A hx rfl (Jvm.hb hb hd) rfl hc hc' kk
theorem go_dup2 {x y : Value} (hd : decode bytes pc = .ok (.dup2, 1)) (hp : pc + 1 = pc') (hc : x.category = 1) (hc' : y.category = 1) (hr : Go l Z a0 EL n0 R own bytes maxL ret nm Q h sf ce sl pc' ls (x :: y :: x :: y :: st)) : Go l Z a0 EL n0 R own bytes maxL ret nm Q h sf ce sl pc ls (x :: y :: st) := by
  subst hp
  exact go_step hr fun A hx hb kk => XT.dup2 A hx rfl (Jvm.hb hb hd) rfl hc hc' kk
theorem go_istoreN {k : Fin 4} {x : Int32} (hd : decode bytes pc = .ok (.istore_n k, 1)) (hp : pc + 1 = pc') (ls' : Array Slot) (hl : storeLocals ls k.val (.int x) = some ls') (hr : Go l Z a0 EL n0 R own bytes maxL ret nm Q h sf ce sl pc' ls' st) : Go l Z a0 EL n0 R own bytes maxL ret nm Q h sf ce sl pc ls (.int x :: st) := by
  subst hp
  exact go_step hr fun A hx hb kk => XS.istoreN A hx rfl (Jvm.hb hb hd) rfl hl kk
theorem go_istore {k : Nat} {x : Int32} (hd : decode bytes pc = .ok (.istore k, 2)) (hp : pc + 2 = pc') (ls' : Array Slot) (hl : storeLocals ls k (.int x) = some ls') (hr : Go l Z a0 EL n0 R own bytes maxL ret nm Q h sf ce sl pc' ls' st) : Go l Z a0 EL n0 R own bytes maxL ret nm Q h sf ce sl pc ls (.int x :: st) := by
  subst hp
  exact go_step hr fun A hx hb kk => XS.istore A hx rfl (Jvm.hb hb hd) rfl hl kk
theorem go_astoreN {k : Fin 4} {x : Value} (hd : decode bytes pc = .ok (.astore_n k, 1)) (hp : pc + 1 = pc') (ls' : Array Slot) (hv : x.isRef = true) (hl : storeLocals ls k.val x = some ls') (hr : Go l Z a0 EL n0 R own bytes maxL ret nm Q h sf ce sl pc' ls' st) : Go l Z a0 EL n0 R own bytes maxL ret nm Q h sf ce sl pc ls (x :: st) := by
  subst hp
  exact go_step hr fun A hx hb kk => XS.astoreN A hx rfl (Jvm.hb hb hd) rfl hv hl kk
theorem go_astore {k : Nat} {x : Value} (hd : decode bytes pc = .ok (.astore k, 2)) (hp : pc + 2 = pc') (ls' : Array Slot) (hv : x.isRef = true) (hl : storeLocals ls k x = some ls') (hr : Go l Z a0 EL n0 R own bytes maxL ret nm Q h sf ce sl pc' ls' st) : Go l Z a0 EL n0 R own bytes maxL ret nm Q h sf ce sl pc ls (x :: st) := by
  subst hp
  exact go_step hr fun A hx hb kk => XS.astore A hx rfl (Jvm.hb hb hd) rfl hv hl kk
theorem go_lstoreN {k : Fin 4} {x : Int64} (hd : decode bytes pc = .ok (.lstore_n k, 1)) (hp : pc + 1 = pc') (ls' : Array Slot) (hl : storeLocals ls k.val (.long x) = some ls') (hr : Go l Z a0 EL n0 R own bytes maxL ret nm Q h sf ce sl pc' ls' st) : Go l Z a0 EL n0 R own bytes maxL ret nm Q h sf ce sl pc ls (.long x :: st) := by
  subst hp
  exact go_step hr fun A hx hb kk => XT.lstoreN A hx rfl (Jvm.hb hb hd) rfl hl kk
theorem go_lstore {k : Nat} {x : Int64} (hd : decode bytes pc = .ok (.lstore k, 2)) (hp : pc + 2 = pc') (ls' : Array Slot) (hl : storeLocals ls k (.long x) = some ls') (hr : Go l Z a0 EL n0 R own bytes maxL ret nm Q h sf ce sl pc' ls' st) : Go l Z a0 EL n0 R own bytes maxL ret nm Q h sf ce sl pc ls (.long x :: st) := by
  subst hp
  exact go_step hr fun A hx hb kk => XT.lstore A hx rfl (Jvm.hb hb hd) rfl hl kk
theorem go_iinc {k : Nat} {cst : Int} {x : Int32} (v : Int32) (hd : decode bytes pc = .ok (.iinc k cst, 3)) (hp : pc + 3 = pc') (ls' : Array Slot) (hv : Int32.ofInt cst = v) (hl : ls[k]? = some (.val (.int x))) (hl' : storeLocals ls k (.int (x + v)) = some ls') (hr : Go l Z a0 EL n0 R own bytes maxL ret nm Q h sf ce sl pc' ls' st) : Go l Z a0 EL n0 R own bytes maxL ret nm Q h sf ce sl pc ls st := by
  subst hp
  exact go_step hr fun A hx hb kk => XT.iincV A hx rfl v (Jvm.hb hb hd) hv hl hl' kk
theorem go_goto {o : Int} (hd : decode bytes pc = .ok (.goto o, 3)) (ho : 0 ≤ (pc : Int) + o) (ht : ((pc : Int) + o).toNat = pt) (hr : Go l Z a0 EL n0 R own bytes maxL ret nm Q h sf ce sl pt ls st) : Go l Z a0 EL n0 R own bytes maxL ret nm Q h sf ce sl pc ls st := go_step hr fun A hx hb kk => XS.goto A hx rfl rfl (Jvm.hb hb hd) ho ht kk
theorem go_icmp_eq_t {o : Int} {x y : Int32} (hd : decode bytes pc = .ok (.if_icmp .eq o, 3)) (ho : 0 ≤ (pc : Int) + o) (ht : ((pc : Int) + o).toNat = pt) (hc : x = y) (hr : Go l Z a0 EL n0 R own bytes maxL ret nm Q h sf ce sl pt ls st) : Go l Z a0 EL n0 R own bytes maxL ret nm Q h sf ce sl pc ls (.int y :: .int x :: st) := go_step hr fun A hx hb kk => XS.icmpYes A hx rfl rfl (Jvm.hb hb hd) rfl (XT.ii_eq_t hc) ho ht kk
theorem go_icmp_eq_f {o : Int} {x y : Int32} (hd : decode bytes pc = .ok (.if_icmp .eq o, 3)) (hp : pc + 3 = pc') (hc : ¬ x = y) (hr : Go l Z a0 EL n0 R own bytes maxL ret nm Q h sf ce sl pc' ls st) : Go l Z a0 EL n0 R own bytes maxL ret nm Q h sf ce sl pc ls (.int y :: .int x :: st) := by
  subst hp
  exact go_step hr fun A hx hb kk => XS.icmpNo A hx rfl (Jvm.hb hb hd) rfl (XT.ii_eq_f hc) kk
theorem go_if_eq_t {o : Int} {x : Int32} (hd : decode bytes pc = .ok (.ifCond .eq o, 3)) (ho : 0 ≤ (pc : Int) + o) (ht : ((pc : Int) + o).toNat = pt) (hc : x = 0) (hr : Go l Z a0 EL n0 R own bytes maxL ret nm Q h sf ce sl pt ls st) : Go l Z a0 EL n0 R own bytes maxL ret nm Q h sf ce sl pc ls (.int x :: st) := go_step hr fun A hx hb kk => XS.ifYes A hx rfl rfl (Jvm.hb hb hd) rfl (XT.i0_eq_t hc) ho ht kk
theorem go_if_eq_f {o : Int} {x : Int32} (hd : decode bytes pc = .ok (.ifCond .eq o, 3)) (hp : pc + 3 = pc') (hc : ¬ x = 0) (hr : Go l Z a0 EL n0 R own bytes maxL ret nm Q h sf ce sl pc' ls st) : Go l Z a0 EL n0 R own bytes maxL ret nm Q h sf ce sl pc ls (.int x :: st) := by
  subst hp
  exact go_step hr fun A hx hb kk => XS.ifNo A hx rfl (Jvm.hb hb hd) rfl (XT.i0_eq_f hc) kk
theorem go_icmp_ne_t {o : Int} {x y : Int32} (hd : decode bytes pc = .ok (.if_icmp .ne o, 3)) (ho : 0 ≤ (pc : Int) + o) (ht : ((pc : Int) + o).toNat = pt) (hc : ¬ x = y) (hr : Go l Z a0 EL n0 R own bytes maxL ret nm Q h sf ce sl pt ls st) : Go l Z a0 EL n0 R own bytes maxL ret nm Q h sf ce sl pc ls (.int y :: .int x :: st) := go_step hr fun A hx hb kk => XS.icmpYes A hx rfl rfl (Jvm.hb hb hd) rfl (XT.ii_ne_t hc) ho ht kk
theorem go_icmp_ne_f {o : Int} {x y : Int32} (hd : decode bytes pc = .ok (.if_icmp .ne o, 3)) (hp : pc + 3 = pc') (hc : x = y) (hr : Go l Z a0 EL n0 R own bytes maxL ret nm Q h sf ce sl pc' ls st) : Go l Z a0 EL n0 R own bytes maxL ret nm Q h sf ce sl pc ls (.int y :: .int x :: st) := by
  subst hp
  exact go_step hr fun A hx hb kk => XS.icmpNo A hx rfl (Jvm.hb hb hd) rfl (XT.ii_ne_f hc) kk
theorem go_if_ne_t {o : Int} {x : Int32} (hd : decode bytes pc = .ok (.ifCond .ne o, 3)) (ho : 0 ≤ (pc : Int) + o) (ht : ((pc : Int) + o).toNat = pt) (hc : ¬ x = 0) (hr : Go l Z a0 EL n0 R own bytes maxL ret nm Q h sf ce sl pt ls st) : Go l Z a0 EL n0 R own bytes maxL ret nm Q h sf ce sl pc ls (.int x :: st) := go_step hr fun A hx hb kk => XS.ifYes A hx rfl rfl (Jvm.hb hb hd) rfl (XT.i0_ne_t hc) ho ht kk
theorem go_if_ne_f {o : Int} {x : Int32} (hd : decode bytes pc = .ok (.ifCond .ne o, 3)) (hp : pc + 3 = pc') (hc : x = 0) (hr : Go l Z a0 EL n0 R own bytes maxL ret nm Q h sf ce sl pc' ls st) : Go l Z a0 EL n0 R own bytes maxL ret nm Q h sf ce sl pc ls (.int x :: st) := by
  subst hp
  exact go_step hr fun A hx hb kk => XS.ifNo A hx rfl (Jvm.hb hb hd) rfl (XT.i0_ne_f hc) kk
theorem go_icmp_lt_t {o : Int} {x y : Int32} (hd : decode bytes pc = .ok (.if_icmp .lt o, 3)) (ho : 0 ≤ (pc : Int) + o) (ht : ((pc : Int) + o).toNat = pt) (hc : x < y) (hr : Go l Z a0 EL n0 R own bytes maxL ret nm Q h sf ce sl pt ls st) : Go l Z a0 EL n0 R own bytes maxL ret nm Q h sf ce sl pc ls (.int y :: .int x :: st) := go_step hr fun A hx hb kk => XS.icmpYes A hx rfl rfl (Jvm.hb hb hd) rfl (XT.ii_lt_t hc) ho ht kk
theorem go_icmp_lt_f {o : Int} {x y : Int32} (hd : decode bytes pc = .ok (.if_icmp .lt o, 3)) (hp : pc + 3 = pc') (hc : ¬ x < y) (hr : Go l Z a0 EL n0 R own bytes maxL ret nm Q h sf ce sl pc' ls st) : Go l Z a0 EL n0 R own bytes maxL ret nm Q h sf ce sl pc ls (.int y :: .int x :: st) := by
  subst hp
  exact go_step hr fun A hx hb kk => XS.icmpNo A hx rfl (Jvm.hb hb hd) rfl (XT.ii_lt_f hc) kk
theorem go_if_lt_t {o : Int} {x : Int32} (hd : decode bytes pc = .ok (.ifCond .lt o, 3)) (ho : 0 ≤ (pc : Int) + o) (ht : ((pc : Int) + o).toNat = pt) (hc : x < 0) (hr : Go l Z a0 EL n0 R own bytes maxL ret nm Q h sf ce sl pt ls st) : Go l Z a0 EL n0 R own bytes maxL ret nm Q h sf ce sl pc ls (.int x :: st) := go_step hr fun A hx hb kk => XS.ifYes A hx rfl rfl (Jvm.hb hb hd) rfl (XT.i0_lt_t hc) ho ht kk
theorem go_if_lt_f {o : Int} {x : Int32} (hd : decode bytes pc = .ok (.ifCond .lt o, 3)) (hp : pc + 3 = pc') (hc : ¬ x < 0) (hr : Go l Z a0 EL n0 R own bytes maxL ret nm Q h sf ce sl pc' ls st) : Go l Z a0 EL n0 R own bytes maxL ret nm Q h sf ce sl pc ls (.int x :: st) := by
  subst hp
  exact go_step hr fun A hx hb kk => XS.ifNo A hx rfl (Jvm.hb hb hd) rfl (XT.i0_lt_f hc) kk
theorem go_icmp_ge_t {o : Int} {x y : Int32} (hd : decode bytes pc = .ok (.if_icmp .ge o, 3)) (ho : 0 ≤ (pc : Int) + o) (ht : ((pc : Int) + o).toNat = pt) (hc : ¬ x < y) (hr : Go l Z a0 EL n0 R own bytes maxL ret nm Q h sf ce sl pt ls st) : Go l Z a0 EL n0 R own bytes maxL ret nm Q h sf ce sl pc ls (.int y :: .int x :: st) := go_step hr fun A hx hb kk => XS.icmpYes A hx rfl rfl (Jvm.hb hb hd) rfl (XT.ii_ge_t hc) ho ht kk
theorem go_icmp_ge_f {o : Int} {x y : Int32} (hd : decode bytes pc = .ok (.if_icmp .ge o, 3)) (hp : pc + 3 = pc') (hc : x < y) (hr : Go l Z a0 EL n0 R own bytes maxL ret nm Q h sf ce sl pc' ls st) : Go l Z a0 EL n0 R own bytes maxL ret nm Q h sf ce sl pc ls (.int y :: .int x :: st) := by
  subst hp
  exact go_step hr fun A hx hb kk => XS.icmpNo A hx rfl (Jvm.hb hb hd) rfl (XT.ii_ge_f hc) kk
theorem go_if_ge_t {o : Int} {x : Int32} (hd : decode bytes pc = .ok (.ifCond .ge o, 3)) (ho : 0 ≤ (pc : Int) + o) (ht : ((pc : Int) + o).toNat = pt) (hc : ¬ x < 0) (hr : Go l Z a0 EL n0 R own bytes maxL ret nm Q h sf ce sl pt ls st) : Go l Z a0 EL n0 R own bytes maxL ret nm Q h sf ce sl pc ls (.int x :: st) := go_step hr fun A hx hb kk => XS.ifYes A hx rfl rfl (Jvm.hb hb hd) rfl (XT.i0_ge_t hc) ho ht kk
theorem go_if_ge_f {o : Int} {x : Int32} (hd : decode bytes pc = .ok (.ifCond .ge o, 3)) (hp : pc + 3 = pc') (hc : x < 0) (hr : Go l Z a0 EL n0 R own bytes maxL ret nm Q h sf ce sl pc' ls st) : Go l Z a0 EL n0 R own bytes maxL ret nm Q h sf ce sl pc ls (.int x :: st) := by
  subst hp
  exact go_step hr fun A hx hb kk => XS.ifNo A hx rfl (Jvm.hb hb hd) rfl (XT.i0_ge_f hc) kk
theorem go_icmp_gt_t {o : Int} {x y : Int32} (hd : decode bytes pc = .ok (.if_icmp .gt o, 3)) (ho : 0 ≤ (pc : Int) + o) (ht : ((pc : Int) + o).toNat = pt) (hc : y < x) (hr : Go l Z a0 EL n0 R own bytes maxL ret nm Q h sf ce sl pt ls st) : Go l Z a0 EL n0 R own bytes maxL ret nm Q h sf ce sl pc ls (.int y :: .int x :: st) := go_step hr fun A hx hb kk => XS.icmpYes A hx rfl rfl (Jvm.hb hb hd) rfl (XT.ii_gt_t hc) ho ht kk
theorem go_icmp_gt_f {o : Int} {x y : Int32} (hd : decode bytes pc = .ok (.if_icmp .gt o, 3)) (hp : pc + 3 = pc') (hc : ¬ y < x) (hr : Go l Z a0 EL n0 R own bytes maxL ret nm Q h sf ce sl pc' ls st) : Go l Z a0 EL n0 R own bytes maxL ret nm Q h sf ce sl pc ls (.int y :: .int x :: st) := by
  subst hp
  exact go_step hr fun A hx hb kk => XS.icmpNo A hx rfl (Jvm.hb hb hd) rfl (XT.ii_gt_f hc) kk
theorem go_if_gt_t {o : Int} {x : Int32} (hd : decode bytes pc = .ok (.ifCond .gt o, 3)) (ho : 0 ≤ (pc : Int) + o) (ht : ((pc : Int) + o).toNat = pt) (hc : 0 < x) (hr : Go l Z a0 EL n0 R own bytes maxL ret nm Q h sf ce sl pt ls st) : Go l Z a0 EL n0 R own bytes maxL ret nm Q h sf ce sl pc ls (.int x :: st) := go_step hr fun A hx hb kk => XS.ifYes A hx rfl rfl (Jvm.hb hb hd) rfl (XT.i0_gt_t hc) ho ht kk
theorem go_if_gt_f {o : Int} {x : Int32} (hd : decode bytes pc = .ok (.ifCond .gt o, 3)) (hp : pc + 3 = pc') (hc : ¬ 0 < x) (hr : Go l Z a0 EL n0 R own bytes maxL ret nm Q h sf ce sl pc' ls st) : Go l Z a0 EL n0 R own bytes maxL ret nm Q h sf ce sl pc ls (.int x :: st) := by
  subst hp
  exact go_step hr fun A hx hb kk => XS.ifNo A hx rfl (Jvm.hb hb hd) rfl (XT.i0_gt_f hc) kk
theorem go_icmp_le_t {o : Int} {x y : Int32} (hd : decode bytes pc = .ok (.if_icmp .le o, 3)) (ho : 0 ≤ (pc : Int) + o) (ht : ((pc : Int) + o).toNat = pt) (hc : ¬ y < x) (hr : Go l Z a0 EL n0 R own bytes maxL ret nm Q h sf ce sl pt ls st) : Go l Z a0 EL n0 R own bytes maxL ret nm Q h sf ce sl pc ls (.int y :: .int x :: st) := go_step hr fun A hx hb kk => XS.icmpYes A hx rfl rfl (Jvm.hb hb hd) rfl (XT.ii_le_t hc) ho ht kk
theorem go_icmp_le_f {o : Int} {x y : Int32} (hd : decode bytes pc = .ok (.if_icmp .le o, 3)) (hp : pc + 3 = pc') (hc : y < x) (hr : Go l Z a0 EL n0 R own bytes maxL ret nm Q h sf ce sl pc' ls st) : Go l Z a0 EL n0 R own bytes maxL ret nm Q h sf ce sl pc ls (.int y :: .int x :: st) := by
  subst hp
  exact go_step hr fun A hx hb kk => XS.icmpNo A hx rfl (Jvm.hb hb hd) rfl (XT.ii_le_f hc) kk
theorem go_if_le_t {o : Int} {x : Int32} (hd : decode bytes pc = .ok (.ifCond .le o, 3)) (ho : 0 ≤ (pc : Int) + o) (ht : ((pc : Int) + o).toNat = pt) (hc : ¬ 0 < x) (hr : Go l Z a0 EL n0 R own bytes maxL ret nm Q h sf ce sl pt ls st) : Go l Z a0 EL n0 R own bytes maxL ret nm Q h sf ce sl pc ls (.int x :: st) := go_step hr fun A hx hb kk => XS.ifYes A hx rfl rfl (Jvm.hb hb hd) rfl (XT.i0_le_t hc) ho ht kk
theorem go_if_le_f {o : Int} {x : Int32} (hd : decode bytes pc = .ok (.ifCond .le o, 3)) (hp : pc + 3 = pc') (hc : 0 < x) (hr : Go l Z a0 EL n0 R own bytes maxL ret nm Q h sf ce sl pc' ls st) : Go l Z a0 EL n0 R own bytes maxL ret nm Q h sf ce sl pc ls (.int x :: st) := by
  subst hp
  exact go_step hr fun A hx hb kk => XS.ifNo A hx rfl (Jvm.hb hb hd) rfl (XT.i0_le_f hc) kk
theorem go_ifnull_t {o : Int} (hd : decode bytes pc = .ok (.ifnull o, 3)) (ho : 0 ≤ (pc : Int) + o) (ht : ((pc : Int) + o).toNat = pt) (hr : Go l Z a0 EL n0 R own bytes maxL ret nm Q h sf ce sl pt ls st) : Go l Z a0 EL n0 R own bytes maxL ret nm Q h sf ce sl pc ls (.null :: st) := go_step hr fun A hx hb kk => XS.ifnullYes A hx rfl rfl (Jvm.hb hb hd) rfl ho ht kk
theorem go_ifnull_f {o : Int} {b : Addr} (hd : decode bytes pc = .ok (.ifnull o, 3)) (hp : pc + 3 = pc') (hr : Go l Z a0 EL n0 R own bytes maxL ret nm Q h sf ce sl pc' ls st) : Go l Z a0 EL n0 R own bytes maxL ret nm Q h sf ce sl pc ls (.ref b :: st) := by
  subst hp
  exact go_step hr fun A hx hb kk => XS.ifnullNo A hx rfl (Jvm.hb hb hd) rfl kk
theorem go_ifnonnull_t {o : Int} {b : Addr} (hd : decode bytes pc = .ok (.ifnonnull o, 3)) (ho : 0 ≤ (pc : Int) + o) (ht : ((pc : Int) + o).toNat = pt) (hr : Go l Z a0 EL n0 R own bytes maxL ret nm Q h sf ce sl pt ls st) : Go l Z a0 EL n0 R own bytes maxL ret nm Q h sf ce sl pc ls (.ref b :: st) := go_step hr fun A hx hb kk => XT.ifnonnullYes A hx rfl rfl (Jvm.hb hb hd) rfl ho ht kk
theorem go_ifnonnull_f {o : Int} (hd : decode bytes pc = .ok (.ifnonnull o, 3)) (hp : pc + 3 = pc') (hr : Go l Z a0 EL n0 R own bytes maxL ret nm Q h sf ce sl pc' ls st) : Go l Z a0 EL n0 R own bytes maxL ret nm Q h sf ce sl pc ls (.null :: st) := by
  subst hp
  exact go_step hr fun A hx hb kk => XT.ifnonnullNo A hx rfl (Jvm.hb hb hd) rfl kk
theorem go_irem {x y : Int32} (hd : decode bytes pc = .ok (.irem, 1)) (hp : pc + 1 = pc') (hy : y ≠ 0) (hr : Go l Z a0 EL n0 R own bytes maxL ret nm Q h sf ce sl pc' ls (.int (x % y) :: st)) : Go l Z a0 EL n0 R own bytes maxL ret nm Q h sf ce sl pc ls (.int y :: .int x :: st) := by
  subst hp
  exact go_move hr fun {p e s m args below meth c T locs} X hx hby hml eT hZ ho hOld => ⟨T, X, eT, fun t kk => iremM X hx (g := mkF m pc ls (.int y :: .int x :: st)) rfl (Jvm.hb hby hd) rfl hy kk⟩
theorem go_acmp {cd : ACond} {x y : Value} {o : Int} (same : Bool) (hd : decode bytes pc = .ok (.if_acmp cd o, 3)) (h1 : x.isRef = true) (h2 : y.isRef = true) (hq : decide (x = y) = same) (ho : 0 ≤ (pc : Int) + o) (ht : pt = if acV cd same = true then ((pc : Int) + o).toNat else pc + 3) (hr : Go l Z a0 EL n0 R own bytes maxL ret nm Q h sf ce sl pt ls st) : Go l Z a0 EL n0 R own bytes maxL ret nm Q h sf ce sl pc ls (y :: x :: st) :=
  go_move hr fun {p e s m args below meth c T locs} X hx hby hml eT hZ ho' hOld => ⟨T, X, eT, fun t kk => RoadKit.acmp X hx (g := mkF m pc ls (y :: x :: st)) rfl h1 h2 rfl (Jvm.hb hby hd) rfl hq ho ht kk⟩
/-- a call by its contract -/
theorem go_call {R' : Room} {y : MethodName} {bY : ByteArray} {mY : Nat} {rY : Option FieldType} {as : List Value} {sfY : List Addr} {QY : Option Value → Heap → List Addr → Prop} {len W : Nat}
    (hC : Con l Z EL n0 y bY mY rY [] R' as.toArray h sfY QY) (hsf : ∀ x ∈ sfY, x ∈ sf) (wc : (Jvm.Cond.code y bY mY rY).before a0 Z = true) (wz : (Jvm.Cond.initialized y.cls).before a0 Z = true)
    (hf : R'.frames + 1 ≤ R.frames) (hl : W + (mY + 11) + R'.locals ≤ R.locals) (hc : ce + R'.cells ≤ R.cells) (hs : sl + R'.slots ≤ R.slots)
    (k : ∀ {p : Program} {e : Env} {s : State} {m : MethodId} {args : Array Value} {below : List Frame} {meth : Method} {c : Code} {T : State} {locs : List Loc} {Pre : Free.Pt → Array Value → Prop} {Post : Free.Pt → Array Value → Option Value → Free.Pt → Prop}, Stand p l e R s m args below meth c T locs ce sl → p.tables.exec = Jvm.exec → c.code = bytes → c.maxLocals = maxL → T.heap = h → Z.Warmed39 s.vm → s.vm.findClass own = some m.cls →
      BackS l R p e below s args y len W Pre Post → (∀ vm₁, s.WarmedH vm₁ → Pre ⟨T.setVm vm₁, locs, ce, sl⟩ as.toArray) →
      ∃ (v : Option Value) (vm₁ : Vm) (B : Free.Pt), s.WarmedH vm₁ ∧ Stand p l e R (s.setVm B.U.vm) m args below meth c B.U B.locs B.cells B.slots ∧ s.Since B.U.vm B.U.heap.size ∧ T.heap.size ≤ B.U.heap.size ∧ Post ⟨T.setVm vm₁, locs, ce, sl⟩ as.toArray v B ∧
        Steps p.tables e below (T.setTop (mkF m pc ls st)) (B.U.setTop (mkF m pc' ls (v.toList ++ rest))))
    (hr : ∀ v h' sf', QY v h' sf' → Go l Z a0 EL n0 R own bytes maxL ret nm Q h' (sf' ++ sf) (ce + R'.cells) (sl + R'.slots) pc' ls (v.toList ++ rest)) :
    Go l Z a0 EL n0 R own bytes maxL ret nm Q h sf ce sl pc ls st := by
  intro p e s m args below meth c T W'
  obtain ⟨⟨hx, hby, hml, hret, hnm, hlk, hEL, hOld⟩, vm0, locs, k0, X, eT, hS, hk, hZ, hown, N, C, O⟩ := W'
  have hB := back_of (p := p) (e := e) (s := s) (args := args) (below := below) (R := R) (W := W) (len := len) hC hZ wc wz hf hl hEL C.1 (O.sub hsf) hOld
  obtain ⟨v, vm₁, ⟨U, Lc, kc, nc⟩, -, X', hS', hg, ⟨L, sf', q, fr, ow, ol, e1, e2, e3, ch⟩, st'⟩ := k (s := s.setVm vm0) X hx hby hml eT hZ hown hB (fun vm₁ _ => ⟨rfl, eT, hc, hs⟩)
  obtain ⟨X2, hS2, hZ2, hown2⟩ := rebS (own := own) (Z := Z) hS (Nat.le_trans hk (Nat.le_of_eq (by rw [eT]))) X' hS' hg hZ hown
  dsimp only [Free.Pt.U, Free.Pt.locs, Free.Pt.cells, Free.Pt.slots] at X2 hS2 hZ2 hown2 q ow ol e1 e2 e3 ch st'
  subst e1 e2 e3
  obtain ⟨t, o, h1, h2⟩ := hr v U.heap sf' q p e s m args below meth c U ⟨⟨hx, hby, hml, hret, hnm, hlk, hEL, ol⟩, U.vm, locs ++ L, U.heap.size, X2, rfl, hS2, Nat.le_refl _, hZ2, hown2, N.app fr, C.trans ch, ow.app (O.mv ch)⟩
  exact ⟨t, o, st'.trans h1, h2⟩
theorem go_static {R' : Room} {y : MethodName} {bY : ByteArray} {mY : Nat} {rY : Option FieldType} {sfY : List Addr} {QY : Option Value → Heap → List Addr → Prop} {idx : Nat} (as rest : List Value) (W : Nat)
    (hd : decode bytes pc = .ok (.invokestatic idx, 3)) (hp : pc + 3 = pc') (w1 : (Jvm.Cond.methodLink own idx y).before a0 Z = true) (w2 : (Jvm.Cond.static y).before a0 Z = true) (wz : (Jvm.Cond.initialized y.cls).before a0 Z = true) (wc : (Jvm.Cond.code y bY mY rY).before a0 Z = true)
    (hC : Con l Z EL n0 y bY mY rY [] R' as.toArray h sfY QY) (hsf : ∀ x ∈ sfY, x ∈ sf) (hlen : ∀ sig, parseMethodDescriptor y.desc = some sig → as.length = sig.parameters.length) (hst : st = as.reverse ++ rest) (hsz : ls.size = maxL) (hW : (rest.map fun v => v.category).sum = W)
    (hy : y.cls ≠ "java/lang/invoke/MethodHandle" ∧ y.cls ≠ "java/lang/invoke/VarHandle")
    (hf : R'.frames + 1 ≤ R.frames) (hl : W + (mY + 11) + R'.locals ≤ R.locals) (hc : ce + R'.cells ≤ R.cells) (hs : sl + R'.slots ≤ R.slots)
    (hr : ∀ v h' sf', QY v h' sf' → Go l Z a0 EL n0 R own bytes maxL ret nm Q h' (sf' ++ sf) (ce + R'.cells) (sl + R'.slots) pc' ls (v.toList ++ rest)) :
    Go l Z a0 EL n0 R own bytes maxL ret nm Q h sf ce sl pc ls st := by
  subst hp hst
  exact go_call (len := 3) (W := W) hC hsf wc wz hf hl hc hs (fun {p e s m args below meth c T locs Pre Post} X hx hby hml eT hZ ho hK hpre =>
    callSS X hx ho (mvT hZ w1) (mvT hZ w2) (mvT hZ wz) (mvT hZ wc) hy hK (g := mkF m pc ls (as.reverse ++ rest)) rfl (by rw [hml]; exact hsz) hlen rfl (by show 2 * 0 + (rest.map fun v => v.category).sum ≤ W; omega) (Jvm.hb hby hd) hpre) hr
theorem go_special {R' : Room} {y : MethodName} {bY : ByteArray} {mY : Nat} {sfY : List Addr} {QY : Option Value → Heap → List Addr → Prop} {idx : Nat} (a : Addr) (as rest : List Value) (W : Nat)
    (hd : decode bytes pc = .ok (.invokespecial idx, 3)) (hp : pc + 3 = pc') (hy1 : y.name = "<init>") (w1 : (Jvm.Cond.methodLink own idx y).before a0 Z = true) (w2 : (Jvm.Cond.instanceMethod y).before a0 Z = true) (wz : (Jvm.Cond.initialized y.cls).before a0 Z = true) (wc : (Jvm.Cond.code y bY mY none).before a0 Z = true)
    (hC : Con l Z EL n0 y bY mY none [] R' (.ref a :: as).toArray h sfY QY) (hsf : ∀ x ∈ sfY, x ∈ sf) (hlen : ∀ sig, parseMethodDescriptor y.desc = some sig → as.length = sig.parameters.length) (hst : st = as.reverse ++ .ref a :: rest) (hsz : ls.size = maxL) (hW : (rest.map fun v => v.category).sum = W)
    (hy : y.cls ≠ "java/lang/invoke/MethodHandle" ∧ y.cls ≠ "java/lang/invoke/VarHandle")
    (hf : R'.frames + 1 ≤ R.frames) (hl : W + (mY + 11) + R'.locals ≤ R.locals) (hc : ce + R'.cells ≤ R.cells) (hs : sl + R'.slots ≤ R.slots)
    (hr : ∀ v h' sf', QY v h' sf' → Go l Z a0 EL n0 R own bytes maxL ret nm Q h' (sf' ++ sf) (ce + R'.cells) (sl + R'.slots) pc' ls (v.toList ++ rest)) :
    Go l Z a0 EL n0 R own bytes maxL ret nm Q h sf ce sl pc ls st := by
  subst hp hst
  exact go_call (len := 3) (W := W) hC hsf wc wz hf hl hc hs (fun {p e s m args below meth c T locs Pre Post} X hx hby hml eT hZ ho hK hpre =>
    Stand.specialBackS X hx hy1 ho (mvT hZ w1) (mvT hZ w2) (mvT hZ wc) hy hK (g := mkF m pc ls (as.reverse ++ .ref a :: rest)) rfl (by rw [hml]; exact hsz) (Steps.refl _) hlen rfl (by show 2 * 0 + (rest.map fun v => v.category).sum ≤ W; omega) (Jvm.hb hby hd) hpre) hr
theorem go_virtual {R' : Room} {y z : MethodName} {bY : ByteArray} {mY : Nat} {rY : Option FieldType} {sfY : List Addr} {QY : Option Value → Heap → List Addr → Prop} {idx : Nat} {C : String} (a : Addr) (as rest : List Value) (W : Nat)
    (hd : decode bytes pc = .ok (.invokevirtual idx, 3)) (hp : pc + 3 = pc') (E : Exa Z h a C) (w1 : (Jvm.Cond.methodLink own idx y).before a0 Z = true) (w2 : (Jvm.Cond.declares y).before a0 Z = true) (hnf : ∀ {s : State}, Z.Warmed39 s.vm → NotFace s y) (w3 : (Jvm.Cond.selects C y z).before a0 Z = true) (w4 : (Jvm.Cond.instanceMethod z).before a0 Z = true) (wz : (Jvm.Cond.initialized z.cls).before a0 Z = true) (wc : (Jvm.Cond.code z bY mY rY).before a0 Z = true)
    (hC : Con l Z EL n0 z bY mY rY [] R' (.ref a :: as).toArray h sfY QY) (hsf : ∀ x ∈ sfY, x ∈ sf) (hlen : ∀ sig, parseMethodDescriptor y.desc = some sig → as.length = sig.parameters.length) (hst : st = as.reverse ++ .ref a :: rest) (hsz : ls.size = maxL) (hW : (rest.map fun v => v.category).sum = W)
    (hy : y.cls ≠ "java/lang/invoke/MethodHandle" ∧ y.cls ≠ "java/lang/invoke/VarHandle")
    (hf : R'.frames + 1 ≤ R.frames) (hl : W + (mY + 11) + R'.locals ≤ R.locals) (hc : ce + R'.cells ≤ R.cells) (hs : sl + R'.slots ≤ R.slots)
    (hr : ∀ v h' sf', QY v h' sf' → Go l Z a0 EL n0 R own bytes maxL ret nm Q h' (sf' ++ sf) (ce + R'.cells) (sl + R'.slots) pc' ls (v.toList ++ rest)) :
    Go l Z a0 EL n0 R own bytes maxL ret nm Q h sf ce sl pc ls st := by
  subst hp hst
  exact go_call (len := 3) (W := W) hC hsf wc wz hf hl hc hs (fun {p e s m args below meth c T locs Pre Post} X hx hby hml eT hZ ho hK hpre => by
    obtain ⟨cB, kB, q1, q2, q3⟩ := isOf hZ eT E
    exact Stand.virtualBackS X hx ho (mvT hZ w1) (mvT hZ w2) (hnf hZ) (mvT hZ w3) (mvT hZ w4) hy hK q1 q3 (g := mkF m pc ls (as.reverse ++ .ref a :: rest)) rfl (by rw [hml]; exact hsz) (Steps.refl _) hlen rfl (by show 2 * 0 + (rest.map fun v => v.category).sum ≤ W; omega) (Jvm.hb hby hd) hpre) hr
theorem nf_of {y : MethodName} {C : String} (w : (Jvm.Cond.selects C y y).before a0 Z = true) : ∀ {s : State}, Z.Warmed39 s.vm → NotFace s y := fun hZ => notFace_of_selects (args := #[]) (mvT hZ w)
theorem go_iface {R' : Room} {y xi : MethodName} {bY : ByteArray} {mY : Nat} {rY : Option FieldType} {sfY : List Addr} {QY : Option Value → Heap → List Addr → Prop} {idx cnt : Nat} {C : String} (a : Addr) (as rest : List Value) (W : Nat)
    (hd : decode bytes pc = .ok (.invokeinterface idx cnt, 5)) (hp : pc + 5 = pc') (E : Exa Z h a C) (w1 : (Jvm.Cond.methodLink own idx xi).before a0 Z = true) (w2 : (Jvm.Cond.declares xi).before a0 Z = true) (w3 : (Jvm.Cond.interfaceMethod xi.cls xi.cls xi.name xi.desc).before a0 Z = true) (w3k : ((Jvm.Cond.interfaceMethod xi.cls xi.cls xi.name xi.desc).onTables && (Jvm.Cond.interfaceMethod xi.cls xi.cls xi.name xi.desc).keepsFace) = true) (w4 : (Jvm.Cond.selects C xi y).before a0 Z = true) (w5 : (Jvm.Cond.instanceMethod y).before a0 Z = true) (w6 : (Jvm.Cond.publicMethod y).before a0 Z = true) (w7 : (Jvm.Cond.unhidden C xi.name xi.desc).before a0 Z = true) (w8 : (Jvm.Cond.castable C xi.cls).before a0 Z = true) (wz : (Jvm.Cond.initialized y.cls).before a0 Z = true) (wc : (Jvm.Cond.code y bY mY rY).before a0 Z = true)
    (hC : Con l Z EL n0 y bY mY rY [] R' (.ref a :: as).toArray h sfY QY) (hsf : ∀ x ∈ sfY, x ∈ sf) (hlen : ∀ sig, parseMethodDescriptor xi.desc = some sig → as.length = sig.parameters.length) (hst : st = as.reverse ++ .ref a :: rest) (hsz : ls.size = maxL) (hW : (rest.map fun v => v.category).sum = W)
    (hy : xi.cls ≠ "java/lang/invoke/MethodHandle" ∧ xi.cls ≠ "java/lang/invoke/VarHandle")
    (hf : R'.frames + 1 ≤ R.frames) (hl : W + (mY + 11) + R'.locals ≤ R.locals) (hc : ce + R'.cells ≤ R.cells) (hs : sl + R'.slots ≤ R.slots)
    (hr : ∀ v h' sf', QY v h' sf' → Go l Z a0 EL n0 R own bytes maxL ret nm Q h' (sf' ++ sf) (ce + R'.cells) (sl + R'.slots) pc' ls (v.toList ++ rest)) :
    Go l Z a0 EL n0 R own bytes maxL ret nm Q h sf ce sl pc ls st := by
  subst hp hst
  exact go_call (len := 5) (W := W) hC hsf wc wz hf hl hc hs (fun {p e s m args below meth c T locs Pre Post} X hx hby hml eT hZ ho hK hpre => by
    obtain ⟨cB, kB, q1, q2, q3⟩ := isOf hZ eT E
    exact Stand.interfaceBackS X hx ho (mvT hZ w1) (mvT hZ w2) (mvT hZ w3 w3k) (mvT hZ w4) (mvT hZ w5) (mvT hZ w6) (mvT hZ w7) (mvT hZ w8) hy hK q1 q2 q3 (g := mkF m pc ls (as.reverse ++ .ref a :: rest)) rfl (by rw [hml]; exact hsz) (Steps.refl _) hlen rfl (by show 2 * 0 + (rest.map fun v => v.category).sum ≤ W; omega) (Jvm.hb hby hd) hpre) hr
theorem go_initO {idx : Nat} {a : Addr} (hd : decode bytes pc = .ok (.invokespecial idx, 3)) (hp : pc + 3 = pc') (w1 : (Jvm.Cond.methodLink own idx Lib.objectInit).before a0 Z = true) (w2 : (Jvm.Cond.instanceMethod Lib.objectInit).before a0 Z = true) (w3 : (Jvm.Cond.code Lib.objectInit ⟨#[0xb1]⟩ 1 none).before a0 Z = true)
    (hsz : ls.size = maxL) (hf : 1 ≤ R.frames) (W : Nat) (hW : (st.map fun v => v.category).sum = W) (hl : W + 12 ≤ R.locals) (hr : Go l Z a0 EL n0 R own bytes maxL ret nm Q h sf ce sl pc' ls st) :
    Go l Z a0 EL n0 R own bytes maxL ret nm Q h sf ce sl pc ls (.ref a :: st) := by
  subst hp
  exact go_move hr fun {p e s m args below meth c T locs} X hx hby hml eT hZ ho hOld => initO X hx hZ ho w1 w2 w3 eT (g := mkF m pc ls (.ref a :: st)) rfl (by rw [hml]; exact hsz) rfl (Jvm.hb hby hd) hf (W := W) (by show 2 * 0 + (st.map fun v => v.category).sum ≤ W; omega) hl
theorem go_getfield {idx : Nat} {R0 O f d : String} {a : Addr} {v : Value} (hd : decode bytes pc = .ok (.getfield idx, 3)) (hp : pc + 3 = pc') (w : (Jvm.Cond.fieldLink own idx R0 f d).before a0 Z = true) (via : Via Z R0 O f d) (F : Fld Z h a O f d v)
    (hr : Go l Z a0 EL n0 R own bytes maxL ret nm Q h sf ce sl pc' ls (v :: st)) : Go l Z a0 EL n0 R own bytes maxL ret nm Q h sf ce sl pc ls (.ref a :: st) := by
  subst hp
  exact go_move hr fun {p e s m args below meth c T locs} X hx hby hml eT hZ ho hOld => getF X hx hZ ho (host := "") (Or.inl w) via eT F (g := mkF m pc ls (.ref a :: st)) rfl rfl (Jvm.hb hby hd)
theorem go_getfieldN {idx : Nat} {R0 O f d host : String} {a : Addr} {v : Value} (hd : decode bytes pc = .ok (.getfield idx, 3)) (hp : pc + 3 = pc') (w : (Jvm.Cond.fieldLinkNest own idx R0 f d host).before a0 Z = true) (via : Via Z R0 O f d) (F : Fld Z h a O f d v)
    (hr : Go l Z a0 EL n0 R own bytes maxL ret nm Q h sf ce sl pc' ls (v :: st)) : Go l Z a0 EL n0 R own bytes maxL ret nm Q h sf ce sl pc ls (.ref a :: st) := by
  subst hp
  exact go_move hr fun {p e s m args below meth c T locs} X hx hby hml eT hZ ho hOld => getF X hx hZ ho (Or.inr w) via eT F (g := mkF m pc ls (.ref a :: st)) rfl rfl (Jvm.hb hby hd)
theorem go_getstatic {idx : Nat} {R0 O f d : String} {v : Value} (hd : decode bytes pc = .ok (.getstatic idx, 3)) (hp : pc + 3 = pc') (w : (Jvm.Cond.fieldLink own idx R0 f d).before a0 Z = true) (via : Via Z R0 O f d) (F : Sta Z Z.heap O f d v)
    (hr : Go l Z a0 EL n0 R own bytes maxL ret nm Q h sf ce sl pc' ls (v :: st)) : Go l Z a0 EL n0 R own bytes maxL ret nm Q h sf ce sl pc ls st := by
  subst hp
  exact go_move hr fun {p e s m args below meth c T locs} X hx hby hml eT hZ ho hOld => getS X hx hZ ho (host := "") w via eT (F.ext hOld.2) (g := mkF m pc ls st) rfl (Jvm.hb hby hd)
theorem go_checkcast {idx : Nat} {K : String} {a : Addr} (hd : decode bytes pc = .ok (.checkcast idx, 3)) (hp : pc + 3 = pc') (w : (Jvm.Cond.classLink own idx K).before a0 Z = true) (F : Ins Z h a K true)
    (hr : Go l Z a0 EL n0 R own bytes maxL ret nm Q h sf ce sl pc' ls (.ref a :: st)) : Go l Z a0 EL n0 R own bytes maxL ret nm Q h sf ce sl pc ls (.ref a :: st) := by
  subst hp
  exact go_move hr fun {p e s m args below meth c T locs} X hx hby hml eT hZ ho hOld => castY X hx hZ ho w eT F (g := mkF m pc ls (.ref a :: st)) rfl rfl (Jvm.hb hby hd)
theorem go_instY {idx : Nat} {K : String} {a : Addr} (hd : decode bytes pc = .ok (.instanceof idx, 3)) (hp : pc + 3 = pc') (w : (Jvm.Cond.classLink own idx K).before a0 Z = true) (F : Ins Z h a K true)
    (hr : Go l Z a0 EL n0 R own bytes maxL ret nm Q h sf ce sl pc' ls (.int 1 :: st)) : Go l Z a0 EL n0 R own bytes maxL ret nm Q h sf ce sl pc ls (.ref a :: st) := by
  subst hp
  exact go_move hr fun {p e s m args below meth c T locs} X hx hby hml eT hZ ho hOld => instY X hx hZ ho w eT F (g := mkF m pc ls (.ref a :: st)) rfl rfl (Jvm.hb hby hd)
theorem go_instNo {idx : Nat} {K C : String} {a : Addr} (hd : decode bytes pc = .ok (.instanceof idx, 3)) (hp : pc + 3 = pc') (w : (Jvm.Cond.classLink own idx K).before a0 Z = true) (E : Exa Z h a C) (F : ∃ c t, Z.vm.findClass C = some c ∧ Z.vm.findClass K = some t ∧ Z.vm.assignable c t = false)
    (hr : Go l Z a0 EL n0 R own bytes maxL ret nm Q h sf ce sl pc' ls (.int 0 :: st)) : Go l Z a0 EL n0 R own bytes maxL ret nm Q h sf ce sl pc ls (.ref a :: st) := by
  subst hp
  exact go_move hr fun {p e s m args below meth c T locs} X hx hby hml eT hZ ho hOld => instNo X hx hZ ho w eT E F (g := mkF m pc ls (.ref a :: st)) rfl rfl (Jvm.hb hby hd)
theorem go_ldcI {idx : Nat} {v : Int32} (hd : decode bytes pc = .ok (.ldc idx, 2)) (hp : pc + 2 = pc') (w : (Jvm.Cond.constant own idx v).before a0 Z = true)
    (hr : Go l Z a0 EL n0 R own bytes maxL ret nm Q h sf ce sl pc' ls (.int v :: st)) : Go l Z a0 EL n0 R own bytes maxL ret nm Q h sf ce sl pc ls st := by
  subst hp
  exact go_move hr fun {p e s m args below meth c T locs} X hx hby hml eT hZ ho hOld => ⟨T, X, eT, fun t k => Stand.ldcI X hx ho (mvT hZ w) (g := mkF m pc ls st) rfl (Jvm.hb hby hd) k⟩
theorem go_ldc2J {idx : Nat} {v : Int64} (hd : decode bytes pc = .ok (.ldc2_w idx, 3)) (hp : pc + 3 = pc') (w : (Jvm.Cond.constantLong own idx v).before a0 Z = true)
    (hr : Go l Z a0 EL n0 R own bytes maxL ret nm Q h sf ce sl pc' ls (.long v :: st)) : Go l Z a0 EL n0 R own bytes maxL ret nm Q h sf ce sl pc ls st := by
  subst hp
  exact go_move hr fun {p e s m args below meth c T locs} X hx hby hml eT hZ ho hOld => ⟨T, X, eT, fun t k => Stand.ldc2J X hx ho (mvT hZ w) (g := mkF m pc ls st) rfl (Jvm.hb hby hd) k⟩
/-- ldc of a String constant, opaque -/
theorem go_ldcO {idx : Nat} {text : String} (n : Nat) (hd : decode bytes pc = .ok (.ldc idx, 2)) (hp : pc + 2 = pc') (w : (Jvm.Cond.stringLink own idx text).before a0 Z = true) (wS : ∀ a ∈ Bundle.stringAtoms, a.before a0 Z = true) (hn : 4 * text.toList.length ≤ n) (hbig : n ≤ 536870912) (hc : ce + 2 ≤ R.cells) (hs : sl + (n + 4) ≤ R.slots)
    (hr : ∀ h' a, Ext h h' → Go l Z a0 EL n0 R own bytes maxL ret nm Q h' sf (ce + 2) (sl + (n + 4)) pc' ls (.ref a :: st)) : Go l Z a0 EL n0 R own bytes maxL ret nm Q h sf ce sl pc ls st := by
  subst hp
  intro p e s m args below meth c T W'
  obtain ⟨⟨hx, hby, hml, hret, hnm, hlk, hEL, hOld⟩, vm0, locs, k0, X, eT, hS, hk, hZ, hown, N, C, O⟩ := W'
  obtain ⟨a, T', h', k1, X', e', E, hS', hk', hZ', hown', ch, -, st'⟩ := ldcOH X hx hZ hown w wS eT hS hk hEL C.1 (g := mkF m pc ls st) rfl (Jvm.hb hby hd) hn hbig hc hs
  obtain ⟨t, o, h1, h2⟩ := hr h' a E p e s m args below meth c T' ⟨⟨hx, hby, hml, hret, hnm, hlk, hEL, hOld.ext E⟩, T'.vm, locs, k1, X', e', hS', hk', hZ', hown', N, C.trans ch, O.mv ch⟩
  exact ⟨t, o, st' _ h1, h2⟩
/-- ldc of a String constant of EL, read -/
theorem go_ldcT {idx : Nat} {text : String} (n : Nat) (z : Int32) (vs : List Value) (hd : decode bytes pc = .ok (.ldc idx, 2)) (hp : pc + 2 = pc') (w : (Jvm.Cond.stringLink own idx text).before a0 Z = true) (wS : ∀ a ∈ Bundle.stringAtoms, a.before a0 Z = true) (hmem : (own, idx) ∈ EL)
    (ht : (∀ c ∈ text.toList, c.toNat < 256) ∧ text.toList.map (fun c => Value.int (Jvm.Lit.byteI c.toNat.toUInt16)) = vs) (hz : ¬ z < 0) (hl : z.toNatClampNeg = vs.length) (hn : 4 * text.toList.length ≤ n) (hbig : n ≤ 536870912) (hc : ce + 2 ≤ R.cells) (hs : sl + (n + 4) ≤ R.slots)
    (hr : ∀ h' a b k, Ext h h' → Exa Z h' a "java/lang/String" → Fld Z h' a "java/lang/String" "coder" "B" (.int 0) → Fld Z h' a "java/lang/String" "value" "[B" (.ref b) → Arv Z h' b k .byte z vs (.int 0) → (∀ x ∈ sf, x ≠ a ∧ x ≠ b) →
      Go l Z a0 EL n0 R own bytes maxL ret nm Q h' sf (ce + 2) (sl + (n + 4)) pc' ls (.ref a :: st)) : Go l Z a0 EL n0 R own bytes maxL ret nm Q h sf ce sl pc ls st := by
  subst hp
  intro p e s m args below meth c T W'
  obtain ⟨⟨hx, hby, hml, hret, hnm, hlk, hEL, hOld⟩, vm0, locs, k0, X, eT, hS, hk, hZ, hown, N, C, O⟩ := W'
  obtain ⟨a, T', h', k1, b, k, X', e', E, hS', hk', hZ', hown', f1, f2, f3, f4, -, -, ch, -, hne, st'⟩ := ldcCH X hx hZ hown w wS eT hS hk hEL hmem C.1 ht hz hl (g := mkF m pc ls st) rfl (Jvm.hb hby hd) hn hbig hc hs
  have O' := O.mv ch
  obtain ⟨t, o, h1, h2⟩ := hr h' a b k E f1 f2 f3 f4 (fun x q => hne x (O' x q).2.2) p e s m args below meth c T' ⟨⟨hx, hby, hml, hret, hnm, hlk, hEL, hOld.ext E⟩, T'.vm, locs, k1, X', e', hS', hk', hZ', hown', N, C.trans ch, O'⟩
  exact ⟨t, o, st' _ h1, h2⟩
theorem go_new {idx n : Nat} {C : String} (hd : decode bytes pc = .ok (.new idx, 3)) (hp : pc + 3 = pc') (w : (Jvm.Cond.classLink own idx C).before a0 Z = true) (wi : (Jvm.Cond.instantiable C n).before a0 Z = true) (wz : (Jvm.Cond.initialized C).before a0 Z = true) (hc : ce + 1 ≤ R.cells) (hs : sl + n ≤ R.slots)
    (hr : ∀ h' x, x = h.size → Ext h h' → (Exa Z h' x C ∧ ∀ {O f d : String} {ty : FieldType}, Laid Z a0 C O f d → parseFieldDescriptor d = some ty → Fld Z h' x O f d (defaultValue ty)) →
      Go l Z a0 EL n0 R own bytes maxL ret nm Q h' (x :: sf) (ce + 1) (sl + n) pc' ls (.ref x :: st)) : Go l Z a0 EL n0 R own bytes maxL ret nm Q h sf ce sl pc ls st := by
  subst hp
  refine go_make (P := fun h' x => Exa Z h' x C ∧ ∀ {O f d : String} {ty : FieldType}, Laid Z a0 C O f d → parseFieldDescriptor d = some ty → Fld Z h' x O f d (defaultValue ty)) (fun {p e s m args below meth c T locs} X hx hby hml eT hZ ho => ?_) hr
  obtain ⟨T', h', X', e', E, A, D, -, st'⟩ := newO X hx hZ ho w wi wz eT (g := mkF m pc ls st) rfl (Jvm.hb hby hd) hc hs
  exact ⟨T', h', X', e', E, A.lt, ⟨A, D⟩, st'⟩
theorem go_newarr {aty : ArrayType} {n : Int32} {ty : FieldType} {ad : String} (cap : Nat) (hd : decode bytes pc = .ok (.newarray aty, 2)) (hp : pc + 2 = pc') (hty : newarray.typeOf aty = ty) (w : (Jvm.Cond.arrayClass ty).before a0 Z = true) (hn : ¬ n < 0) (hcap : n.toNatClampNeg ≤ cap) (hb : cap * 8 ≤ 536870912) (had : "[" ++ ty.toString = ad) (hc : ce + 1 ≤ R.cells) (hs : sl + cap ≤ R.slots)
    (hr : ∀ h' x, x = h.size → Ext h h' → (Exa Z h' x ad ∧ ∃ k, Arv Z h' x k ty n [] (defaultValue ty)) → Go l Z a0 EL n0 R own bytes maxL ret nm Q h' (x :: sf) (ce + 1) (sl + cap) pc' ls (.ref x :: st)) :
    Go l Z a0 EL n0 R own bytes maxL ret nm Q h sf ce sl pc ls (.int n :: st) := by
  subst hp hty
  refine go_make (P := fun h' x => Exa Z h' x ad ∧ ∃ k, Arv Z h' x k (newarray.typeOf aty) n [] (defaultValue (newarray.typeOf aty))) (fun {p e s m args below meth c T locs} X hx hby hml eT hZ ho => ?_) hr
  obtain ⟨T', h', cA, X', e', E, A, F, st'⟩ := newPE X hx hZ w eT (g := mkF m pc ls (.int n :: st)) rfl (Jvm.hb hby hd) rfl hn hcap hb hc hs had
  exact ⟨T', h', X', e', E, A.lt, ⟨F, cA, Arv.new A hn⟩, st'⟩
theorem go_putfield {idx kk : Nat} {R0 O f d C : String} {a : Addr} {v old : Value} {ty : FieldType} (hd : decode bytes pc = .ok (.putfield idx, 3)) (hp : pc + 3 = pc') (w : (Jvm.Cond.fieldLink own idx R0 f d).before a0 Z = true) (via : Via Z R0 O f d) (F : Fld Z h a O f d old) (E : Exa Z h a C)
    (L : (Jvm.Cond.lays C O f d).before a0 Z = true ∨ ((Jvm.Cond.laysFinal C O f d).before a0 Z = true ∧ own = O ∧ nm = "<init>")) (wi : (Jvm.Cond.instantiable C kk).before a0 Z = true) (hty : parseFieldDescriptor d = some ty) (hn : narrow ty v = v) (hfit : fits ty v = true) (hm : a ∈ sf)
    (hr : ∀ h', Wr h h' a (RoadKit.slotOf Z O f d) v → Go l Z a0 EL n0 R own bytes maxL ret nm Q h' sf ce sl pc' ls st) : Go l Z a0 EL n0 R own bytes maxL ret nm Q h sf ce sl pc ls (v :: .ref a :: st) := by
  subst hp
  exact go_write hm (fun {p e s m args below meth c T locs} X hx hby hnm eT hZ ho => putF X hx hZ ho (host := "") (Or.inl w) via eT F E (L.imp id fun q => ⟨q.1, q.2.1, by rw [hnm]; exact q.2.2⟩) wi hty hn hfit (g := mkF m pc ls (v :: .ref a :: st)) rfl rfl (Jvm.hb hby hd)) hr
/-- a char, byte, int or boolean into an array at hand -/
theorem go_castore {a : Addr} {k : ClassId} {z j v : Int32} {vs : List Value} {dv : Value} (i : Nat) (v' : Int32) (hd : decode bytes pc = .ok (.castore, 1)) (hp : pc + 1 = pc') (hnv : nar .char v = v') (F : Arv Z h a k .char z vs dv) (hj : ¬ j < 0 ∧ j < z) (hi : j.toNatClampNeg = i) (hl : i < vs.length) (hm : a ∈ sf)
    (hr : ∀ h', Wr h h' a j.toNatClampNeg (.int v') → Arv Z h' a k .char z (vs.set i (.int v')) dv → Go l Z a0 EL n0 R own bytes maxL ret nm Q h' sf ce sl pc' ls st) : Go l Z a0 EL n0 R own bytes maxL ret nm Q h sf ce sl pc ls (.int v :: .int j :: .ref a :: st) := by
  subst hp hnv
  obtain ⟨cl, A, q1, S, q3, H, G⟩ := F
  exact go_write hm (fun {p e s m args below meth c T locs} X hx hby hnm eT hZ ho => stC X hx hZ eT A (inb_of S hj) (g := mkF m pc ls (.int v :: .int j :: .ref a :: st)) rfl rfl (Jvm.hb hby hd)) (fun h' W => hr h' W (Arv.set A q1 S q3 H G (fits_nar_char v) W i hi hl))
theorem go_bastore {a : Addr} {k : ClassId} {z j v : Int32} {vs : List Value} {dv : Value} (i : Nat) (hd : decode bytes pc = .ok (.bastore, 1)) (hp : pc + 1 = pc') (F : Arv Z h a k .byte z vs dv) (hj : ¬ j < 0 ∧ j < z) (hi : j.toNatClampNeg = i) (hl : i < vs.length) (hm : a ∈ sf)
    (hr : ∀ h', Wr h h' a j.toNatClampNeg (.int v.toInt8.toInt32) → Arv Z h' a k .byte z (vs.set i (.int v.toInt8.toInt32)) dv → Go l Z a0 EL n0 R own bytes maxL ret nm Q h' sf ce sl pc' ls st) : Go l Z a0 EL n0 R own bytes maxL ret nm Q h sf ce sl pc ls (.int v :: .int j :: .ref a :: st) := by
  subst hp
  obtain ⟨cl, A, q1, S, q3, H, G⟩ := F
  exact go_write hm (fun {p e s m args below meth c T locs} X hx hby hnm eT hZ ho => stB X hx hZ eT A (inb_of S hj) (g := mkF m pc ls (.int v :: .int j :: .ref a :: st)) rfl rfl (Jvm.hb hby hd)) (fun h' W => hr h' W (Arv.set A q1 S q3 H G (fits_nar_byte v) W i hi hl))
theorem go_iastore {a : Addr} {k : ClassId} {z j v : Int32} {vs : List Value} {dv : Value} (i : Nat) (hd : decode bytes pc = .ok (.iastore, 1)) (hp : pc + 1 = pc') (F : Arv Z h a k .int z vs dv) (hj : ¬ j < 0 ∧ j < z) (hi : j.toNatClampNeg = i) (hl : i < vs.length) (hm : a ∈ sf)
    (hr : ∀ h', Wr h h' a j.toNatClampNeg (.int v) → Arv Z h' a k .int z (vs.set i (.int v)) dv → Go l Z a0 EL n0 R own bytes maxL ret nm Q h' sf ce sl pc' ls st) : Go l Z a0 EL n0 R own bytes maxL ret nm Q h sf ce sl pc ls (.int v :: .int j :: .ref a :: st) := by
  subst hp
  obtain ⟨cl, A, q1, S, q3, H, G⟩ := F
  exact go_write hm (fun {p e s m args below meth c T locs} X hx hby hnm eT hZ ho => stI X hx hZ eT A (inb_of S hj) (g := mkF m pc ls (.int v :: .int j :: .ref a :: st)) rfl rfl (Jvm.hb hby hd)) (fun h' W => hr h' W (Arv.set A q1 S q3 H G rfl W i hi hl))
theorem go_alen {a : Addr} {k : ClassId} {ty : FieldType} {z : Int32} {vs : List Value} {dv : Value} (hd : decode bytes pc = .ok (.arraylength, 1)) (hp : pc + 1 = pc') (F : Arv Z h a k ty z vs dv)
    (hr : Go l Z a0 EL n0 R own bytes maxL ret nm Q h sf ce sl pc' ls (.int z :: st)) : Go l Z a0 EL n0 R own bytes maxL ret nm Q h sf ce sl pc ls (.ref a :: st) := by
  subst hp
  obtain ⟨cl, A, q1, S, q3, H, G⟩ := F
  refine go_move hr fun {p e s m args below meth c T locs} X hx hby hml eT hZ ho hOld => ⟨T, X, eT, fun t kk => ?_⟩
  refine X.arraylength hx (by rw [eT]; exact A.1) (State.isArrayOf_alike hZ.alike A.2.1) (g := mkF m pc ls (.ref a :: st)) rfl rfl (Jvm.hb hby hd) t ?_
  rw [len_of S q3]
  exact kk
theorem go_caload {a : Addr} {k : ClassId} {z j : Int32} {vs : List Value} {dv v : Value} (i : Nat) (hd : decode bytes pc = .ok (.caload, 1)) (hp : pc + 1 = pc') (F : Arv Z h a k .char z vs dv) (hj : ¬ j < 0 ∧ j < z) (hi : j.toNatClampNeg = i) (hv : vs.getD i dv = v)
    (hr : Go l Z a0 EL n0 R own bytes maxL ret nm Q h sf ce sl pc' ls (v :: st)) : Go l Z a0 EL n0 R own bytes maxL ret nm Q h sf ce sl pc ls (.int j :: .ref a :: st) := by
  subst hp
  obtain ⟨cl, A, q1, S, q3, H, G⟩ := F
  exact go_move hr fun {p e s m args below meth c T locs} X hx hby hml eT hZ ho hOld => ⟨T, X, eT, fun t kk =>
    X.caload hx (by rw [eT]; exact A.1) (State.isArrayOf_alike hZ.alike A.2.1) A.2.2 (inb_of S hj) (H.at (inb_of S hj) (by rw [hi]; exact hv)) (g := mkF m pc ls (.int j :: .ref a :: st)) rfl rfl (Jvm.hb hby hd) t kk⟩
theorem go_iaload {a : Addr} {k : ClassId} {z j : Int32} {vs : List Value} {dv v : Value} (i : Nat) (hd : decode bytes pc = .ok (.iaload, 1)) (hp : pc + 1 = pc') (F : Arv Z h a k .int z vs dv) (hj : ¬ j < 0 ∧ j < z) (hi : j.toNatClampNeg = i) (hv : vs.getD i dv = v)
    (hr : Go l Z a0 EL n0 R own bytes maxL ret nm Q h sf ce sl pc' ls (v :: st)) : Go l Z a0 EL n0 R own bytes maxL ret nm Q h sf ce sl pc ls (.int j :: .ref a :: st) := by
  subst hp
  obtain ⟨cl, A, q1, S, q3, H, G⟩ := F
  exact go_move hr fun {p e s m args below meth c T locs} X hx hby hml eT hZ ho hOld => ⟨T, X, eT, fun t kk =>
    X.iaload hx (by rw [eT]; exact A.1) (State.isArrayOf_alike hZ.alike A.2.1) A.2.2 (inb_of S hj) (H.at (inb_of S hj) (by rw [hi]; exact hv)) (g := mkF m pc ls (.int j :: .ref a :: st)) rfl rfl (Jvm.hb hby hd) t kk⟩
theorem go_baload {a : Addr} {k : ClassId} {z j : Int32} {vs : List Value} {dv v : Value} (i : Nat) (hd : decode bytes pc = .ok (.baload, 1)) (hp : pc + 1 = pc') (F : Arv Z h a k .byte z vs dv) (hj : ¬ j < 0 ∧ j < z) (hi : j.toNatClampNeg = i) (hv : vs.getD i dv = v)
    (hr : Go l Z a0 EL n0 R own bytes maxL ret nm Q h sf ce sl pc' ls (v :: st)) : Go l Z a0 EL n0 R own bytes maxL ret nm Q h sf ce sl pc ls (.int j :: .ref a :: st) := by
  subst hp
  obtain ⟨cl, A, q1, S, q3, H, G⟩ := F
  exact go_move hr fun {p e s m args below meth c T locs} X hx hby hml eT hZ ho hOld => ⟨T, X, eT, fun t kk =>
    X.baloadBytes hx (by rw [eT]; exact A.1) (State.isArrayOf_alike hZ.alike A.2.1) A.2.2 (inb_of S hj) (H.at (inb_of S hj) (by rw [hi]; exact hv)) (g := mkF m pc ls (.int j :: .ref a :: st)) rfl rfl (Jvm.hb hby hd) t kk⟩
/-- returns -/
theorem go_ret (hd : decode bytes pc = .ok (.return_, 1)) (sf' : List Addr) (hret : ret = none) (hc : ce ≤ R.cells) (hs : sl ≤ R.slots) (hsub : ∀ x ∈ sf', x ∈ sf) (hq : Q none h sf') : Go l Z a0 EL n0 R own bytes maxL ret nm Q h sf ce sl pc ls [] :=
  go_out (fun _ => rfl) hc hs hsub (fun X hx hby hr hl => X.returnOut hx (hr.trans hret) (Jvm.hb hby hd) hl) hq
theorem go_retN {z : Int32} {t : FieldType} (hd : decode bytes pc = .ok (.ireturn, 1)) (sf' : List Addr) (hret : ret = some t) (ht : t = .boolean ∨ t = .byte ∨ t = .char ∨ t = .short) (hc : ce ≤ R.cells) (hs : sl ≤ R.slots) (hsub : ∀ x ∈ sf', x ∈ sf) (hq : Q (some (.int (nar t z))) h sf') : Go l Z a0 EL n0 R own bytes maxL ret nm Q h sf ce sl pc ls (.int z :: st) :=
  go_out (fun q => by rw [hret] at q; cases q) hc hs hsub (fun X hx hby hr hl => retN X hx (t := t) (hr.trans hret) ht (Jvm.hb hby hd) hl) hq
theorem go_retI {z : Int32} (hd : decode bytes pc = .ok (.ireturn, 1)) (sf' : List Addr) (hret : ret = some .int) (hc : ce ≤ R.cells) (hs : sl ≤ R.slots) (hsub : ∀ x ∈ sf', x ∈ sf) (hq : Q (some (.int z)) h sf') : Go l Z a0 EL n0 R own bytes maxL ret nm Q h sf ce sl pc ls (.int z :: st) :=
  go_out (fun q => by rw [hret] at q; cases q) hc hs hsub (fun X hx hby hr hl => retOut X hx (hr.trans hret) rfl (Or.inl ⟨rfl, Or.inl rfl, _, rfl⟩) (Jvm.hb hby hd) hl) hq
theorem go_retA {v : Value} {t : FieldType} (hd : decode bytes pc = .ok (.areturn, 1)) (sf' : List Addr) (hret : ret = some t) (ht : t.isReference = true) (hv : v.isRef = true) (hn : narrow t v = v) (hc : ce ≤ R.cells) (hs : sl ≤ R.slots) (hsub : ∀ x ∈ sf', x ∈ sf) (hq : Q (some v) h sf') : Go l Z a0 EL n0 R own bytes maxL ret nm Q h sf ce sl pc ls (v :: st) :=
  go_out (fun q => by rw [hret] at q; cases q) hc hs hsub (fun X hx hby hr hl => retOut X hx (hr.trans hret) hn (Or.inr (Or.inr (Or.inr (Or.inr ⟨rfl, ht, hv⟩)))) (Jvm.hb hby hd) hl) hq
theorem ext_of_keep {h0 h1 : Heap} (K : Keep h0 h1 []) : Ext h0 h1 := ⟨K.1, fun a c q => K.2.1 a c q nin0⟩
theorem keep_of_ext {h0 h1 : Heap} (E : Ext h0 h1) (ws : List Addr) : Keep h0 h1 ws := (Keep.refl h0 ws).ext E
theorem go_instNull {idx : Nat} (hd : decode bytes pc = .ok (.instanceof idx, 3)) (hp : pc + 3 = pc') (hr : Go l Z a0 EL n0 R own bytes maxL ret nm Q h sf ce sl pc' ls (.int 0 :: st)) : Go l Z a0 EL n0 R own bytes maxL ret nm Q h sf ce sl pc ls (.null :: st) := by
  subst hp
  exact go_move hr fun {p e s m args below meth c T locs} X hx hby hml eT hZ ho hOld => ⟨T, X, eT, X.instanceofNull hx (g := mkF m pc ls (.null :: st)) rfl rfl (Jvm.hb hby hd)⟩
theorem go_castNull {idx : Nat} (hd : decode bytes pc = .ok (.checkcast idx, 3)) (hp : pc + 3 = pc') (hr : Go l Z a0 EL n0 R own bytes maxL ret nm Q h sf ce sl pc' ls (.null :: st)) : Go l Z a0 EL n0 R own bytes maxL ret nm Q h sf ce sl pc ls (.null :: st) := by
  subst hp
  exact go_move hr fun {p e s m args below meth c T locs} X hx hby hml eT hZ ho hOld => ⟨T, X, eT, X.checkcastNull hx (g := mkF m pc ls (.null :: st)) rfl rfl (Jvm.hb hby hd)⟩
/-- System.arraycopy of numbers into an owned array -/
theorem go_acopy {idx : Nat} {a b : Addr} {k k' : ClassId} {ty : FieldType} {z z' sp dp nn : Int32} {vs vd us : List Value} {dv dd : Value} (hd : decode bytes pc = .ok (.invokestatic idx, 3)) (hp : pc + 3 = pc') (w1 : (Jvm.Cond.methodLink own idx Jvm.Stand.acN).before a0 Z = true) (w2 : (Jvm.Cond.native Jvm.Stand.acN).before a0 Z = true) (w3 : (Jvm.Cond.static Jvm.Stand.acN).before a0 Z = true) (w4 : (Jvm.Cond.initialized "java/lang/System").before a0 Z = true)
    (A : Arv Z h a k ty z vs dv) (B : Arv Z h b k' ty z' vd dd) (hty : refKind ty = false) (h1 : ¬ sp < 0) (h2 : ¬ dp < 0) (h3 : ¬ nn < 0) (h4 : sp.toNatClampNeg + nn.toNatClampNeg ≤ z.toNatClampNeg) (h5 : dp.toNatClampNeg + nn.toNatClampNeg ≤ z'.toNatClampNeg)
    (hus : us = (List.range nn.toNatClampNeg).map fun i => vs.getD (sp.toNatClampNeg + i) dv) (hl : dp.toNatClampNeg + nn.toNatClampNeg ≤ vd.length) (hm : b ∈ sf) (hsz : ls.size = maxL) (hf : 1 ≤ R.frames) (W : Nat) (hW : (st.map fun v => v.category).sum = W) (hlo : W + (nativeFrameWords "java/lang/System" "arraycopy" 5 + 11) ≤ R.locals)
    (hr : ∀ h', Keep h h' [b] → Arv Z h' b k' ty z' (vd.take dp.toNatClampNeg ++ us ++ vd.drop (dp.toNatClampNeg + nn.toNatClampNeg)) dd → Go l Z a0 EL n0 R own bytes maxL ret nm Q h' sf ce sl pc' ls st) :
    Go l Z a0 EL n0 R own bytes maxL ret nm Q h sf ce sl pc ls (.int nn :: .int dp :: .ref b :: .int sp :: .ref a :: st) := by
  subst hp
  intro p e s m args below meth c T W'
  obtain ⟨⟨hx, hby, hml, hret, hnm, hlk, hEL, hOld⟩, vm0, locs, k0, X, eT, hS, hk, hZ, hown, N, C, O⟩ := W'
  obtain ⟨q1, q2, q3⟩ := O b hm
  obtain ⟨T', h', L, X', e', N', K, B', st'⟩ := cpA (s := s.setVm vm0) X hx hZ hown w1 w2 w3 w4 eT A B (Or.inl ⟨rfl, hty⟩) h1 h2 h3 h4 h5 hus hl N q2 (g := mkF m pc ls (.int nn :: .int dp :: .ref b :: .int sp :: .ref a :: st)) rfl (by rw [hml]; exact hsz) rfl (Jvm.hb hby hd) hf (W := W) (by show 2 * 0 + (st.map fun v => v.category).sum ≤ W; omega) hlo
  have A' := CHr.keep K (allS q3 all0) C.1
  obtain ⟨t, o, h1', h2'⟩ := hr h' K B' p e s m args below meth c T' ⟨⟨hx, hby, hml, hret, hnm, hlk, hEL, hOld.keep K (allS q2 all0)⟩, vm0, L, k0, X', e', hS, Nat.le_trans hk K.1, hZ, hown, N', C.trans A', O.mv A'⟩
  exact ⟨t, o, st' _ h1', h2'⟩
/-- more instructions: arrays of references, super calls, words from other words -/
theorem declares_of {y : MethodName} {bY : ByteArray} {mY : Nat} {rY : Option FieldType} (wi : (Jvm.Cond.instanceMethod y).before a0 Z = true) (wc : (Jvm.Cond.code y bY mY rY).before a0 Z = true) : (Jvm.Cond.declares y).before a0 Z = true := by
  obtain ⟨mk, me, h1, h2, h3, -⟩ := Cond.instanceMethod_spec wi
  obtain ⟨me', c', g1, -, -, -, -, -, -, g2⟩ := Cond.code_spec h1 wc
  cases h2.symm.trans g1
  simp [Cond.before, Cond.holds, Cond.value, h1, h2, h3, g2]
theorem nf_cls {y z : MethodName} {C : String} (hc : z.cls = y.cls) (w : (Jvm.Cond.selects C y y).before a0 Z = true) : ∀ {s : State}, Z.Warmed39 s.vm → NotFace s z := fun {s} hZ r0 h0 => by
  obtain ⟨c2, r2, m2, q1, q2, q3, q4, kP, hkP, hkPi⟩ := Cond.selects_spec (mvT (args := #[]) (s := s) hZ w)
  have e1 := findClass_of_methodNamed h0
  have e2 := findClass_of_methodNamed q3
  rw [hc, e2] at e1
  rw [← Option.some.inj e1]
  exact ⟨kP, hkP, hkPi⟩
theorem same_of {y z : MethodName} {C : String} (hc : z.cls = y.cls) (w : (Jvm.Cond.selects C y y).before a0 Z = true) (wi : (Jvm.Cond.instanceMethod z).before a0 Z = true) (hz : z.cls ≠ "java/lang/invoke/MethodHandle" ∧ z.cls ≠ "java/lang/invoke/VarHandle") : (Jvm.Cond.sameMethod z.cls z.cls z.name z.desc).before a0 Z = true := by
  obtain ⟨mk, me, h1, h2, h3, -⟩ := Cond.instanceMethod_spec wi
  obtain ⟨c2, r2, m2, q1, q2, q3, q4, kP, hkP, hkPi⟩ := Cond.selects_spec w
  have e1 := findClass_of_methodNamed h1
  have e2 := findClass_of_methodNamed q3
  rw [hc, e2] at e1
  have e3 := findClass_of_methodNamed h1
  have e4 := State.methodFound?_of_named h1 hz
  have e5 : Z.methodNamed? ⟨z.cls, z.name, z.desc⟩ = some mk := h1
  rw [Option.some.inj e1] at hkP
  simp [Cond.before, Cond.holds, Cond.value, e3, e4, e5, hkP, hkPi]
theorem go_super {R' : Room} {y : MethodName} {bY : ByteArray} {mY : Nat} {rY : Option FieldType} {sfY : List Addr} {QY : Option Value → Heap → List Addr → Prop} {idx : Nat} {K : String} (a : Addr) (as rest : List Value) (W : Nat)
    (hd : decode bytes pc = .ok (.invokespecial idx, 3)) (hp : pc + 3 = pc') (F : Ins Z h a K true) (w1 : (Jvm.Cond.methodLink own idx y).before a0 Z = true) (w2 : (Jvm.Cond.sameMethod y.cls y.cls y.name y.desc).before a0 Z = true) (w3 : (Jvm.Cond.instanceMethod y).before a0 Z = true) (w4 : (Jvm.Cond.superclass own y.cls).before a0 Z = true) (hn : y.name ≠ "<init>") (wz : (Jvm.Cond.initialized y.cls).before a0 Z = true) (wc : (Jvm.Cond.code y bY mY rY).before a0 Z = true)
    (hC : Con l Z EL n0 y bY mY rY [] R' (.ref a :: as).toArray h sfY QY) (hsf : ∀ x ∈ sfY, x ∈ sf) (hlen : ∀ sig, parseMethodDescriptor y.desc = some sig → as.length = sig.parameters.length) (hst : st = as.reverse ++ .ref a :: rest) (hsz : ls.size = maxL) (hW : (rest.map fun v => v.category).sum = W)
    (hf : R'.frames + 1 ≤ R.frames) (hl : W + (mY + 11) + R'.locals ≤ R.locals) (hc : ce + R'.cells ≤ R.cells) (hs : sl + R'.slots ≤ R.slots)
    (hr : ∀ v h' sf', QY v h' sf' → Go l Z a0 EL n0 R own bytes maxL ret nm Q h' (sf' ++ sf) (ce + R'.cells) (sl + R'.slots) pc' ls (v.toList ++ rest)) :
    Go l Z a0 EL n0 R own bytes maxL ret nm Q h sf ce sl pc ls st := by
  subst hp hst
  exact go_call (len := 3) (W := W) hC hsf wc wz hf hl hc hs (fun {p e s m args below meth c T locs Pre Post} X hx hby hml eT hZ ho hK hpre =>
    RoadKit.superBackS X hx hZ ho w1 w2 w3 w4 hn hK eT F (g := mkF m pc ls (as.reverse ++ .ref a :: rest)) rfl (by rw [hml]; exact hsz) wc hlen rfl (by show 2 * 0 + (rest.map fun v => v.category).sum ≤ W; omega) (Jvm.hb hby hd) hpre) hr
theorem go_anewarr {idx : Nat} {n : Int32} {C ad : String} (cap : Nat) (hd : decode bytes pc = .ok (.anewarray idx, 3)) (hp : pc + 3 = pc') (w1 : (Jvm.Cond.classLink own idx C).before a0 Z = true) (w2 : (Jvm.Cond.arrayOver (.object C)).before a0 Z = true) (hn : ¬ n < 0) (hcap : n.toNatClampNeg ≤ cap) (hb : cap * 8 ≤ 536870912) (had : "[" ++ (FieldType.object C).toString = ad) (hc : ce + 1 ≤ R.cells) (hs : sl + cap ≤ R.slots)
    (hr : ∀ h' x, x = h.size → Ext h h' → (Exa Z h' x ad ∧ ∃ k, Arv Z h' x k (.object C) n [] .null ∧ Ovr Z k C) → Go l Z a0 EL n0 R own bytes maxL ret nm Q h' (x :: sf) (ce + 1) (sl + cap) pc' ls (.ref x :: st)) :
    Go l Z a0 EL n0 R own bytes maxL ret nm Q h sf ce sl pc ls (.int n :: st) := by
  subst hp
  refine go_make (P := fun h' x => Exa Z h' x ad ∧ ∃ k, Arv Z h' x k (.object C) n [] .null ∧ Ovr Z k C) (fun {p e s m args below meth c T locs} X hx hby hml eT hZ ho => ?_) hr
  obtain ⟨T', h', cA, X', e', E, A, F, O, st'⟩ := newRE X hx hZ ho w1 w2 eT (g := mkF m pc ls (.int n :: st)) rfl (Jvm.hb hby hd) rfl hn hcap hb hc hs had
  exact ⟨T', h', X', e', E, A.lt, ⟨F, cA, Arv.new A hn, O⟩, st'⟩
theorem go_aastore {a y : Addr} {k : ClassId} {C D : String} {z j : Int32} {vs : List Value} {dv : Value} (i : Nat) (hd : decode bytes pc = .ok (.aastore, 1)) (hp : pc + 1 = pc') (F : Arv Z h a k (.object C) z vs dv) (O : Ovr Z k D) (I : Ins Z h y D true) (hj : ¬ j < 0 ∧ j < z) (hi : j.toNatClampNeg = i) (hl : i < vs.length) (hm : a ∈ sf)
    (hr : ∀ h', Wr h h' a j.toNatClampNeg (.ref y) → Arv Z h' a k (.object C) z (vs.set i (.ref y)) dv → Go l Z a0 EL n0 R own bytes maxL ret nm Q h' sf ce sl pc' ls st) : Go l Z a0 EL n0 R own bytes maxL ret nm Q h sf ce sl pc ls (.ref y :: .int j :: .ref a :: st) := by
  subst hp
  obtain ⟨cl, A, q1, S, q3, H, G⟩ := F
  exact go_write hm (fun {p e s m args below meth c T locs} X hx hby hnm eT hZ ho => stR X hx hZ eT A (inb_of S hj) rfl (Sto.ofV A q1 O I) (g := mkF m pc ls (.ref y :: .int j :: .ref a :: st)) rfl rfl (Jvm.hb hby hd)) (fun h' W => hr h' W (Arv.set A q1 S q3 H G rfl W i hi hl))
theorem go_aaload {a : Addr} {k : ClassId} {C : String} {z j : Int32} {vs : List Value} {dv v : Value} (i : Nat) (hd : decode bytes pc = .ok (.aaload, 1)) (hp : pc + 1 = pc') (F : Arv Z h a k (.object C) z vs dv) (hj : ¬ j < 0 ∧ j < z) (hi : j.toNatClampNeg = i) (hv : vs.getD i dv = v)
    (hr : Go l Z a0 EL n0 R own bytes maxL ret nm Q h sf ce sl pc' ls (v :: st)) : Go l Z a0 EL n0 R own bytes maxL ret nm Q h sf ce sl pc ls (.int j :: .ref a :: st) := by
  subst hp
  obtain ⟨cl, A, q1, S, q3, H, G⟩ := F
  exact go_move hr fun {p e s m args below meth c T locs} X hx hby hml eT hZ ho hOld => ⟨T, X, eT, fun t kk =>
    X.aaload hx (by rw [eT]; exact A.1) (State.isArrayOf_alike hZ.alike A.2.1) rfl A.2.2 (inb_of S hj) (H.at (inb_of S hj) (by rw [hi]; exact hv)) (g := mkF m pc ls (.int j :: .ref a :: st)) rfl rfl (Jvm.hb hby hd) t kk⟩
end Walk
/-- an array that stood before the law, read -/
theorem HasL_toList (c : Cell) : ∀ (vs : List Value) (i : Nat), c.slots.toList.drop i = vs → HasL c i vs
  | [], _, _ => trivial
  | v :: r, i, e => by
    have h1 : c.slots.toList[i]? = some v := by
      have : (c.slots.toList.drop i)[0]? = some v := by rw [e]; rfl
      rwa [List.getElem?_drop, Nat.add_zero] at this
    refine ⟨by rw [← Array.getElem?_toList]; exact h1, HasL_toList c r (i + 1) ?_⟩
    rw [← List.drop_drop, e]; rfl
theorem arr_old {Z : State} {a0 args : Array Value} {t : Term} {a : Addr} {n : Int32} {ad : String} {ty : FieldType} (ev : t.eval args Z none [] Z = some (.ref a)) (E : Exa Z Z.heap a ad) (wB : (Jvm.Cond.arrayClass ty).before a0 Z = true) (had : "[" ++ ty.toString = ad) (hl : (Jvm.Cond.eq (Term.length t) (Term.int n)).value args Z none Z [] = some true) :
    ∃ c, Arr Z Z.heap a c ty ∧ c.slots.size < 2 ^ 31 ∧ c.slots.size.toInt32 = n := by
  have e1 := eqv_i (Term.int_eval n) hl
  obtain ⟨a', c, q1, q2, q3⟩ := Term.length_spec e1
  cases ev.symm.trans q1
  obtain ⟨g1, g2, g3, k, comp, ty', g4, g5⟩ := State.arrayAt?_spec q2
  obtain ⟨cl, k1, f1, f2, f3, -, -⟩ := E
  cases g1.symm.trans f1
  obtain ⟨c2, k2, cp2, w1, w2, w3⟩ := Cond.arrayClass_spec wB
  rw [had, f2] at w1
  cases w1
  cases w2.symm.trans g4
  have hs : c.slots.size < 2 ^ 31 := by
    simp only [Term.eval, q1, Option.bind_eq_bind, Option.bind_some, q2] at e1
    by_cases hlt : c.slots.size < 2 ^ 31
    · exact hlt
    · rw [if_neg hlt] at e1; cases e1
  exact ⟨c, ⟨g1, ⟨(fun q e => by rw [e] at g3; cases g3), k, w2, cp2, w3⟩, g2⟩, hs, (Value.int.inj q3).symm⟩
theorem arv_old {Z : State} {a : Addr} {c : Cell} {ty : FieldType} {n : Int32} (hf : Fit Z) (A : Arr Z Z.heap a c ty) (q : c.slots.size < 2 ^ 31) (e : c.slots.size.toInt32 = n) (hz : ¬ n < 0) (dv : Value) : Arv Z Z.heap a c.cls ty n c.slots.toList dv := by
  refine Arv.start hf A q e hz ?_ (HasL_toList c _ 0 rfl)
  rw [Array.length_toList, ← e]; simp only [Int32.toNatClampNeg, len_toInt q]; rfl
theorem dig_start {Z : State} {a0 args : Array Value} {C f : String} {a : Addr} (hf : Fit Z) (wB : (Jvm.Cond.arrayClass .byte).before a0 Z = true) (hx : (Jvm.Cond.exactly (Term.static C f "[B") "[B").value args Z none Z [] = some true) (ev : (Term.static C f "[B").eval args Z none [] Z = some (.ref a)) (hl : (Jvm.Cond.eq (Term.length (Term.static C f "[B")) (Term.int 100)).value args Z none Z [] = some true)
    (hall : (Jvm.Cond.all (Term.static C f "[B") (Jvm.Cond.eq (Term.elem (Term.static C f "[B") (Term.index 0)) (Term.add (Term.int 48) (Term.rem (Term.index 0) (Term.int 10))))).value args Z none Z [] = some true) :
    ∃ k vs, Arv Z Z.heap a k .byte 100 vs (.int 0) ∧ ∀ i, i < 10 → vs.getD i (.int 0) = .int (Int32.ofNat (48 + i)) := by
  obtain ⟨c, A, q, e⟩ := arr_old ev (Exa.start ev hx) wB rfl hl
  have e100 : c.slots.size = 100 := by
    have h1 := len_toInt q
    rw [e] at h1; have : (100 : Int32).toInt = 100 := rfl; omega
  refine ⟨_, _, arv_old hf A q e (by decide) (.int 0), fun i hi => ?_⟩
  have ht : ∀ idx, (Term.static C f "[B").eval args Z none idx Z = some (.ref a) := fun idx => ev
  have u := Cond.all_elim (ht []) (A.fin (Vm.Alike.refl _)) hall i (by omega)
  have hj : ¬ Int32.ofNat i < 0 := by rw [Int32.lt_iff_toInt_lt, Int32.toInt_ofNat_of_lt (by omega)]; show ¬ (i : Int) < 0; omega
  have hc : (Int32.ofNat i).toNatClampNeg = i := by show (Int32.ofNat i).toInt.toNat = i; rw [Int32.toInt_ofNat_of_lt (by omega)]; omega
  have hi1 : (Term.index 0).eval args Z none [i] Z = some (.int (Int32.ofNat i)) := by have := idx_at (args := args) (s := Z) (first := Z) (o := none) hj; rwa [hc] at this
  have v0 := rem_f hi1 (Term.int_eval (args := args) (first := Z) (o := none) (idx := [i]) (s := Z) 10) (by decide)
  have v1 : (Term.add (Term.int 48) (Term.rem (Term.index 0) (Term.int 10))).eval args Z none [i] Z = some (.int (48 + Int32.ofNat i % 10)) := by rw [Term.eval, v0]; rfl
  have v2 := eqv_i v1 u
  rw [elem_f (ht _) hi1 (A.fin (Vm.Alike.refl _)) hj, hc] at v2
  rw [List.getD_eq_getElem?_getD, Array.getElem?_toList, v2]
  have : ∀ i, i < 10 → (48 : Int32) + Int32.ofNat i % 10 = Int32.ofNat (48 + i) := by decide
  rw [this i hi]; rfl

def ELc : List (String × Nat) := [("com/example/atomic_lock/atomiclock/backend/HeldLock", 29), ("com/example/atomic_lock/atomiclock/backend/HeldLock", 42), ("com/example/atomic_lock/atomiclock/backend/HeldLock", 50), ("java/lang/String", 7)]
def Base (Z : State) (a0 : Array Value) : Prop := (∀ d ∈ tables_1, d.before a0 Z = true) ∧ EW Z a0 ELc ∧ (∃ cz, Sta Z Z.heap "java/lang/String" "COMPACT_STRINGS" "Z" (.int cz) ∧ ¬ cz = 0) ∧ (∃ fv, Sta Z Z.heap "jdk/internal/util/Preconditions" "SIOOBE_FORMATTER" "Ljava/util/function/BiFunction;" fv ∧ fv.isRef = true) ∧ (∃ dg kd vd, Sta Z Z.heap "java/lang/Integer" "DigitOnes" "[B" (.ref dg) ∧ Arv Z Z.heap dg kd .byte 100 vd (.int 0) ∧ ∀ i, i < 10 → vd.getD i (.int 0) = .int (Int32.ofNat (48 + i))) ∧ (∃ de ke, Sta Z Z.heap "java/util/ArrayList" "DEFAULTCAPACITY_EMPTY_ELEMENTDATA" "[Ljava/lang/Object;" (.ref de) ∧ Arv Z Z.heap de ke (.object "java/lang/Object") 0 [] .null) ∧ True
theorem wd {Z : State} {a0 : Array Value} {d : Jvm.Cond} (hB : Base Z a0) (k : Nat) (hk : tables_1[k]? = some d) : d.before a0 Z = true := hB.1 d (List.mem_of_getElem? hk)
theorem stA {Z : State} {a0 : Array Value} (hB : Base Z a0) : ∀ a ∈ Bundle.stringAtoms, a.before a0 Z = true := fun d hd => by
  simp only [Bundle.stringAtoms, List.mem_cons, List.not_mem_nil, or_false] at hd
  rcases hd with rfl | rfl | rfl | rfl | rfl | rfl | rfl
  · exact (wd hB 7 rfl)
  · exact (wd hB 6 rfl)
  · exact (wd hB 24 rfl)
  · exact (wd hB 34 rfl)
  · exact (wd hB 32 rfl)
  · exact (wd hB 123 rfl)
  · exact (wd hB 124 rfl)
theorem ofN_int {i : Nat} (h : i < 2147483648) : (Int32.ofNat i).toInt = i := Int32.toInt_ofNat_of_lt h
theorem ofN_lt {i n : Nat} (hi : i < n) (hn : n < 2147483648) : Int32.ofNat i < Int32.ofNat n := by
  rw [Int32.lt_iff_toInt_lt, ofN_int (by omega), ofN_int hn]; omega
theorem ofN_nlt {i n : Nat} (hi : n ≤ i) (hn : i < 2147483648) : ¬ Int32.ofNat i < Int32.ofNat n := by
  rw [Int32.lt_iff_toInt_lt, ofN_int hn, ofN_int (i := n) (by omega)]; omega
theorem ofN_nneg {i : Nat} (h : i < 2147483648) : ¬ Int32.ofNat i < 0 := by
  rw [Int32.lt_iff_toInt_lt, ofN_int h]; show ¬ (i : Int) < 0; omega
theorem ofN_cl {i : Nat} (h : i < 2147483648) : (Int32.ofNat i).toNatClampNeg = i := by
  have := ofN_int h; show (Int32.ofNat i).toInt.toNat = i; omega
theorem ofN_succ (i : Nat) : Int32.ofNat i + 1 = Int32.ofNat (i + 1) := by rw [Int32.ofNat_add]; rfl
theorem ofN_pos {i : Nat} (h0 : 0 < i) (h : i < 2147483648) : ¬ Int32.ofNat i = 0 := fun q => by
  have := ofN_int h; rw [q] at this; have h2 : (0 : Int32).toInt = 0 := rfl; omega
def lo8s (cs : List Int32) : List Value := cs.map fun c => Value.int c.toInt8.toInt32
theorem lo8s_len (cs : List Int32) : (lo8s cs).length = cs.length := by simp [lo8s]
theorem lo8s_set {cs : List Int32} {i j : Nat} {c : Int32} (hc : cs[i]? = some c) (hi : i + (j + 1) = cs.length) : (lo8s (cs.take i) ++ List.replicate (j + 1) (Value.int 0)).set i (Value.int c.toInt8.toInt32) = lo8s (cs.take (i + 1)) ++ List.replicate j (Value.int 0) := by
  have hl : (lo8s (cs.take i)).length = i := by rw [lo8s_len, List.length_take]; omega
  rw [List.set_append_right _ _ (by omega), hl, Nat.sub_self, List.replicate_succ, List.set_cons_zero, List.take_add_one, hc]
  simp [lo8s]
theorem map_at {cs : List Int32} {i : Nat} {c : Int32} (hc : cs[i]? = some c) : (cs.map Value.int).getD i (.int 0) = .int c := by simp [List.getD_eq_getElem?_getD, hc]
theorem at_of {cs : List Int32} {i : Nat} (h : i < cs.length) : ∃ c, cs[i]? = some c ∧ c ∈ cs := ⟨cs[i], List.getElem?_eq_getElem h, List.getElem_mem h⟩
theorem toBV_i8 (x : Int32) : x.toInt8.toInt32.toBitVec = (x.toBitVec.setWidth 8).signExtend 32 := by
  simp only [Int8.toBitVec_toInt32, Int32.toBitVec_toInt8]
  first | rw [BitVec.signExtend_eq_setWidth_of_le x.toBitVec (by omega)] | rw [BitVec.signExtend_eq_setWidth_of_lt x.toBitVec (by omega)] 
theorem sx8 (y : BitVec 8) : (y.signExtend 32).toNat % 256 = y.toNat := by
  rw [BitVec.toNat_signExtend]
  split <;> simp <;> omega
theorem lo8_and (x : Int32) : (x.toInt8.toInt32 &&& 255).toBitVec.toNat = x.toBitVec.toNat % 256 := by
  rw [Int32.toBitVec_and, BitVec.toNat_and]
  have e : (255 : Int32).toBitVec.toNat = 2 ^ 8 - 1 := by decide
  rw [e, Nat.and_two_pow_sub_one_eq_mod, toBV_i8]
  have := sx8 (x.toBitVec.setWidth 8)
  rw [BitVec.toNat_setWidth] at this
  exact this
theorem shl1 {i : Nat} (h : 2 * i < 2147483648) : Int32.ofNat i <<< ((1 : Int32) &&& 31) = Int32.ofNat (2 * i) := by
  have e : ((1 : Int32) &&& 31) = 1 := by decide
  rw [e]
  apply Int32.toBitVec_inj.mp
  apply BitVec.eq_of_toNat_eq
  have a1 : (Int32.ofNat i).toBitVec.toNat = i := by show (BitVec.ofNat 32 i).toNat = i; rw [BitVec.toNat_ofNat]; omega
  have a2 : (Int32.ofNat (2 * i)).toBitVec.toNat = 2 * i := by show (BitVec.ofNat 32 (2 * i)).toNat = 2 * i; rw [BitVec.toNat_ofNat]; omega
  rw [a2, Int32.toBitVec_shiftLeft]
  have e1 : ((1 : Int32).toBitVec.smod 32) = 1#32 := by decide
  rw [e1]
  show ((Int32.ofNat i).toBitVec <<< (1#32).toNat).toNat = 2 * i
  rw [BitVec.toNat_shiftLeft, a1]
  show (i <<< 1) % 2 ^ 32 = 2 * i
  rw [Nat.shiftLeft_eq]; omega
theorem shr0 (c : Int32) : c >>> ((0 : Int32) &&& 31) = c := by
  have e : ((0 : Int32) &&& 31) = 0 := by decide
  rw [e]
  apply Int32.toBitVec_inj.mp
  rw [Int32.toBitVec_shiftRight]
  have e1 : ((0 : Int32).toBitVec.smod 32) = 0#32 := by decide
  rw [e1]
  show c.toBitVec.sshiftRight (0#32).toNat = _
  simp
theorem shl0 (c : Int32) : c <<< ((0 : Int32) &&& 31) = c := by
  have e : ((0 : Int32) &&& 31) = 0 := by decide
  rw [e]
  apply Int32.toBitVec_inj.mp
  rw [Int32.toBitVec_shiftLeft]
  have e1 : ((0 : Int32).toBitVec.smod 32) = 0#32 := by decide
  rw [e1]
  show c.toBitVec <<< (0#32).toNat = _
  simp
theorem shl8_nat {x : Int32} (h : x.toBitVec.toNat < 256) : (x <<< ((8 : Int32) &&& 31)).toBitVec.toNat = x.toBitVec.toNat * 256 := by
  have e : ((8 : Int32) &&& 31) = 8 := by decide
  rw [e, Int32.toBitVec_shiftLeft]
  have e1 : ((8 : Int32).toBitVec.smod 32) = 8#32 := by decide
  rw [e1]
  show (x.toBitVec <<< (8#32).toNat).toNat = _
  rw [BitVec.toNat_shiftLeft]
  show (x.toBitVec.toNat <<< 8) % 2 ^ 32 = _
  rw [Nat.shiftLeft_eq]; omega
theorem shr1 {n : Nat} (h : 2 * n < 2147483648) : Int32.ofNat (2 * n) >>> ((1 : Int32) &&& 31) = Int32.ofNat n := by
  have e : ((1 : Int32) &&& 31) = 1 := by decide
  rw [e]
  apply Int32.toBitVec_inj.mp
  rw [Int32.toBitVec_shiftRight]
  have e1 : ((1 : Int32).toBitVec.smod 32) = 1#32 := by decide
  have a1 : (Int32.ofNat (2 * n)).toBitVec.toNat = 2 * n := by show (BitVec.ofNat 32 (2 * n)).toNat = 2 * n; rw [BitVec.toNat_ofNat]; omega
  have a2 : (Int32.ofNat n).toBitVec.toNat = n := by show (BitVec.ofNat 32 n).toNat = n; rw [BitVec.toNat_ofNat]; omega
  have hm : (Int32.ofNat (2 * n)).toBitVec.msb = false := by rw [BitVec.msb_eq_decide, a1]; simp; omega
  apply BitVec.eq_of_toNat_eq
  rw [e1]
  show ((Int32.ofNat (2 * n)).toBitVec.sshiftRight (1#32).toNat).toNat = _
  rw [BitVec.sshiftRight_eq_of_msb_false hm, BitVec.toNat_ushiftRight, a1, a2]
  show (2 * n) >>> 1 = n
  rw [Nat.shiftRight_eq_div_pow]; omega
theorem nat_of_int {c : Int32} (h : 0 ≤ c.toInt) : c.toInt = (c.toBitVec.toNat : Int) := by
  have h1 : 0 ≤ c.toBitVec.toInt := h
  show c.toBitVec.toInt = _
  rw [BitVec.toInt_eq_toNat_cond] at h1 ⊢
  split at h1
  · rw [if_pos (by assumption)]
  · have := c.toBitVec.isLt; omega
theorem and_rng (x : Int32) {m : Int32} (hm : 0 ≤ m.toInt) : 0 ≤ (x &&& m).toInt ∧ (x &&& m).toInt ≤ m.toInt := by
  have h1 : (x &&& m).toBitVec.toNat ≤ m.toBitVec.toNat := by rw [Int32.toBitVec_and, BitVec.toNat_and]; exact Nat.and_le_right
  have h4 := nat_of_int hm
  have hb : m.toInt < 2147483648 := m.toInt_lt
  have h3 : (x &&& m).toInt = ((x &&& m).toBitVec.toNat : Int) := BitVec.toInt_eq_toNat_of_lt (by omega)
  omega
theorem rem_rng {x m : Int32} (hx : 0 ≤ x.toInt) (hm : 0 < m.toInt) : 0 ≤ (x % m).toInt ∧ (x % m).toInt < m.toInt := by
  rw [Int32.toInt_mod]
  exact ⟨Int.tmod_nonneg _ hx, Int.tmod_lt_of_pos _ hm⟩
theorem ushr_rng (x : Int32) : 0 ≤ (XT.ushr x 16).toInt := by
  have h1 : (XT.ushr x 16).toBitVec.toNat < 65536 := by
    show (x.toUInt32 >>> ((16 : Int32) &&& 31).toUInt32).toNat < 65536
    have : (((16 : Int32) &&& 31).toUInt32) = 16 := by decide
    rw [this, UInt32.toNat_shiftRight]
    have := x.toUInt32.toNat_lt; show x.toUInt32.toNat >>> (16 % 32) < _; rw [Nat.shiftRight_eq_div_pow]
    show x.toUInt32.toNat / 65536 < 65536
    omega
  have h3 : (XT.ushr x 16).toInt = ((XT.ushr x 16).toBitVec.toNat : Int) := BitVec.toInt_eq_toNat_of_lt (by omega)
  omega
theorem ofN_sub {a b : Nat} (h : b ≤ a) (ha : a < 2147483648) : Int32.ofNat a - Int32.ofNat b = Int32.ofNat (a - b) := by
  apply Int32.toInt_inj.mp
  rw [Int32.toInt_sub, ofN_int ha, ofN_int (i := b) (by omega), ofN_int (i := a - b) (by omega)]
  rw [Int.bmod_eq_of_le (by omega) (by omega)]; omega
theorem ofN_add (a b : Nat) : Int32.ofNat a + Int32.ofNat b = Int32.ofNat (a + b) := by rw [Int32.ofNat_add]
def ob (p : Prop) [Decidable p] : Int32 := if p then 1 else 0
theorem ob_t {p : Prop} [Decidable p] (h : p) : ob p = 1 := if_pos h
theorem ob_f {p : Prop} [Decidable p] (h : ¬ p) : ob p = 0 := if_neg h
theorem pd_0 : parseMethodDescriptor "([CI[BII)I" = some ⟨[(.array .char), .int, (.array .byte), .int, .int], (some .int)⟩ := by decide +kernel
theorem pd_1 : parseMethodDescriptor "([CII)[B" = some ⟨[(.array .char), .int, .int], (some (.array .byte))⟩ := by decide +kernel
theorem pd_2 : parseMethodDescriptor "([BI)B" = some ⟨[(.array .byte), .int], (some .byte)⟩ := by decide +kernel
theorem pd_3 : parseMethodDescriptor "([CIILjava/lang/Void;)V" = some ⟨[(.array .char), .int, .int, (.object "java/lang/Void")], none⟩ := by decide +kernel
theorem pd_4 : parseMethodDescriptor "()B" = some ⟨[], (some .byte)⟩ := by decide +kernel
theorem pd_5 : parseMethodDescriptor "(IILjava/util/function/BiFunction;)I" = some ⟨[.int, .int, (.object "java/util/function/BiFunction")], (some .int)⟩ := by decide +kernel
theorem pd_6 : parseMethodDescriptor "(II)V" = some ⟨[.int, .int], none⟩ := by decide +kernel
theorem pd_7 : parseMethodDescriptor "()Z" = some ⟨[], (some .boolean)⟩ := by decide +kernel
theorem pd_8 : parseMethodDescriptor "([BI)C" = some ⟨[(.array .byte), .int], (some .char)⟩ := by decide +kernel
theorem pd_9 : parseMethodDescriptor "(II)I" = some ⟨[.int, .int], (some .int)⟩ := by decide +kernel
theorem pd_10 : parseMethodDescriptor "([BII)[B" = some ⟨[(.array .byte), .int, .int], (some (.array .byte))⟩ := by decide +kernel
theorem pd_11 : parseMethodDescriptor "(I)V" = some ⟨[.int], none⟩ := by decide +kernel
theorem pd_12 : parseMethodDescriptor "(Ljava/lang/String;)V" = some ⟨[(.object "java/lang/String")], none⟩ := by decide +kernel
theorem pd_13 : parseMethodDescriptor "([BIB)V" = some ⟨[(.array .byte), .int, .byte], none⟩ := by decide +kernel
theorem pd_14 : parseMethodDescriptor "()I" = some ⟨[], (some .int)⟩ := by decide +kernel
theorem pd_15 : parseMethodDescriptor "(ILjava/lang/String;)V" = some ⟨[.int, (.object "java/lang/String")], none⟩ := by decide +kernel
theorem pd_16 : parseMethodDescriptor "(Ljava/lang/String;)Ljava/lang/AbstractStringBuilder;" = some ⟨[(.object "java/lang/String")], (some (.object "java/lang/AbstractStringBuilder"))⟩ := by decide +kernel
theorem pd_17 : parseMethodDescriptor "(I)I" = some ⟨[.int], (some .int)⟩ := by decide +kernel
theorem pd_18 : parseMethodDescriptor "(II[B)I" = some ⟨[.int, .int, (.array .byte)], (some .int)⟩ := by decide +kernel
theorem pd_19 : parseMethodDescriptor "(I)Ljava/lang/AbstractStringBuilder;" = some ⟨[.int], (some (.object "java/lang/AbstractStringBuilder"))⟩ := by decide +kernel
theorem pd_20 : parseMethodDescriptor "()[B" = some ⟨[], (some (.array .byte))⟩ := by decide +kernel
theorem pd_21 : parseMethodDescriptor "(Ljava/lang/AbstractStringBuilder;Ljava/lang/Void;)V" = some ⟨[(.object "java/lang/AbstractStringBuilder"), (.object "java/lang/Void")], none⟩ := by decide +kernel
theorem pd_22 : parseMethodDescriptor "(Ljava/lang/StringBuilder;)V" = some ⟨[(.object "java/lang/StringBuilder")], none⟩ := by decide +kernel
theorem pd_23 : parseMethodDescriptor "()V" = some ⟨[], none⟩ := by decide +kernel
theorem pd_24 : parseMethodDescriptor "(I)[Ljava/lang/Object;" = some ⟨[.int], (some (.array (.object "java/lang/Object")))⟩ := by decide +kernel
theorem pd_25 : parseMethodDescriptor "()[Ljava/lang/Object;" = some ⟨[], (some (.array (.object "java/lang/Object")))⟩ := by decide +kernel
theorem pd_26 : parseMethodDescriptor "(Ljava/lang/Object;[Ljava/lang/Object;I)V" = some ⟨[(.object "java/lang/Object"), (.array (.object "java/lang/Object")), .int], none⟩ := by decide +kernel
theorem pd_27 : parseMethodDescriptor "(I)Ljava/lang/Object;" = some ⟨[.int], (some (.object "java/lang/Object"))⟩ := by decide +kernel
theorem pd_28 : parseMethodDescriptor "(C)Z" = some ⟨[.char], (some .boolean)⟩ := by decide +kernel
theorem pd_29 : parseMethodDescriptor "(C)[B" = some ⟨[.char], (some (.array .byte))⟩ := by decide +kernel
theorem pd_30 : parseMethodDescriptor "([BB)V" = some ⟨[(.array .byte), .byte], none⟩ := by decide +kernel
theorem pd_31 : parseMethodDescriptor "(Ljava/lang/String;)Ljava/lang/StringBuilder;" = some ⟨[(.object "java/lang/String")], (some (.object "java/lang/StringBuilder"))⟩ := by decide +kernel
theorem pd_32 : parseMethodDescriptor "()Ljava/lang/String;" = some ⟨[], (some (.object "java/lang/String"))⟩ := by decide +kernel
theorem pd_33 : parseMethodDescriptor "(I)Ljava/lang/StringBuilder;" = some ⟨[.int], (some (.object "java/lang/StringBuilder"))⟩ := by decide +kernel
theorem pd_34 : parseMethodDescriptor "([C)V" = some ⟨[(.array .char)], none⟩ := by decide +kernel
theorem pd_35 : parseMethodDescriptor "(I)C" = some ⟨[.int], (some .char)⟩ := by decide +kernel
theorem pd_36 : parseMethodDescriptor "(ICCC)Ljava/lang/String;" = some ⟨[.int, .char, .char, .char], (some (.object "java/lang/String"))⟩ := by decide +kernel
theorem pd_37 : parseMethodDescriptor "(Ljava/util/List;)Ljava/lang/String;" = some ⟨[(.object "java/util/List")], (some (.object "java/lang/String"))⟩ := by decide +kernel
theorem pd_38 : parseMethodDescriptor "(Ljava/lang/String;IC)Z" = some ⟨[(.object "java/lang/String"), .int, .char], (some .boolean)⟩ := by decide +kernel
theorem pd_39 : parseMethodDescriptor "(Ljava/lang/String;Ljava/lang/String;Ljava/util/OptionalLong;)V" = some ⟨[(.object "java/lang/String"), (.object "java/lang/String"), (.object "java/util/OptionalLong")], none⟩ := by decide +kernel
theorem pd_40 : parseMethodDescriptor "(Ljava/lang/Object;)Z" = some ⟨[(.object "java/lang/Object")], (some .boolean)⟩ := by decide +kernel
theorem pd_41 : parseMethodDescriptor "(C)Ljava/lang/String;" = some ⟨[.char], (some (.object "java/lang/String"))⟩ := by decide +kernel
theorem d_b6_0 : decode jdk_52_method_21_code 0 = .ok (.iconst 0, 1) := by decide +kernel
theorem d_b6_1 : decode jdk_52_method_21_code 1 = .ok (.istore 5, 2) := by decide +kernel
theorem d_b6_3 : decode jdk_52_method_21_code 3 = .ok (.iload 5, 2) := by decide +kernel
theorem d_b6_5 : decode jdk_52_method_21_code 5 = .ok (.iload 4, 2) := by decide +kernel
theorem d_b6_7 : decode jdk_52_method_21_code 7 = .ok (.if_icmp .ge 37, 3) := by decide +kernel
theorem d_b6_10 : decode jdk_52_method_21_code 10 = .ok (.aload_n 0, 1) := by decide +kernel
theorem d_b6_11 : decode jdk_52_method_21_code 11 = .ok (.iload_n 1, 1) := by decide +kernel
theorem d_b6_12 : decode jdk_52_method_21_code 12 = .ok (.caload, 1) := by decide +kernel
theorem d_b6_13 : decode jdk_52_method_21_code 13 = .ok (.istore 6, 2) := by decide +kernel
theorem d_b6_15 : decode jdk_52_method_21_code 15 = .ok (.iload 6, 2) := by decide +kernel
theorem d_b6_17 : decode jdk_52_method_21_code 17 = .ok (.sipush 255, 3) := by decide +kernel
theorem d_b6_20 : decode jdk_52_method_21_code 20 = .ok (.if_icmp .le 6, 3) := by decide +kernel
theorem d_b6_26 : decode jdk_52_method_21_code 26 = .ok (.aload_n 2, 1) := by decide +kernel
theorem d_b6_27 : decode jdk_52_method_21_code 27 = .ok (.iload_n 3, 1) := by decide +kernel
theorem d_b6_28 : decode jdk_52_method_21_code 28 = .ok (.iload 6, 2) := by decide +kernel
theorem d_b6_30 : decode jdk_52_method_21_code 30 = .ok (.i2b, 1) := by decide +kernel
theorem d_b6_31 : decode jdk_52_method_21_code 31 = .ok (.bastore, 1) := by decide +kernel
theorem d_b6_32 : decode jdk_52_method_21_code 32 = .ok (.iinc 1 1, 3) := by decide +kernel
theorem d_b6_35 : decode jdk_52_method_21_code 35 = .ok (.iinc 3 1, 3) := by decide +kernel
theorem d_b6_38 : decode jdk_52_method_21_code 38 = .ok (.iinc 5 1, 3) := by decide +kernel
theorem d_b6_41 : decode jdk_52_method_21_code 41 = .ok (.goto (-38), 3) := by decide +kernel
theorem d_b6_44 : decode jdk_52_method_21_code 44 = .ok (.iload 4, 2) := by decide +kernel
theorem d_b6_46 : decode jdk_52_method_21_code 46 = .ok (.ireturn, 1) := by decide +kernel
theorem d_b7_0 : decode jdk_52_method_15_code 0 = .ok (.iload_n 1, 1) := by decide +kernel
theorem d_b7_1 : decode jdk_52_method_15_code 1 = .ok (.aload_n 0, 1) := by decide +kernel
theorem d_b7_2 : decode jdk_52_method_15_code 2 = .ok (.arraylength, 1) := by decide +kernel
theorem d_b7_3 : decode jdk_52_method_15_code 3 = .ok (.isub, 1) := by decide +kernel
theorem d_b7_4 : decode jdk_52_method_15_code 4 = .ok (.bipush 31, 2) := by decide +kernel
theorem d_b7_6 : decode jdk_52_method_15_code 6 = .ok (.iushr, 1) := by decide +kernel
theorem d_b7_7 : decode jdk_52_method_15_code 7 = .ok (.i2b, 1) := by decide +kernel
theorem d_b7_8 : decode jdk_52_method_15_code 8 = .ok (.ireturn, 1) := by decide +kernel
theorem d_b5_0 : decode jdk_52_method_16_code 0 = .ok (.iload_n 2, 1) := by decide +kernel
theorem d_b5_1 : decode jdk_52_method_16_code 1 = .ok (.newarray .byte, 2) := by decide +kernel
theorem d_b5_3 : decode jdk_52_method_16_code 3 = .ok (.astore_n 3, 1) := by decide +kernel
theorem d_b5_4 : decode jdk_52_method_16_code 4 = .ok (.aload_n 0, 1) := by decide +kernel
theorem d_b5_5 : decode jdk_52_method_16_code 5 = .ok (.iload_n 1, 1) := by decide +kernel
theorem d_b5_6 : decode jdk_52_method_16_code 6 = .ok (.aload_n 3, 1) := by decide +kernel
theorem d_b5_7 : decode jdk_52_method_16_code 7 = .ok (.iconst 0, 1) := by decide +kernel
theorem d_b5_8 : decode jdk_52_method_16_code 8 = .ok (.iload_n 2, 1) := by decide +kernel
theorem d_b5_9 : decode jdk_52_method_16_code 9 = .ok (.invokestatic 115, 3) := by decide +kernel
theorem d_b5_12 : decode jdk_52_method_16_code 12 = .ok (.istore 4, 2) := by decide +kernel
theorem d_b5_14 : decode jdk_52_method_16_code 14 = .ok (.iload 4, 2) := by decide +kernel
theorem d_b5_16 : decode jdk_52_method_16_code 16 = .ok (.iload_n 2, 1) := by decide +kernel
theorem d_b5_17 : decode jdk_52_method_16_code 17 = .ok (.if_icmp .eq 40, 3) := by decide +kernel
theorem d_b5_57 : decode jdk_52_method_16_code 57 = .ok (.aload_n 3, 1) := by decide +kernel
theorem d_b5_58 : decode jdk_52_method_16_code 58 = .ok (.areturn, 1) := by decide +kernel
theorem d_b3_0 : decode jdk_42_method_149_code 0 = .ok (.aload_n 0, 1) := by decide +kernel
theorem d_b3_1 : decode jdk_42_method_149_code 1 = .ok (.invokespecial 1, 3) := by decide +kernel
theorem d_b3_4 : decode jdk_42_method_149_code 4 = .ok (.iload_n 3, 1) := by decide +kernel
theorem d_b3_5 : decode jdk_42_method_149_code 5 = .ok (.ifCond .ne 22, 3) := by decide +kernel
theorem d_b3_8 : decode jdk_42_method_149_code 8 = .ok (.aload_n 0, 1) := by decide +kernel
theorem d_b3_9 : decode jdk_42_method_149_code 9 = .ok (.ldc 7, 2) := by decide +kernel
theorem d_b3_11 : decode jdk_42_method_149_code 11 = .ok (.getfield 9, 3) := by decide +kernel
theorem d_b3_14 : decode jdk_42_method_149_code 14 = .ok (.putfield 9, 3) := by decide +kernel
theorem d_b3_17 : decode jdk_42_method_149_code 17 = .ok (.aload_n 0, 1) := by decide +kernel
theorem d_b3_18 : decode jdk_42_method_149_code 18 = .ok (.ldc 7, 2) := by decide +kernel
theorem d_b3_20 : decode jdk_42_method_149_code 20 = .ok (.getfield 15, 3) := by decide +kernel
theorem d_b3_23 : decode jdk_42_method_149_code 23 = .ok (.putfield 15, 3) := by decide +kernel
theorem d_b3_26 : decode jdk_42_method_149_code 26 = .ok (.return_, 1) := by decide +kernel
theorem d_b3_27 : decode jdk_42_method_149_code 27 = .ok (.getstatic 38, 3) := by decide +kernel
theorem d_b3_30 : decode jdk_42_method_149_code 30 = .ok (.ifCond .eq 28, 3) := by decide +kernel
theorem d_b3_33 : decode jdk_42_method_149_code 33 = .ok (.aload_n 1, 1) := by decide +kernel
theorem d_b3_34 : decode jdk_42_method_149_code 34 = .ok (.iload_n 2, 1) := by decide +kernel
theorem d_b3_35 : decode jdk_42_method_149_code 35 = .ok (.iload_n 3, 1) := by decide +kernel
theorem d_b3_36 : decode jdk_42_method_149_code 36 = .ok (.invokestatic 177, 3) := by decide +kernel
theorem d_b3_39 : decode jdk_42_method_149_code 39 = .ok (.astore 5, 2) := by decide +kernel
theorem d_b3_41 : decode jdk_42_method_149_code 41 = .ok (.aload_n 0, 1) := by decide +kernel
theorem d_b3_42 : decode jdk_42_method_149_code 42 = .ok (.aload 5, 2) := by decide +kernel
theorem d_b3_44 : decode jdk_42_method_149_code 44 = .ok (.iload_n 3, 1) := by decide +kernel
theorem d_b3_45 : decode jdk_42_method_149_code 45 = .ok (.invokestatic 47, 3) := by decide +kernel
theorem d_b3_48 : decode jdk_42_method_149_code 48 = .ok (.putfield 15, 3) := by decide +kernel
theorem d_b3_51 : decode jdk_42_method_149_code 51 = .ok (.aload_n 0, 1) := by decide +kernel
theorem d_b3_52 : decode jdk_42_method_149_code 52 = .ok (.aload 5, 2) := by decide +kernel
theorem d_b3_54 : decode jdk_42_method_149_code 54 = .ok (.putfield 9, 3) := by decide +kernel
theorem d_b3_57 : decode jdk_42_method_149_code 57 = .ok (.return_, 1) := by decide +kernel
theorem d_b2_0 : decode jdk_42_method_3_code 0 = .ok (.aload_n 0, 1) := by decide +kernel
theorem d_b2_1 : decode jdk_42_method_3_code 1 = .ok (.aload_n 1, 1) := by decide +kernel
theorem d_b2_2 : decode jdk_42_method_3_code 2 = .ok (.iconst 0, 1) := by decide +kernel
theorem d_b2_3 : decode jdk_42_method_3_code 3 = .ok (.aload_n 1, 1) := by decide +kernel
theorem d_b2_4 : decode jdk_42_method_3_code 4 = .ok (.arraylength, 1) := by decide +kernel
theorem d_b2_5 : decode jdk_42_method_3_code 5 = .ok (.aconst_null, 1) := by decide +kernel
theorem d_b2_6 : decode jdk_42_method_3_code 6 = .ok (.invokespecial 27, 3) := by decide +kernel
theorem d_b2_9 : decode jdk_42_method_3_code 9 = .ok (.return_, 1) := by decide +kernel
theorem d_b24_0 : decode jdk_42_method_152_code 0 = .ok (.getstatic 38, 3) := by decide +kernel
theorem d_b24_3 : decode jdk_42_method_152_code 3 = .ok (.ifCond .eq 10, 3) := by decide +kernel
theorem d_b24_6 : decode jdk_42_method_152_code 6 = .ok (.aload_n 0, 1) := by decide +kernel
theorem d_b24_7 : decode jdk_42_method_152_code 7 = .ok (.getfield 15, 3) := by decide +kernel
theorem d_b24_10 : decode jdk_42_method_152_code 10 = .ok (.goto 4, 3) := by decide +kernel
theorem d_b24_14 : decode jdk_42_method_152_code 14 = .ok (.ireturn, 1) := by decide +kernel
theorem d_b23_0 : decode jdk_42_method_54_code 0 = .ok (.aload_n 0, 1) := by decide +kernel
theorem d_b23_1 : decode jdk_42_method_54_code 1 = .ok (.getfield 9, 3) := by decide +kernel
theorem d_b23_4 : decode jdk_42_method_54_code 4 = .ok (.arraylength, 1) := by decide +kernel
theorem d_b23_5 : decode jdk_42_method_54_code 5 = .ok (.aload_n 0, 1) := by decide +kernel
theorem d_b23_6 : decode jdk_42_method_54_code 6 = .ok (.invokevirtual 335, 3) := by decide +kernel
theorem d_b23_9 : decode jdk_42_method_54_code 9 = .ok (.ishr, 1) := by decide +kernel
theorem d_b23_10 : decode jdk_42_method_54_code 10 = .ok (.ireturn, 1) := by decide +kernel
theorem d_b43_0 : decode jdk_41_method_11_code 0 = .ok (.iload_n 0, 1) := by decide +kernel
theorem d_b43_1 : decode jdk_41_method_11_code 1 = .ok (.ifCond .lt 8, 3) := by decide +kernel
theorem d_b43_4 : decode jdk_41_method_11_code 4 = .ok (.iload_n 0, 1) := by decide +kernel
theorem d_b43_5 : decode jdk_41_method_11_code 5 = .ok (.iload_n 1, 1) := by decide +kernel
theorem d_b43_6 : decode jdk_41_method_11_code 6 = .ok (.if_icmp .lt 10, 3) := by decide +kernel
theorem d_b43_16 : decode jdk_41_method_11_code 16 = .ok (.iload_n 0, 1) := by decide +kernel
theorem d_b43_17 : decode jdk_41_method_11_code 17 = .ok (.ireturn, 1) := by decide +kernel
theorem d_b42_0 : decode jdk_42_method_155_code 0 = .ok (.iload_n 0, 1) := by decide +kernel
theorem d_b42_1 : decode jdk_42_method_155_code 1 = .ok (.iload_n 1, 1) := by decide +kernel
theorem d_b42_2 : decode jdk_42_method_155_code 2 = .ok (.getstatic 1053, 3) := by decide +kernel
theorem d_b42_5 : decode jdk_42_method_155_code 5 = .ok (.invokestatic 1059, 3) := by decide +kernel
theorem d_b42_8 : decode jdk_42_method_155_code 8 = .ok (.pop, 1) := by decide +kernel
theorem d_b42_9 : decode jdk_42_method_155_code 9 = .ok (.return_, 1) := by decide +kernel
theorem d_b41_0 : decode jdk_43_method_2_code 0 = .ok (.iload_n 1, 1) := by decide +kernel
theorem d_b41_1 : decode jdk_43_method_2_code 1 = .ok (.aload_n 0, 1) := by decide +kernel
theorem d_b41_2 : decode jdk_43_method_2_code 2 = .ok (.arraylength, 1) := by decide +kernel
theorem d_b41_3 : decode jdk_43_method_2_code 3 = .ok (.invokestatic 9, 3) := by decide +kernel
theorem d_b41_6 : decode jdk_43_method_2_code 6 = .ok (.aload_n 0, 1) := by decide +kernel
theorem d_b41_7 : decode jdk_43_method_2_code 7 = .ok (.iload_n 1, 1) := by decide +kernel
theorem d_b41_8 : decode jdk_43_method_2_code 8 = .ok (.baload, 1) := by decide +kernel
theorem d_b41_9 : decode jdk_43_method_2_code 9 = .ok (.sipush 255, 3) := by decide +kernel
theorem d_b41_12 : decode jdk_43_method_2_code 12 = .ok (.iand, 1) := by decide +kernel
theorem d_b41_13 : decode jdk_43_method_2_code 13 = .ok (.i2c, 1) := by decide +kernel
theorem d_b41_14 : decode jdk_43_method_2_code 14 = .ok (.ireturn, 1) := by decide +kernel
theorem d_b40_0 : decode jdk_42_method_154_code 0 = .ok (.getstatic 38, 3) := by decide +kernel
theorem d_b40_3 : decode jdk_42_method_154_code 3 = .ok (.ifCond .eq 14, 3) := by decide +kernel
theorem d_b40_6 : decode jdk_42_method_154_code 6 = .ok (.aload_n 0, 1) := by decide +kernel
theorem d_b40_7 : decode jdk_42_method_154_code 7 = .ok (.getfield 15, 3) := by decide +kernel
theorem d_b40_10 : decode jdk_42_method_154_code 10 = .ok (.ifCond .ne 7, 3) := by decide +kernel
theorem d_b40_13 : decode jdk_42_method_154_code 13 = .ok (.iconst 1, 1) := by decide +kernel
theorem d_b40_14 : decode jdk_42_method_154_code 14 = .ok (.goto 4, 3) := by decide +kernel
theorem d_b40_18 : decode jdk_42_method_154_code 18 = .ok (.ireturn, 1) := by decide +kernel
theorem d_b39_0 : decode jdk_42_method_56_code 0 = .ok (.aload_n 0, 1) := by decide +kernel
theorem d_b39_1 : decode jdk_42_method_56_code 1 = .ok (.invokevirtual 492, 3) := by decide +kernel
theorem d_b39_4 : decode jdk_42_method_56_code 4 = .ok (.ifCond .eq 12, 3) := by decide +kernel
theorem d_b39_7 : decode jdk_42_method_56_code 7 = .ok (.aload_n 0, 1) := by decide +kernel
theorem d_b39_8 : decode jdk_42_method_56_code 8 = .ok (.getfield 9, 3) := by decide +kernel
theorem d_b39_11 : decode jdk_42_method_56_code 11 = .ok (.iload_n 1, 1) := by decide +kernel
theorem d_b39_12 : decode jdk_42_method_56_code 12 = .ok (.invokestatic 495, 3) := by decide +kernel
theorem d_b39_15 : decode jdk_42_method_56_code 15 = .ok (.ireturn, 1) := by decide +kernel
theorem d_b36_0 : decode jdk_65_method_131_code 0 = .ok (.iload_n 1, 1) := by decide +kernel
theorem d_b36_1 : decode jdk_65_method_131_code 1 = .ok (.iload_n 0, 1) := by decide +kernel
theorem d_b36_2 : decode jdk_65_method_131_code 2 = .ok (.if_icmp .ge 35, 3) := by decide +kernel
theorem d_b36_37 : decode jdk_65_method_131_code 37 = .ok (.return_, 1) := by decide +kernel
theorem d_b37_0 : decode jdk_29_method_69_code 0 = .ok (.iload_n 0, 1) := by decide +kernel
theorem d_b37_1 : decode jdk_29_method_69_code 1 = .ok (.iload_n 1, 1) := by decide +kernel
theorem d_b37_2 : decode jdk_29_method_69_code 2 = .ok (.if_icmp .gt 7, 3) := by decide +kernel
theorem d_b37_5 : decode jdk_29_method_69_code 5 = .ok (.iload_n 0, 1) := by decide +kernel
theorem d_b37_6 : decode jdk_29_method_69_code 6 = .ok (.goto 4, 3) := by decide +kernel
theorem d_b37_9 : decode jdk_29_method_69_code 9 = .ok (.iload_n 1, 1) := by decide +kernel
theorem d_b37_10 : decode jdk_29_method_69_code 10 = .ok (.ireturn, 1) := by decide +kernel
theorem d_b35_0 : decode jdk_65_method_133_code 0 = .ok (.iload_n 1, 1) := by decide +kernel
theorem d_b35_1 : decode jdk_65_method_133_code 1 = .ok (.iload_n 2, 1) := by decide +kernel
theorem d_b35_2 : decode jdk_65_method_133_code 2 = .ok (.invokestatic 343, 3) := by decide +kernel
theorem d_b35_5 : decode jdk_65_method_133_code 5 = .ok (.iload_n 2, 1) := by decide +kernel
theorem d_b35_6 : decode jdk_65_method_133_code 6 = .ok (.iload_n 1, 1) := by decide +kernel
theorem d_b35_7 : decode jdk_65_method_133_code 7 = .ok (.isub, 1) := by decide +kernel
theorem d_b35_8 : decode jdk_65_method_133_code 8 = .ok (.istore_n 3, 1) := by decide +kernel
theorem d_b35_9 : decode jdk_65_method_133_code 9 = .ok (.iload_n 3, 1) := by decide +kernel
theorem d_b35_10 : decode jdk_65_method_133_code 10 = .ok (.newarray .byte, 2) := by decide +kernel
theorem d_b35_12 : decode jdk_65_method_133_code 12 = .ok (.astore 4, 2) := by decide +kernel
theorem d_b35_14 : decode jdk_65_method_133_code 14 = .ok (.aload_n 0, 1) := by decide +kernel
theorem d_b35_15 : decode jdk_65_method_133_code 15 = .ok (.iload_n 1, 1) := by decide +kernel
theorem d_b35_16 : decode jdk_65_method_133_code 16 = .ok (.aload 4, 2) := by decide +kernel
theorem d_b35_18 : decode jdk_65_method_133_code 18 = .ok (.iconst 0, 1) := by decide +kernel
theorem d_b35_19 : decode jdk_65_method_133_code 19 = .ok (.aload_n 0, 1) := by decide +kernel
theorem d_b35_20 : decode jdk_65_method_133_code 20 = .ok (.arraylength, 1) := by decide +kernel
theorem d_b35_21 : decode jdk_65_method_133_code 21 = .ok (.iload_n 1, 1) := by decide +kernel
theorem d_b35_22 : decode jdk_65_method_133_code 22 = .ok (.isub, 1) := by decide +kernel
theorem d_b35_23 : decode jdk_65_method_133_code 23 = .ok (.iload_n 3, 1) := by decide +kernel
theorem d_b35_24 : decode jdk_65_method_133_code 24 = .ok (.invokestatic 304, 3) := by decide +kernel
theorem d_b35_27 : decode jdk_65_method_133_code 27 = .ok (.invokestatic 150, 3) := by decide +kernel
theorem d_b35_30 : decode jdk_65_method_133_code 30 = .ok (.aload 4, 2) := by decide +kernel
theorem d_b35_32 : decode jdk_65_method_133_code 32 = .ok (.areturn, 1) := by decide +kernel
theorem d_b34_0 : decode jdk_65_method_132_code 0 = .ok (.iload_n 1, 1) := by decide +kernel
theorem d_b34_1 : decode jdk_65_method_132_code 1 = .ok (.ifCond .ne 9, 3) := by decide +kernel
theorem d_b34_4 : decode jdk_65_method_132_code 4 = .ok (.iload_n 2, 1) := by decide +kernel
theorem d_b34_5 : decode jdk_65_method_132_code 5 = .ok (.aload_n 0, 1) := by decide +kernel
theorem d_b34_6 : decode jdk_65_method_132_code 6 = .ok (.arraylength, 1) := by decide +kernel
theorem d_b34_7 : decode jdk_65_method_132_code 7 = .ok (.if_icmp .eq 10, 3) := by decide +kernel
theorem d_b34_10 : decode jdk_65_method_132_code 10 = .ok (.aload_n 0, 1) := by decide +kernel
theorem d_b34_11 : decode jdk_65_method_132_code 11 = .ok (.iload_n 1, 1) := by decide +kernel
theorem d_b34_12 : decode jdk_65_method_132_code 12 = .ok (.iload_n 2, 1) := by decide +kernel
theorem d_b34_13 : decode jdk_65_method_132_code 13 = .ok (.invokestatic 339, 3) := by decide +kernel
theorem d_b34_16 : decode jdk_65_method_132_code 16 = .ok (.areturn, 1) := by decide +kernel
theorem d_b14_0 : decode jdk_68_method_2_code 0 = .ok (.aload_n 0, 1) := by decide +kernel
theorem d_b14_1 : decode jdk_68_method_2_code 1 = .ok (.invokespecial 3, 3) := by decide +kernel
theorem d_b14_4 : decode jdk_68_method_2_code 4 = .ok (.getstatic 18, 3) := by decide +kernel
theorem d_b14_7 : decode jdk_68_method_2_code 7 = .ok (.ifCond .eq 18, 3) := by decide +kernel
theorem d_b14_10 : decode jdk_68_method_2_code 10 = .ok (.aload_n 0, 1) := by decide +kernel
theorem d_b14_11 : decode jdk_68_method_2_code 11 = .ok (.iload_n 1, 1) := by decide +kernel
theorem d_b14_12 : decode jdk_68_method_2_code 12 = .ok (.newarray .byte, 2) := by decide +kernel
theorem d_b14_14 : decode jdk_68_method_2_code 14 = .ok (.putfield 15, 3) := by decide +kernel
theorem d_b14_17 : decode jdk_68_method_2_code 17 = .ok (.aload_n 0, 1) := by decide +kernel
theorem d_b14_18 : decode jdk_68_method_2_code 18 = .ok (.iconst 0, 1) := by decide +kernel
theorem d_b14_19 : decode jdk_68_method_2_code 19 = .ok (.putfield 22, 3) := by decide +kernel
theorem d_b14_22 : decode jdk_68_method_2_code 22 = .ok (.goto 16, 3) := by decide +kernel
theorem d_b14_38 : decode jdk_68_method_2_code 38 = .ok (.return_, 1) := by decide +kernel
theorem d_b13_0 : decode jdk_67_method_1_code 0 = .ok (.aload_n 0, 1) := by decide +kernel
theorem d_b13_1 : decode jdk_67_method_1_code 1 = .ok (.bipush 16, 2) := by decide +kernel
theorem d_b13_3 : decode jdk_67_method_1_code 3 = .ok (.invokespecial 1, 3) := by decide +kernel
theorem d_b13_6 : decode jdk_67_method_1_code 6 = .ok (.return_, 1) := by decide +kernel
theorem d_b18_0 : decode jdk_68_method_9_code 0 = .ok (.aload_n 0, 1) := by decide +kernel
theorem d_b18_1 : decode jdk_68_method_9_code 1 = .ok (.getfield 15, 3) := by decide +kernel
theorem d_b18_4 : decode jdk_68_method_9_code 4 = .ok (.arraylength, 1) := by decide +kernel
theorem d_b18_5 : decode jdk_68_method_9_code 5 = .ok (.aload_n 0, 1) := by decide +kernel
theorem d_b18_6 : decode jdk_68_method_9_code 6 = .ok (.getfield 22, 3) := by decide +kernel
theorem d_b18_9 : decode jdk_68_method_9_code 9 = .ok (.ishr, 1) := by decide +kernel
theorem d_b18_10 : decode jdk_68_method_9_code 10 = .ok (.istore_n 2, 1) := by decide +kernel
theorem d_b18_11 : decode jdk_68_method_9_code 11 = .ok (.iload_n 1, 1) := by decide +kernel
theorem d_b18_12 : decode jdk_68_method_9_code 12 = .ok (.iload_n 2, 1) := by decide +kernel
theorem d_b18_13 : decode jdk_68_method_9_code 13 = .ok (.isub, 1) := by decide +kernel
theorem d_b18_14 : decode jdk_68_method_9_code 14 = .ok (.ifCond .le 24, 3) := by decide +kernel
theorem d_b18_38 : decode jdk_68_method_9_code 38 = .ok (.return_, 1) := by decide +kernel
theorem d_b19_0 : decode jdk_68_method_68_code 0 = .ok (.getstatic 18, 3) := by decide +kernel
theorem d_b19_3 : decode jdk_68_method_68_code 3 = .ok (.ifCond .eq 14, 3) := by decide +kernel
theorem d_b19_6 : decode jdk_68_method_68_code 6 = .ok (.aload_n 0, 1) := by decide +kernel
theorem d_b19_7 : decode jdk_68_method_68_code 7 = .ok (.getfield 22, 3) := by decide +kernel
theorem d_b19_10 : decode jdk_68_method_68_code 10 = .ok (.ifCond .ne 7, 3) := by decide +kernel
theorem d_b19_13 : decode jdk_68_method_68_code 13 = .ok (.iconst 1, 1) := by decide +kernel
theorem d_b19_14 : decode jdk_68_method_68_code 14 = .ok (.goto 4, 3) := by decide +kernel
theorem d_b19_18 : decode jdk_68_method_68_code 18 = .ok (.ireturn, 1) := by decide +kernel
theorem d_b26_0 : decode jdk_68_method_71_code 0 = .ok (.getstatic 18, 3) := by decide +kernel
theorem d_b26_3 : decode jdk_68_method_71_code 3 = .ok (.ifCond .eq 18, 3) := by decide +kernel
theorem d_b26_6 : decode jdk_68_method_71_code 6 = .ok (.aload_n 0, 1) := by decide +kernel
theorem d_b26_7 : decode jdk_68_method_71_code 7 = .ok (.getfield 22, 3) := by decide +kernel
theorem d_b26_10 : decode jdk_68_method_71_code 10 = .ok (.aload_n 1, 1) := by decide +kernel
theorem d_b26_11 : decode jdk_68_method_71_code 11 = .ok (.invokevirtual 40, 3) := by decide +kernel
theorem d_b26_14 : decode jdk_68_method_71_code 14 = .ok (.if_icmp .eq 7, 3) := by decide +kernel
theorem d_b26_21 : decode jdk_68_method_71_code 21 = .ok (.return_, 1) := by decide +kernel
theorem d_b27_0 : decode jdk_42_method_147_code 0 = .ok (.aload_n 0, 1) := by decide +kernel
theorem d_b27_1 : decode jdk_42_method_147_code 1 = .ok (.invokevirtual 335, 3) := by decide +kernel
theorem d_b27_4 : decode jdk_42_method_147_code 4 = .ok (.iload_n 3, 1) := by decide +kernel
theorem d_b27_5 : decode jdk_42_method_147_code 5 = .ok (.if_icmp .ne 23, 3) := by decide +kernel
theorem d_b27_8 : decode jdk_42_method_147_code 8 = .ok (.aload_n 0, 1) := by decide +kernel
theorem d_b27_9 : decode jdk_42_method_147_code 9 = .ok (.getfield 9, 3) := by decide +kernel
theorem d_b27_12 : decode jdk_42_method_147_code 12 = .ok (.iconst 0, 1) := by decide +kernel
theorem d_b27_13 : decode jdk_42_method_147_code 13 = .ok (.aload_n 1, 1) := by decide +kernel
theorem d_b27_14 : decode jdk_42_method_147_code 14 = .ok (.iload_n 2, 1) := by decide +kernel
theorem d_b27_15 : decode jdk_42_method_147_code 15 = .ok (.iload_n 3, 1) := by decide +kernel
theorem d_b27_16 : decode jdk_42_method_147_code 16 = .ok (.ishl, 1) := by decide +kernel
theorem d_b27_17 : decode jdk_42_method_147_code 17 = .ok (.aload_n 0, 1) := by decide +kernel
theorem d_b27_18 : decode jdk_42_method_147_code 18 = .ok (.getfield 9, 3) := by decide +kernel
theorem d_b27_21 : decode jdk_42_method_147_code 21 = .ok (.arraylength, 1) := by decide +kernel
theorem d_b27_22 : decode jdk_42_method_147_code 22 = .ok (.invokestatic 212, 3) := by decide +kernel
theorem d_b27_25 : decode jdk_42_method_147_code 25 = .ok (.goto 18, 3) := by decide +kernel
theorem d_b27_43 : decode jdk_42_method_147_code 43 = .ok (.return_, 1) := by decide +kernel
theorem d_b25_0 : decode jdk_68_method_73_code 0 = .ok (.aload_n 0, 1) := by decide +kernel
theorem d_b25_1 : decode jdk_68_method_73_code 1 = .ok (.aload_n 2, 1) := by decide +kernel
theorem d_b25_2 : decode jdk_68_method_73_code 2 = .ok (.invokevirtual 397, 3) := by decide +kernel
theorem d_b25_5 : decode jdk_68_method_73_code 5 = .ok (.aload_n 2, 1) := by decide +kernel
theorem d_b25_6 : decode jdk_68_method_73_code 6 = .ok (.aload_n 0, 1) := by decide +kernel
theorem d_b25_7 : decode jdk_68_method_73_code 7 = .ok (.getfield 15, 3) := by decide +kernel
theorem d_b25_10 : decode jdk_68_method_73_code 10 = .ok (.iload_n 1, 1) := by decide +kernel
theorem d_b25_11 : decode jdk_68_method_73_code 11 = .ok (.aload_n 0, 1) := by decide +kernel
theorem d_b25_12 : decode jdk_68_method_73_code 12 = .ok (.getfield 22, 3) := by decide +kernel
theorem d_b25_15 : decode jdk_68_method_73_code 15 = .ok (.invokevirtual 399, 3) := by decide +kernel
theorem d_b25_18 : decode jdk_68_method_73_code 18 = .ok (.return_, 1) := by decide +kernel
theorem d_b22_0 : decode jdk_68_method_22_code 0 = .ok (.aload_n 1, 1) := by decide +kernel
theorem d_b22_1 : decode jdk_68_method_22_code 1 = .ok (.ifnonnull 8, 3) := by decide +kernel
theorem d_b22_9 : decode jdk_68_method_22_code 9 = .ok (.aload_n 1, 1) := by decide +kernel
theorem d_b22_10 : decode jdk_68_method_22_code 10 = .ok (.invokevirtual 32, 3) := by decide +kernel
theorem d_b22_13 : decode jdk_68_method_22_code 13 = .ok (.istore_n 2, 1) := by decide +kernel
theorem d_b22_14 : decode jdk_68_method_22_code 14 = .ok (.aload_n 0, 1) := by decide +kernel
theorem d_b22_15 : decode jdk_68_method_22_code 15 = .ok (.aload_n 0, 1) := by decide +kernel
theorem d_b22_16 : decode jdk_68_method_22_code 16 = .ok (.getfield 79, 3) := by decide +kernel
theorem d_b22_19 : decode jdk_68_method_22_code 19 = .ok (.iload_n 2, 1) := by decide +kernel
theorem d_b22_20 : decode jdk_68_method_22_code 20 = .ok (.iadd, 1) := by decide +kernel
theorem d_b22_21 : decode jdk_68_method_22_code 21 = .ok (.invokevirtual 100, 3) := by decide +kernel
theorem d_b22_24 : decode jdk_68_method_22_code 24 = .ok (.aload_n 0, 1) := by decide +kernel
theorem d_b22_25 : decode jdk_68_method_22_code 25 = .ok (.aload_n 0, 1) := by decide +kernel
theorem d_b22_26 : decode jdk_68_method_22_code 26 = .ok (.getfield 79, 3) := by decide +kernel
theorem d_b22_29 : decode jdk_68_method_22_code 29 = .ok (.aload_n 1, 1) := by decide +kernel
theorem d_b22_30 : decode jdk_68_method_22_code 30 = .ok (.invokevirtual 208, 3) := by decide +kernel
theorem d_b22_33 : decode jdk_68_method_22_code 33 = .ok (.aload_n 0, 1) := by decide +kernel
theorem d_b22_34 : decode jdk_68_method_22_code 34 = .ok (.dup, 1) := by decide +kernel
theorem d_b22_35 : decode jdk_68_method_22_code 35 = .ok (.getfield 79, 3) := by decide +kernel
theorem d_b22_38 : decode jdk_68_method_22_code 38 = .ok (.iload_n 2, 1) := by decide +kernel
theorem d_b22_39 : decode jdk_68_method_22_code 39 = .ok (.iadd, 1) := by decide +kernel
theorem d_b22_40 : decode jdk_68_method_22_code 40 = .ok (.putfield 79, 3) := by decide +kernel
theorem d_b22_43 : decode jdk_68_method_22_code 43 = .ok (.aload_n 0, 1) := by decide +kernel
theorem d_b22_44 : decode jdk_68_method_22_code 44 = .ok (.areturn, 1) := by decide +kernel
theorem d_b21_0 : decode jdk_67_method_7_code 0 = .ok (.aload_n 0, 1) := by decide +kernel
theorem d_b21_1 : decode jdk_67_method_7_code 1 = .ok (.aload_n 1, 1) := by decide +kernel
theorem d_b21_2 : decode jdk_67_method_7_code 2 = .ok (.invokespecial 29, 3) := by decide +kernel
theorem d_b21_5 : decode jdk_67_method_7_code 5 = .ok (.pop, 1) := by decide +kernel
theorem d_b21_6 : decode jdk_67_method_7_code 6 = .ok (.aload_n 0, 1) := by decide +kernel
theorem d_b21_7 : decode jdk_67_method_7_code 7 = .ok (.areturn, 1) := by decide +kernel
theorem d_b17_0 : decode jdk_33_method_13_code 0 = .ok (.iconst 1, 1) := by decide +kernel
theorem d_b17_1 : decode jdk_33_method_13_code 1 = .ok (.istore_n 1, 1) := by decide +kernel
theorem d_b17_2 : decode jdk_33_method_13_code 2 = .ok (.iload_n 0, 1) := by decide +kernel
theorem d_b17_3 : decode jdk_33_method_13_code 3 = .ok (.ifCond .lt 8, 3) := by decide +kernel
theorem d_b17_6 : decode jdk_33_method_13_code 6 = .ok (.iconst 0, 1) := by decide +kernel
theorem d_b17_7 : decode jdk_33_method_13_code 7 = .ok (.istore_n 1, 1) := by decide +kernel
theorem d_b17_8 : decode jdk_33_method_13_code 8 = .ok (.iload_n 0, 1) := by decide +kernel
theorem d_b17_9 : decode jdk_33_method_13_code 9 = .ok (.ineg, 1) := by decide +kernel
theorem d_b17_10 : decode jdk_33_method_13_code 10 = .ok (.istore_n 0, 1) := by decide +kernel
theorem d_b17_11 : decode jdk_33_method_13_code 11 = .ok (.bipush (-10), 2) := by decide +kernel
theorem d_b17_13 : decode jdk_33_method_13_code 13 = .ok (.istore_n 2, 1) := by decide +kernel
theorem d_b17_14 : decode jdk_33_method_13_code 14 = .ok (.iconst 1, 1) := by decide +kernel
theorem d_b17_15 : decode jdk_33_method_13_code 15 = .ok (.istore_n 3, 1) := by decide +kernel
theorem d_b17_16 : decode jdk_33_method_13_code 16 = .ok (.iload_n 3, 1) := by decide +kernel
theorem d_b17_17 : decode jdk_33_method_13_code 17 = .ok (.bipush 10, 2) := by decide +kernel
theorem d_b17_19 : decode jdk_33_method_13_code 19 = .ok (.if_icmp .ge 23, 3) := by decide +kernel
theorem d_b17_22 : decode jdk_33_method_13_code 22 = .ok (.iload_n 0, 1) := by decide +kernel
theorem d_b17_23 : decode jdk_33_method_13_code 23 = .ok (.iload_n 2, 1) := by decide +kernel
theorem d_b17_24 : decode jdk_33_method_13_code 24 = .ok (.if_icmp .le 7, 3) := by decide +kernel
theorem d_b17_27 : decode jdk_33_method_13_code 27 = .ok (.iload_n 3, 1) := by decide +kernel
theorem d_b17_28 : decode jdk_33_method_13_code 28 = .ok (.iload_n 1, 1) := by decide +kernel
theorem d_b17_29 : decode jdk_33_method_13_code 29 = .ok (.iadd, 1) := by decide +kernel
theorem d_b17_30 : decode jdk_33_method_13_code 30 = .ok (.ireturn, 1) := by decide +kernel
theorem d_b20_0 : decode jdk_33_method_12_code 0 = .ok (.iload_n 1, 1) := by decide +kernel
theorem d_b20_1 : decode jdk_33_method_12_code 1 = .ok (.istore 5, 2) := by decide +kernel
theorem d_b20_3 : decode jdk_33_method_12_code 3 = .ok (.iload_n 0, 1) := by decide +kernel
theorem d_b20_4 : decode jdk_33_method_12_code 4 = .ok (.ifCond .ge 7, 3) := by decide +kernel
theorem d_b20_11 : decode jdk_33_method_12_code 11 = .ok (.iconst 0, 1) := by decide +kernel
theorem d_b20_12 : decode jdk_33_method_12_code 12 = .ok (.istore 6, 2) := by decide +kernel
theorem d_b20_14 : decode jdk_33_method_12_code 14 = .ok (.iload 6, 2) := by decide +kernel
theorem d_b20_16 : decode jdk_33_method_12_code 16 = .ok (.ifCond .ne 6, 3) := by decide +kernel
theorem d_b20_19 : decode jdk_33_method_12_code 19 = .ok (.iload_n 0, 1) := by decide +kernel
theorem d_b20_20 : decode jdk_33_method_12_code 20 = .ok (.ineg, 1) := by decide +kernel
theorem d_b20_21 : decode jdk_33_method_12_code 21 = .ok (.istore_n 0, 1) := by decide +kernel
theorem d_b20_22 : decode jdk_33_method_12_code 22 = .ok (.iload_n 0, 1) := by decide +kernel
theorem d_b20_23 : decode jdk_33_method_12_code 23 = .ok (.bipush (-100), 2) := by decide +kernel
theorem d_b20_25 : decode jdk_33_method_12_code 25 = .ok (.if_icmp .gt 47, 3) := by decide +kernel
theorem d_b20_72 : decode jdk_33_method_12_code 72 = .ok (.aload_n 2, 1) := by decide +kernel
theorem d_b20_73 : decode jdk_33_method_12_code 73 = .ok (.iinc 5 (-1), 3) := by decide +kernel
theorem d_b20_76 : decode jdk_33_method_12_code 76 = .ok (.iload 5, 2) := by decide +kernel
theorem d_b20_78 : decode jdk_33_method_12_code 78 = .ok (.getstatic 83, 3) := by decide +kernel
theorem d_b20_81 : decode jdk_33_method_12_code 81 = .ok (.iload_n 0, 1) := by decide +kernel
theorem d_b20_82 : decode jdk_33_method_12_code 82 = .ok (.ineg, 1) := by decide +kernel
theorem d_b20_83 : decode jdk_33_method_12_code 83 = .ok (.baload, 1) := by decide +kernel
theorem d_b20_84 : decode jdk_33_method_12_code 84 = .ok (.bastore, 1) := by decide +kernel
theorem d_b20_85 : decode jdk_33_method_12_code 85 = .ok (.iload_n 0, 1) := by decide +kernel
theorem d_b20_86 : decode jdk_33_method_12_code 86 = .ok (.bipush (-9), 2) := by decide +kernel
theorem d_b20_88 : decode jdk_33_method_12_code 88 = .ok (.if_icmp .ge 16, 3) := by decide +kernel
theorem d_b20_104 : decode jdk_33_method_12_code 104 = .ok (.iload 6, 2) := by decide +kernel
theorem d_b20_106 : decode jdk_33_method_12_code 106 = .ok (.ifCond .eq 12, 3) := by decide +kernel
theorem d_b20_118 : decode jdk_33_method_12_code 118 = .ok (.iload 5, 2) := by decide +kernel
theorem d_b20_120 : decode jdk_33_method_12_code 120 = .ok (.ireturn, 1) := by decide +kernel
theorem d_b16_0 : decode jdk_68_method_32_code 0 = .ok (.aload_n 0, 1) := by decide +kernel
theorem d_b16_1 : decode jdk_68_method_32_code 1 = .ok (.getfield 79, 3) := by decide +kernel
theorem d_b16_4 : decode jdk_68_method_32_code 4 = .ok (.istore_n 2, 1) := by decide +kernel
theorem d_b16_5 : decode jdk_68_method_32_code 5 = .ok (.iload_n 2, 1) := by decide +kernel
theorem d_b16_6 : decode jdk_68_method_32_code 6 = .ok (.iload_n 1, 1) := by decide +kernel
theorem d_b16_7 : decode jdk_68_method_32_code 7 = .ok (.invokestatic 245, 3) := by decide +kernel
theorem d_b16_10 : decode jdk_68_method_32_code 10 = .ok (.iadd, 1) := by decide +kernel
theorem d_b16_11 : decode jdk_68_method_32_code 11 = .ok (.istore_n 3, 1) := by decide +kernel
theorem d_b16_12 : decode jdk_68_method_32_code 12 = .ok (.aload_n 0, 1) := by decide +kernel
theorem d_b16_13 : decode jdk_68_method_32_code 13 = .ok (.iload_n 3, 1) := by decide +kernel
theorem d_b16_14 : decode jdk_68_method_32_code 14 = .ok (.invokevirtual 100, 3) := by decide +kernel
theorem d_b16_17 : decode jdk_68_method_32_code 17 = .ok (.aload_n 0, 1) := by decide +kernel
theorem d_b16_18 : decode jdk_68_method_32_code 18 = .ok (.invokevirtual 83, 3) := by decide +kernel
theorem d_b16_21 : decode jdk_68_method_32_code 21 = .ok (.ifCond .eq 16, 3) := by decide +kernel
theorem d_b16_24 : decode jdk_68_method_32_code 24 = .ok (.iload_n 1, 1) := by decide +kernel
theorem d_b16_25 : decode jdk_68_method_32_code 25 = .ok (.iload_n 3, 1) := by decide +kernel
theorem d_b16_26 : decode jdk_68_method_32_code 26 = .ok (.aload_n 0, 1) := by decide +kernel
theorem d_b16_27 : decode jdk_68_method_32_code 27 = .ok (.getfield 15, 3) := by decide +kernel
theorem d_b16_30 : decode jdk_68_method_32_code 30 = .ok (.invokestatic 248, 3) := by decide +kernel
theorem d_b16_33 : decode jdk_68_method_32_code 33 = .ok (.pop, 1) := by decide +kernel
theorem d_b16_34 : decode jdk_68_method_32_code 34 = .ok (.goto 14, 3) := by decide +kernel
theorem d_b16_48 : decode jdk_68_method_32_code 48 = .ok (.aload_n 0, 1) := by decide +kernel
theorem d_b16_49 : decode jdk_68_method_32_code 49 = .ok (.iload_n 3, 1) := by decide +kernel
theorem d_b16_50 : decode jdk_68_method_32_code 50 = .ok (.putfield 79, 3) := by decide +kernel
theorem d_b16_53 : decode jdk_68_method_32_code 53 = .ok (.aload_n 0, 1) := by decide +kernel
theorem d_b16_54 : decode jdk_68_method_32_code 54 = .ok (.areturn, 1) := by decide +kernel
theorem d_b15_0 : decode jdk_67_method_15_code 0 = .ok (.aload_n 0, 1) := by decide +kernel
theorem d_b15_1 : decode jdk_67_method_15_code 1 = .ok (.iload_n 1, 1) := by decide +kernel
theorem d_b15_2 : decode jdk_67_method_15_code 2 = .ok (.invokespecial 53, 3) := by decide +kernel
theorem d_b15_5 : decode jdk_67_method_15_code 5 = .ok (.pop, 1) := by decide +kernel
theorem d_b15_6 : decode jdk_67_method_15_code 6 = .ok (.aload_n 0, 1) := by decide +kernel
theorem d_b15_7 : decode jdk_67_method_15_code 7 = .ok (.areturn, 1) := by decide +kernel
theorem d_b31_0 : decode jdk_68_method_64_code 0 = .ok (.aload_n 0, 1) := by decide +kernel
theorem d_b31_1 : decode jdk_68_method_64_code 1 = .ok (.getfield 15, 3) := by decide +kernel
theorem d_b31_4 : decode jdk_68_method_64_code 4 = .ok (.areturn, 1) := by decide +kernel
theorem d_b33_0 : decode jdk_68_method_6_code 0 = .ok (.aload_n 0, 1) := by decide +kernel
theorem d_b33_1 : decode jdk_68_method_6_code 1 = .ok (.getfield 79, 3) := by decide +kernel
theorem d_b33_4 : decode jdk_68_method_6_code 4 = .ok (.ireturn, 1) := by decide +kernel
theorem d_b32_0 : decode jdk_67_method_93_code 0 = .ok (.aload_n 0, 1) := by decide +kernel
theorem d_b32_1 : decode jdk_67_method_93_code 1 = .ok (.invokespecial 343, 3) := by decide +kernel
theorem d_b32_4 : decode jdk_67_method_93_code 4 = .ok (.ireturn, 1) := by decide +kernel
theorem d_b30_0 : decode jdk_42_method_150_code 0 = .ok (.aload_n 0, 1) := by decide +kernel
theorem d_b30_1 : decode jdk_42_method_150_code 1 = .ok (.invokespecial 1, 3) := by decide +kernel
theorem d_b30_4 : decode jdk_42_method_150_code 4 = .ok (.aload_n 1, 1) := by decide +kernel
theorem d_b30_5 : decode jdk_42_method_150_code 5 = .ok (.invokevirtual 552, 3) := by decide +kernel
theorem d_b30_8 : decode jdk_42_method_150_code 8 = .ok (.astore_n 3, 1) := by decide +kernel
theorem d_b30_9 : decode jdk_42_method_150_code 9 = .ok (.aload_n 1, 1) := by decide +kernel
theorem d_b30_10 : decode jdk_42_method_150_code 10 = .ok (.invokevirtual 549, 3) := by decide +kernel
theorem d_b30_13 : decode jdk_42_method_150_code 13 = .ok (.istore 4, 2) := by decide +kernel
theorem d_b30_15 : decode jdk_42_method_150_code 15 = .ok (.aload_n 1, 1) := by decide +kernel
theorem d_b30_16 : decode jdk_42_method_150_code 16 = .ok (.invokevirtual 1047, 3) := by decide +kernel
theorem d_b30_19 : decode jdk_42_method_150_code 19 = .ok (.ifCond .eq 22, 3) := by decide +kernel
theorem d_b30_22 : decode jdk_42_method_150_code 22 = .ok (.aload_n 0, 1) := by decide +kernel
theorem d_b30_23 : decode jdk_42_method_150_code 23 = .ok (.iconst 0, 1) := by decide +kernel
theorem d_b30_24 : decode jdk_42_method_150_code 24 = .ok (.putfield 15, 3) := by decide +kernel
theorem d_b30_27 : decode jdk_42_method_150_code 27 = .ok (.aload_n 0, 1) := by decide +kernel
theorem d_b30_28 : decode jdk_42_method_150_code 28 = .ok (.aload_n 3, 1) := by decide +kernel
theorem d_b30_29 : decode jdk_42_method_150_code 29 = .ok (.iconst 0, 1) := by decide +kernel
theorem d_b30_30 : decode jdk_42_method_150_code 30 = .ok (.iload 4, 2) := by decide +kernel
theorem d_b30_32 : decode jdk_42_method_150_code 32 = .ok (.invokestatic 54, 3) := by decide +kernel
theorem d_b30_35 : decode jdk_42_method_150_code 35 = .ok (.putfield 9, 3) := by decide +kernel
theorem d_b30_38 : decode jdk_42_method_150_code 38 = .ok (.goto 59, 3) := by decide +kernel
theorem d_b30_97 : decode jdk_42_method_150_code 97 = .ok (.return_, 1) := by decide +kernel
theorem d_b29_0 : decode jdk_42_method_53_code 0 = .ok (.aload_n 0, 1) := by decide +kernel
theorem d_b29_1 : decode jdk_42_method_53_code 1 = .ok (.aload_n 1, 1) := by decide +kernel
theorem d_b29_2 : decode jdk_42_method_53_code 2 = .ok (.aconst_null, 1) := by decide +kernel
theorem d_b29_3 : decode jdk_42_method_53_code 3 = .ok (.invokespecial 489, 3) := by decide +kernel
theorem d_b29_6 : decode jdk_42_method_53_code 6 = .ok (.return_, 1) := by decide +kernel
theorem d_b28_0 : decode jdk_67_method_42_code 0 = .ok (.new 18, 3) := by decide +kernel
theorem d_b28_3 : decode jdk_67_method_42_code 3 = .ok (.dup, 1) := by decide +kernel
theorem d_b28_4 : decode jdk_67_method_42_code 4 = .ok (.aload_n 0, 1) := by decide +kernel
theorem d_b28_5 : decode jdk_67_method_42_code 5 = .ok (.invokespecial 137, 3) := by decide +kernel
theorem d_b28_8 : decode jdk_67_method_42_code 8 = .ok (.areturn, 1) := by decide +kernel
theorem d_b10_0 : decode jdk_22_method_1_code 0 = .ok (.aload_n 0, 1) := by decide +kernel
theorem d_b10_1 : decode jdk_22_method_1_code 1 = .ok (.invokespecial 1, 3) := by decide +kernel
theorem d_b10_4 : decode jdk_22_method_1_code 4 = .ok (.return_, 1) := by decide +kernel
theorem d_b9_0 : decode jdk_39_method_1_code 0 = .ok (.aload_n 0, 1) := by decide +kernel
theorem d_b9_1 : decode jdk_39_method_1_code 1 = .ok (.invokespecial 1, 3) := by decide +kernel
theorem d_b9_4 : decode jdk_39_method_1_code 4 = .ok (.aload_n 0, 1) := by decide +kernel
theorem d_b9_5 : decode jdk_39_method_1_code 5 = .ok (.iconst 0, 1) := by decide +kernel
theorem d_b9_6 : decode jdk_39_method_1_code 6 = .ok (.putfield 7, 3) := by decide +kernel
theorem d_b9_9 : decode jdk_39_method_1_code 9 = .ok (.return_, 1) := by decide +kernel
theorem d_b8_0 : decode jdk_38_method_2_code 0 = .ok (.aload_n 0, 1) := by decide +kernel
theorem d_b8_1 : decode jdk_38_method_2_code 1 = .ok (.invokespecial 1, 3) := by decide +kernel
theorem d_b8_4 : decode jdk_38_method_2_code 4 = .ok (.aload_n 0, 1) := by decide +kernel
theorem d_b8_5 : decode jdk_38_method_2_code 5 = .ok (.getstatic 39, 3) := by decide +kernel
theorem d_b8_8 : decode jdk_38_method_2_code 8 = .ok (.putfield 9, 3) := by decide +kernel
theorem d_b8_11 : decode jdk_38_method_2_code 11 = .ok (.return_, 1) := by decide +kernel
theorem d_b50_0 : decode jdk_29_method_65_code 0 = .ok (.iload_n 0, 1) := by decide +kernel
theorem d_b50_1 : decode jdk_29_method_65_code 1 = .ok (.iload_n 1, 1) := by decide +kernel
theorem d_b50_2 : decode jdk_29_method_65_code 2 = .ok (.if_icmp .lt 7, 3) := by decide +kernel
theorem d_b50_5 : decode jdk_29_method_65_code 5 = .ok (.iload_n 0, 1) := by decide +kernel
theorem d_b50_6 : decode jdk_29_method_65_code 6 = .ok (.goto 4, 3) := by decide +kernel
theorem d_b50_10 : decode jdk_29_method_65_code 10 = .ok (.ireturn, 1) := by decide +kernel
theorem d_b49_0 : decode jdk_38_method_6_code 0 = .ok (.aload_n 0, 1) := by decide +kernel
theorem d_b49_1 : decode jdk_38_method_6_code 1 = .ok (.getfield 9, 3) := by decide +kernel
theorem d_b49_4 : decode jdk_38_method_6_code 4 = .ok (.arraylength, 1) := by decide +kernel
theorem d_b49_5 : decode jdk_38_method_6_code 5 = .ok (.istore_n 2, 1) := by decide +kernel
theorem d_b49_6 : decode jdk_38_method_6_code 6 = .ok (.iload_n 2, 1) := by decide +kernel
theorem d_b49_7 : decode jdk_38_method_6_code 7 = .ok (.ifCond .gt 13, 3) := by decide +kernel
theorem d_b49_10 : decode jdk_38_method_6_code 10 = .ok (.aload_n 0, 1) := by decide +kernel
theorem d_b49_11 : decode jdk_38_method_6_code 11 = .ok (.getfield 9, 3) := by decide +kernel
theorem d_b49_14 : decode jdk_38_method_6_code 14 = .ok (.getstatic 39, 3) := by decide +kernel
theorem d_b49_17 : decode jdk_38_method_6_code 17 = .ok (.if_acmp .eq 28, 3) := by decide +kernel
theorem d_b49_45 : decode jdk_38_method_6_code 45 = .ok (.aload_n 0, 1) := by decide +kernel
theorem d_b49_46 : decode jdk_38_method_6_code 46 = .ok (.bipush 10, 2) := by decide +kernel
theorem d_b49_48 : decode jdk_38_method_6_code 48 = .ok (.iload_n 1, 1) := by decide +kernel
theorem d_b49_49 : decode jdk_38_method_6_code 49 = .ok (.invokestatic 79, 3) := by decide +kernel
theorem d_b49_52 : decode jdk_38_method_6_code 52 = .ok (.anewarray 7, 3) := by decide +kernel
theorem d_b49_55 : decode jdk_38_method_6_code 55 = .ok (.dup_x1, 1) := by decide +kernel
theorem d_b49_56 : decode jdk_38_method_6_code 56 = .ok (.putfield 9, 3) := by decide +kernel
theorem d_b49_59 : decode jdk_38_method_6_code 59 = .ok (.areturn, 1) := by decide +kernel
theorem d_b48_0 : decode jdk_38_method_7_code 0 = .ok (.aload_n 0, 1) := by decide +kernel
theorem d_b48_1 : decode jdk_38_method_7_code 1 = .ok (.aload_n 0, 1) := by decide +kernel
theorem d_b48_2 : decode jdk_38_method_7_code 2 = .ok (.getfield 48, 3) := by decide +kernel
theorem d_b48_5 : decode jdk_38_method_7_code 5 = .ok (.iconst 1, 1) := by decide +kernel
theorem d_b48_6 : decode jdk_38_method_7_code 6 = .ok (.iadd, 1) := by decide +kernel
theorem d_b48_7 : decode jdk_38_method_7_code 7 = .ok (.invokevirtual 69, 3) := by decide +kernel
theorem d_b48_10 : decode jdk_38_method_7_code 10 = .ok (.areturn, 1) := by decide +kernel
theorem d_b47_0 : decode jdk_38_method_24_code 0 = .ok (.iload_n 3, 1) := by decide +kernel
theorem d_b47_1 : decode jdk_38_method_24_code 1 = .ok (.aload_n 2, 1) := by decide +kernel
theorem d_b47_2 : decode jdk_38_method_24_code 2 = .ok (.arraylength, 1) := by decide +kernel
theorem d_b47_3 : decode jdk_38_method_24_code 3 = .ok (.if_icmp .ne 8, 3) := by decide +kernel
theorem d_b47_6 : decode jdk_38_method_24_code 6 = .ok (.aload_n 0, 1) := by decide +kernel
theorem d_b47_7 : decode jdk_38_method_24_code 7 = .ok (.invokevirtual 129, 3) := by decide +kernel
theorem d_b47_10 : decode jdk_38_method_24_code 10 = .ok (.astore_n 2, 1) := by decide +kernel
theorem d_b47_11 : decode jdk_38_method_24_code 11 = .ok (.aload_n 2, 1) := by decide +kernel
theorem d_b47_12 : decode jdk_38_method_24_code 12 = .ok (.iload_n 3, 1) := by decide +kernel
theorem d_b47_13 : decode jdk_38_method_24_code 13 = .ok (.aload_n 1, 1) := by decide +kernel
theorem d_b47_14 : decode jdk_38_method_24_code 14 = .ok (.aastore, 1) := by decide +kernel
theorem d_b47_15 : decode jdk_38_method_24_code 15 = .ok (.aload_n 0, 1) := by decide +kernel
theorem d_b47_16 : decode jdk_38_method_24_code 16 = .ok (.iload_n 3, 1) := by decide +kernel
theorem d_b47_17 : decode jdk_38_method_24_code 17 = .ok (.iconst 1, 1) := by decide +kernel
theorem d_b47_18 : decode jdk_38_method_24_code 18 = .ok (.iadd, 1) := by decide +kernel
theorem d_b47_19 : decode jdk_38_method_24_code 19 = .ok (.putfield 48, 3) := by decide +kernel
theorem d_b47_22 : decode jdk_38_method_24_code 22 = .ok (.return_, 1) := by decide +kernel
theorem d_b46_0 : decode jdk_38_method_25_code 0 = .ok (.aload_n 0, 1) := by decide +kernel
theorem d_b46_1 : decode jdk_38_method_25_code 1 = .ok (.dup, 1) := by decide +kernel
theorem d_b46_2 : decode jdk_38_method_25_code 2 = .ok (.getfield 63, 3) := by decide +kernel
theorem d_b46_5 : decode jdk_38_method_25_code 5 = .ok (.iconst 1, 1) := by decide +kernel
theorem d_b46_6 : decode jdk_38_method_25_code 6 = .ok (.iadd, 1) := by decide +kernel
theorem d_b46_7 : decode jdk_38_method_25_code 7 = .ok (.putfield 63, 3) := by decide +kernel
theorem d_b46_10 : decode jdk_38_method_25_code 10 = .ok (.aload_n 0, 1) := by decide +kernel
theorem d_b46_11 : decode jdk_38_method_25_code 11 = .ok (.aload_n 1, 1) := by decide +kernel
theorem d_b46_12 : decode jdk_38_method_25_code 12 = .ok (.aload_n 0, 1) := by decide +kernel
theorem d_b46_13 : decode jdk_38_method_25_code 13 = .ok (.getfield 9, 3) := by decide +kernel
theorem d_b46_16 : decode jdk_38_method_25_code 16 = .ok (.aload_n 0, 1) := by decide +kernel
theorem d_b46_17 : decode jdk_38_method_25_code 17 = .ok (.getfield 48, 3) := by decide +kernel
theorem d_b46_20 : decode jdk_38_method_25_code 20 = .ok (.invokevirtual 131, 3) := by decide +kernel
theorem d_b46_23 : decode jdk_38_method_25_code 23 = .ok (.iconst 1, 1) := by decide +kernel
theorem d_b46_24 : decode jdk_38_method_25_code 24 = .ok (.ireturn, 1) := by decide +kernel
theorem d_b12_0 : decode jdk_38_method_8_code 0 = .ok (.aload_n 0, 1) := by decide +kernel
theorem d_b12_1 : decode jdk_38_method_8_code 1 = .ok (.getfield 48, 3) := by decide +kernel
theorem d_b12_4 : decode jdk_38_method_8_code 4 = .ok (.ireturn, 1) := by decide +kernel
theorem d_b56_0 : decode jdk_31_method_17_code 0 = .ok (.iload_n 0, 1) := by decide +kernel
theorem d_b56_1 : decode jdk_31_method_17_code 1 = .ok (.iload_n 1, 1) := by decide +kernel
theorem d_b56_2 : decode jdk_31_method_17_code 2 = .ok (.aconst_null, 1) := by decide +kernel
theorem d_b56_3 : decode jdk_31_method_17_code 3 = .ok (.invokestatic 105, 3) := by decide +kernel
theorem d_b56_6 : decode jdk_31_method_17_code 6 = .ok (.ireturn, 1) := by decide +kernel
theorem d_b57_0 : decode jdk_38_method_18_code 0 = .ok (.aload_n 0, 1) := by decide +kernel
theorem d_b57_1 : decode jdk_38_method_18_code 1 = .ok (.getfield 9, 3) := by decide +kernel
theorem d_b57_4 : decode jdk_38_method_18_code 4 = .ok (.iload_n 1, 1) := by decide +kernel
theorem d_b57_5 : decode jdk_38_method_18_code 5 = .ok (.aaload, 1) := by decide +kernel
theorem d_b57_6 : decode jdk_38_method_18_code 6 = .ok (.areturn, 1) := by decide +kernel
theorem d_b55_0 : decode jdk_38_method_20_code 0 = .ok (.iload_n 1, 1) := by decide +kernel
theorem d_b55_1 : decode jdk_38_method_20_code 1 = .ok (.aload_n 0, 1) := by decide +kernel
theorem d_b55_2 : decode jdk_38_method_20_code 2 = .ok (.getfield 48, 3) := by decide +kernel
theorem d_b55_5 : decode jdk_38_method_20_code 5 = .ok (.invokestatic 118, 3) := by decide +kernel
theorem d_b55_8 : decode jdk_38_method_20_code 8 = .ok (.pop, 1) := by decide +kernel
theorem d_b55_9 : decode jdk_38_method_20_code 9 = .ok (.aload_n 0, 1) := by decide +kernel
theorem d_b55_10 : decode jdk_38_method_20_code 10 = .ok (.iload_n 1, 1) := by decide +kernel
theorem d_b55_11 : decode jdk_38_method_20_code 11 = .ok (.invokevirtual 123, 3) := by decide +kernel
theorem d_b55_14 : decode jdk_38_method_20_code 14 = .ok (.areturn, 1) := by decide +kernel
theorem d_b45_0 : decode jdk_30_method_1_code 0 = .ok (.aload_n 0, 1) := by decide +kernel
theorem d_b45_1 : decode jdk_30_method_1_code 1 = .ok (.invokespecial 1, 3) := by decide +kernel
theorem d_b45_4 : decode jdk_30_method_1_code 4 = .ok (.return_, 1) := by decide +kernel
theorem d_b44_0 : decode prog_11_method_1_code 0 = .ok (.aload_n 0, 1) := by decide +kernel
theorem d_b44_1 : decode prog_11_method_1_code 1 = .ok (.invokespecial 1, 3) := by decide +kernel
theorem d_b44_4 : decode prog_11_method_1_code 4 = .ok (.aload_n 0, 1) := by decide +kernel
theorem d_b44_5 : decode prog_11_method_1_code 5 = .ok (.aload_n 1, 1) := by decide +kernel
theorem d_b44_6 : decode prog_11_method_1_code 6 = .ok (.putfield 7, 3) := by decide +kernel
theorem d_b44_9 : decode prog_11_method_1_code 9 = .ok (.aload_n 0, 1) := by decide +kernel
theorem d_b44_10 : decode prog_11_method_1_code 10 = .ok (.aload_n 2, 1) := by decide +kernel
theorem d_b44_11 : decode prog_11_method_1_code 11 = .ok (.putfield 13, 3) := by decide +kernel
theorem d_b44_14 : decode prog_11_method_1_code 14 = .ok (.aload_n 0, 1) := by decide +kernel
theorem d_b44_15 : decode prog_11_method_1_code 15 = .ok (.aload_n 3, 1) := by decide +kernel
theorem d_b44_16 : decode prog_11_method_1_code 16 = .ok (.putfield 16, 3) := by decide +kernel
theorem d_b44_19 : decode prog_11_method_1_code 19 = .ok (.return_, 1) := by decide +kernel
theorem d_b58_0 : decode prog_11_method_6_code 0 = .ok (.aload_n 0, 1) := by decide +kernel
theorem d_b58_1 : decode prog_11_method_6_code 1 = .ok (.getfield 7, 3) := by decide +kernel
theorem d_b58_4 : decode prog_11_method_6_code 4 = .ok (.areturn, 1) := by decide +kernel
theorem d_b52_0 : decode jdk_43_method_3_code 0 = .ok (.iload_n 0, 1) := by decide +kernel
theorem d_b52_1 : decode jdk_43_method_3_code 1 = .ok (.sipush 255, 3) := by decide +kernel
theorem d_b52_4 : decode jdk_43_method_3_code 4 = .ok (.if_icmp .gt 7, 3) := by decide +kernel
theorem d_b52_7 : decode jdk_43_method_3_code 7 = .ok (.iconst 1, 1) := by decide +kernel
theorem d_b52_8 : decode jdk_43_method_3_code 8 = .ok (.goto 4, 3) := by decide +kernel
theorem d_b52_12 : decode jdk_43_method_3_code 12 = .ok (.ireturn, 1) := by decide +kernel
theorem d_b53_0 : decode jdk_43_method_46_code 0 = .ok (.iconst 1, 1) := by decide +kernel
theorem d_b53_1 : decode jdk_43_method_46_code 1 = .ok (.newarray .byte, 2) := by decide +kernel
theorem d_b53_3 : decode jdk_43_method_46_code 3 = .ok (.dup, 1) := by decide +kernel
theorem d_b53_4 : decode jdk_43_method_46_code 4 = .ok (.iconst 0, 1) := by decide +kernel
theorem d_b53_5 : decode jdk_43_method_46_code 5 = .ok (.iload_n 0, 1) := by decide +kernel
theorem d_b53_6 : decode jdk_43_method_46_code 6 = .ok (.i2b, 1) := by decide +kernel
theorem d_b53_7 : decode jdk_43_method_46_code 7 = .ok (.bastore, 1) := by decide +kernel
theorem d_b53_8 : decode jdk_43_method_46_code 8 = .ok (.areturn, 1) := by decide +kernel
theorem d_b54_0 : decode jdk_42_method_151_code 0 = .ok (.aload_n 0, 1) := by decide +kernel
theorem d_b54_1 : decode jdk_42_method_151_code 1 = .ok (.invokespecial 1, 3) := by decide +kernel
theorem d_b54_4 : decode jdk_42_method_151_code 4 = .ok (.aload_n 0, 1) := by decide +kernel
theorem d_b54_5 : decode jdk_42_method_151_code 5 = .ok (.aload_n 1, 1) := by decide +kernel
theorem d_b54_6 : decode jdk_42_method_151_code 6 = .ok (.putfield 9, 3) := by decide +kernel
theorem d_b54_9 : decode jdk_42_method_151_code 9 = .ok (.aload_n 0, 1) := by decide +kernel
theorem d_b54_10 : decode jdk_42_method_151_code 10 = .ok (.iload_n 2, 1) := by decide +kernel
theorem d_b54_11 : decode jdk_42_method_151_code 11 = .ok (.putfield 15, 3) := by decide +kernel
theorem d_b54_14 : decode jdk_42_method_151_code 14 = .ok (.return_, 1) := by decide +kernel
theorem d_b51_0 : decode jdk_42_method_139_code 0 = .ok (.getstatic 38, 3) := by decide +kernel
theorem d_b51_3 : decode jdk_42_method_139_code 3 = .ok (.ifCond .eq 23, 3) := by decide +kernel
theorem d_b51_6 : decode jdk_42_method_139_code 6 = .ok (.iload_n 0, 1) := by decide +kernel
theorem d_b51_7 : decode jdk_42_method_139_code 7 = .ok (.invokestatic 1015, 3) := by decide +kernel
theorem d_b51_10 : decode jdk_42_method_139_code 10 = .ok (.ifCond .eq 16, 3) := by decide +kernel
theorem d_b51_13 : decode jdk_42_method_139_code 13 = .ok (.new 10, 3) := by decide +kernel
theorem d_b51_16 : decode jdk_42_method_139_code 16 = .ok (.dup, 1) := by decide +kernel
theorem d_b51_17 : decode jdk_42_method_139_code 17 = .ok (.iload_n 0, 1) := by decide +kernel
theorem d_b51_18 : decode jdk_42_method_139_code 18 = .ok (.invokestatic 1018, 3) := by decide +kernel
theorem d_b51_21 : decode jdk_42_method_139_code 21 = .ok (.iconst 0, 1) := by decide +kernel
theorem d_b51_22 : decode jdk_42_method_139_code 22 = .ok (.invokespecial 209, 3) := by decide +kernel
theorem d_b51_25 : decode jdk_42_method_139_code 25 = .ok (.areturn, 1) := by decide +kernel
theorem d_b11_0 : decode prog_11_method_2_code 0 = .ok (.aload_n 0, 1) := by decide +kernel
theorem d_b11_1 : decode prog_11_method_2_code 1 = .ok (.invokeinterface 20 1, 5) := by decide +kernel
theorem d_b11_6 : decode prog_11_method_2_code 6 = .ok (.iconst 1, 1) := by decide +kernel
theorem d_b11_7 : decode prog_11_method_2_code 7 = .ok (.if_icmp .ne 42, 3) := by decide +kernel
theorem d_b11_10 : decode prog_11_method_2_code 10 = .ok (.new 26, 3) := by decide +kernel
theorem d_b11_13 : decode prog_11_method_2_code 13 = .ok (.dup, 1) := by decide +kernel
theorem d_b11_14 : decode prog_11_method_2_code 14 = .ok (.invokespecial 28, 3) := by decide +kernel
theorem d_b11_17 : decode prog_11_method_2_code 17 = .ok (.ldc 29, 2) := by decide +kernel
theorem d_b11_19 : decode prog_11_method_2_code 19 = .ok (.invokevirtual 31, 3) := by decide +kernel
theorem d_b11_22 : decode prog_11_method_2_code 22 = .ok (.aload_n 0, 1) := by decide +kernel
theorem d_b11_23 : decode prog_11_method_2_code 23 = .ok (.iconst 0, 1) := by decide +kernel
theorem d_b11_24 : decode prog_11_method_2_code 24 = .ok (.invokeinterface 35 2, 5) := by decide +kernel
theorem d_b11_29 : decode prog_11_method_2_code 29 = .ok (.checkcast 8, 3) := by decide +kernel
theorem d_b11_32 : decode prog_11_method_2_code 32 = .ok (.invokevirtual 39, 3) := by decide +kernel
theorem d_b11_35 : decode prog_11_method_2_code 35 = .ok (.invokevirtual 31, 3) := by decide +kernel
theorem d_b11_38 : decode prog_11_method_2_code 38 = .ok (.ldc 42, 2) := by decide +kernel
theorem d_b11_40 : decode prog_11_method_2_code 40 = .ok (.invokevirtual 31, 3) := by decide +kernel
theorem d_b11_43 : decode prog_11_method_2_code 43 = .ok (.invokevirtual 44, 3) := by decide +kernel
theorem d_b11_46 : decode prog_11_method_2_code 46 = .ok (.goto 27, 3) := by decide +kernel
theorem d_b11_49 : decode prog_11_method_2_code 49 = .ok (.new 26, 3) := by decide +kernel
theorem d_b11_52 : decode prog_11_method_2_code 52 = .ok (.dup, 1) := by decide +kernel
theorem d_b11_53 : decode prog_11_method_2_code 53 = .ok (.invokespecial 28, 3) := by decide +kernel
theorem d_b11_56 : decode prog_11_method_2_code 56 = .ok (.aload_n 0, 1) := by decide +kernel
theorem d_b11_57 : decode prog_11_method_2_code 57 = .ok (.invokeinterface 20 1, 5) := by decide +kernel
theorem d_b11_62 : decode prog_11_method_2_code 62 = .ok (.invokevirtual 47, 3) := by decide +kernel
theorem d_b11_65 : decode prog_11_method_2_code 65 = .ok (.ldc 50, 2) := by decide +kernel
theorem d_b11_67 : decode prog_11_method_2_code 67 = .ok (.invokevirtual 31, 3) := by decide +kernel
theorem d_b11_70 : decode prog_11_method_2_code 70 = .ok (.invokevirtual 44, 3) := by decide +kernel
theorem d_b11_73 : decode prog_11_method_2_code 73 = .ok (.areturn, 1) := by decide +kernel
theorem d_b1_0 : decode method_3_code 0 = .ok (.iload_n 0, 1) := by decide +kernel
theorem d_b1_1 : decode method_3_code 1 = .ok (.ifCond .ne 14, 3) := by decide +kernel
theorem d_b1_4 : decode method_3_code 4 = .ok (.new 8, 3) := by decide +kernel
theorem d_b1_7 : decode method_3_code 7 = .ok (.dup, 1) := by decide +kernel
theorem d_b1_8 : decode method_3_code 8 = .ok (.iconst 0, 1) := by decide +kernel
theorem d_b1_9 : decode method_3_code 9 = .ok (.newarray .char, 2) := by decide +kernel
theorem d_b1_11 : decode method_3_code 11 = .ok (.invokespecial 17, 3) := by decide +kernel
theorem d_b1_14 : decode method_3_code 14 = .ok (.areturn, 1) := by decide +kernel
theorem d_b1_15 : decode method_3_code 15 = .ok (.iload_n 0, 1) := by decide +kernel
theorem d_b1_16 : decode method_3_code 16 = .ok (.iconst 1, 1) := by decide +kernel
theorem d_b1_17 : decode method_3_code 17 = .ok (.if_icmp .ne 18, 3) := by decide +kernel
theorem d_b1_20 : decode method_3_code 20 = .ok (.new 8, 3) := by decide +kernel
theorem d_b1_23 : decode method_3_code 23 = .ok (.dup, 1) := by decide +kernel
theorem d_b1_24 : decode method_3_code 24 = .ok (.iconst 1, 1) := by decide +kernel
theorem d_b1_25 : decode method_3_code 25 = .ok (.newarray .char, 2) := by decide +kernel
theorem d_b1_27 : decode method_3_code 27 = .ok (.dup, 1) := by decide +kernel
theorem d_b1_28 : decode method_3_code 28 = .ok (.iconst 0, 1) := by decide +kernel
theorem d_b1_29 : decode method_3_code 29 = .ok (.iload_n 1, 1) := by decide +kernel
theorem d_b1_30 : decode method_3_code 30 = .ok (.castore, 1) := by decide +kernel
theorem d_b1_31 : decode method_3_code 31 = .ok (.invokespecial 17, 3) := by decide +kernel
theorem d_b1_34 : decode method_3_code 34 = .ok (.areturn, 1) := by decide +kernel
theorem d_b1_35 : decode method_3_code 35 = .ok (.iload_n 0, 1) := by decide +kernel
theorem d_b1_36 : decode method_3_code 36 = .ok (.iconst 2, 1) := by decide +kernel
theorem d_b1_37 : decode method_3_code 37 = .ok (.if_icmp .ne 22, 3) := by decide +kernel
theorem d_b1_40 : decode method_3_code 40 = .ok (.new 8, 3) := by decide +kernel
theorem d_b1_43 : decode method_3_code 43 = .ok (.dup, 1) := by decide +kernel
theorem d_b1_44 : decode method_3_code 44 = .ok (.iconst 2, 1) := by decide +kernel
theorem d_b1_45 : decode method_3_code 45 = .ok (.newarray .char, 2) := by decide +kernel
theorem d_b1_47 : decode method_3_code 47 = .ok (.dup, 1) := by decide +kernel
theorem d_b1_48 : decode method_3_code 48 = .ok (.iconst 0, 1) := by decide +kernel
theorem d_b1_49 : decode method_3_code 49 = .ok (.iload_n 1, 1) := by decide +kernel
theorem d_b1_50 : decode method_3_code 50 = .ok (.castore, 1) := by decide +kernel
theorem d_b1_51 : decode method_3_code 51 = .ok (.dup, 1) := by decide +kernel
theorem d_b1_52 : decode method_3_code 52 = .ok (.iconst 1, 1) := by decide +kernel
theorem d_b1_53 : decode method_3_code 53 = .ok (.iload_n 2, 1) := by decide +kernel
theorem d_b1_54 : decode method_3_code 54 = .ok (.castore, 1) := by decide +kernel
theorem d_b1_55 : decode method_3_code 55 = .ok (.invokespecial 17, 3) := by decide +kernel
theorem d_b1_58 : decode method_3_code 58 = .ok (.areturn, 1) := by decide +kernel
theorem d_b1_59 : decode method_3_code 59 = .ok (.new 8, 3) := by decide +kernel
theorem d_b1_62 : decode method_3_code 62 = .ok (.dup, 1) := by decide +kernel
theorem d_b1_63 : decode method_3_code 63 = .ok (.iconst 3, 1) := by decide +kernel
theorem d_b1_64 : decode method_3_code 64 = .ok (.newarray .char, 2) := by decide +kernel
theorem d_b1_66 : decode method_3_code 66 = .ok (.dup, 1) := by decide +kernel
theorem d_b1_67 : decode method_3_code 67 = .ok (.iconst 0, 1) := by decide +kernel
theorem d_b1_68 : decode method_3_code 68 = .ok (.iload_n 1, 1) := by decide +kernel
theorem d_b1_69 : decode method_3_code 69 = .ok (.castore, 1) := by decide +kernel
theorem d_b1_70 : decode method_3_code 70 = .ok (.dup, 1) := by decide +kernel
theorem d_b1_71 : decode method_3_code 71 = .ok (.iconst 1, 1) := by decide +kernel
theorem d_b1_72 : decode method_3_code 72 = .ok (.iload_n 2, 1) := by decide +kernel
theorem d_b1_73 : decode method_3_code 73 = .ok (.castore, 1) := by decide +kernel
theorem d_b1_74 : decode method_3_code 74 = .ok (.dup, 1) := by decide +kernel
theorem d_b1_75 : decode method_3_code 75 = .ok (.iconst 2, 1) := by decide +kernel
theorem d_b1_76 : decode method_3_code 76 = .ok (.iload_n 3, 1) := by decide +kernel
theorem d_b1_77 : decode method_3_code 77 = .ok (.castore, 1) := by decide +kernel
theorem d_b1_78 : decode method_3_code 78 = .ok (.invokespecial 17, 3) := by decide +kernel
theorem d_b1_81 : decode method_3_code 81 = .ok (.areturn, 1) := by decide +kernel
theorem d_b38_0 : decode method_2_code 0 = .ok (.iload_n 1, 1) := by decide +kernel
theorem d_b38_1 : decode method_2_code 1 = .ok (.ifCond .lt 24, 3) := by decide +kernel
theorem d_b38_4 : decode method_2_code 4 = .ok (.iload_n 1, 1) := by decide +kernel
theorem d_b38_5 : decode method_2_code 5 = .ok (.aload_n 0, 1) := by decide +kernel
theorem d_b38_6 : decode method_2_code 6 = .ok (.invokevirtual 7, 3) := by decide +kernel
theorem d_b38_9 : decode method_2_code 9 = .ok (.if_icmp .ge 16, 3) := by decide +kernel
theorem d_b38_12 : decode method_2_code 12 = .ok (.aload_n 0, 1) := by decide +kernel
theorem d_b38_13 : decode method_2_code 13 = .ok (.iload_n 1, 1) := by decide +kernel
theorem d_b38_14 : decode method_2_code 14 = .ok (.invokevirtual 13, 3) := by decide +kernel
theorem d_b38_17 : decode method_2_code 17 = .ok (.iload_n 2, 1) := by decide +kernel
theorem d_b38_18 : decode method_2_code 18 = .ok (.if_icmp .ne 7, 3) := by decide +kernel
theorem d_b38_21 : decode method_2_code 21 = .ok (.iconst 1, 1) := by decide +kernel
theorem d_b38_22 : decode method_2_code 22 = .ok (.goto 4, 3) := by decide +kernel
theorem d_b38_26 : decode method_2_code 26 = .ok (.ireturn, 1) := by decide +kernel
def isC (c : Int32) : Prop := 0 ≤ c.toInt ∧ c.toInt ≤ 255
theorem isC.le {c : Int32} (h : isC c) : ¬ (255 : Int32) < c := fun q => by rw [Int32.lt_iff_toInt_lt] at q; have := h.2; have e : (255 : Int32).toInt = 255 := rfl; omega
theorem isC.nat {c : Int32} (h : isC c) : c.toBitVec.toNat < 256 := by have := nat_of_int h.1; have := h.2; omega
theorem isC.nar {c : Int32} (h : isC c) : nar .char c = c := by
  have h2 := h.nat
  apply Int32.toBitVec_inj.mp
  apply BitVec.eq_of_toNat_eq
  show c.toUInt32.toUInt16.toUInt32.toNat = _
  rw [UInt16.toNat_toUInt32, UInt32.toNat_toUInt16]
  show c.toBitVec.toNat % 2 ^ 16 = _
  omega
theorem isC.back {c : Int32} (h : isC c) : c.toInt8.toInt32 &&& 255 = c := by
  apply Int32.toBitVec_inj.mp
  apply BitVec.eq_of_toNat_eq
  rw [lo8_and]; have := h.nat; omega
theorem lo8s_at {cs : List Int32} {i : Nat} {c : Int32} (hc : cs[i]? = some c) : (lo8s cs).getD i (.int 0) = .int c.toInt8.toInt32 := by simp [lo8s, List.getD_eq_getElem?_getD, hc]
theorem isC_and (x : Int32) : isC (x &&& 255) := and_rng x (by decide)

theorem lo8s_rep (n : Nat) : lo8s (List.replicate n 0) = List.replicate n (Value.int 0) := by simp [lo8s]
theorem lo8s_set0 (bs : List Int32) (i : Nat) (c : Int32) : (lo8s bs).set i (Value.int c.toInt8.toInt32) = lo8s (bs.set i c) := by simp [lo8s, List.map_set]
def put (bs cs : List Int32) (n : Nat) : List Int32 := bs.take n ++ cs ++ bs.drop (n + cs.length)
theorem put_len {bs cs : List Int32} {n : Nat} (h : n + cs.length ≤ bs.length) : (put bs cs n).length = bs.length := by simp [put]; omega
theorem put_take {bs cs : List Int32} {n : Nat} (h : n + cs.length ≤ bs.length) : (put bs cs n).take (n + cs.length) = bs.take n ++ cs := by
  unfold put
  rw [List.take_append_of_le_length (by simp; omega), List.take_of_length_le (by simp; omega)]
theorem lo8s_put (bs cs : List Int32) (n : Nat) : (lo8s bs).take n ++ lo8s cs ++ (lo8s bs).drop (n + cs.length) = lo8s (put bs cs n) := by simp [lo8s, put, List.map_take, List.map_drop]
theorem sub_le {m n : Nat} (h : m ≤ n) (hn : n < 2147483648) : ¬ 0 < Int32.ofNat m - Int32.ofNat n := by
  rw [Int32.lt_iff_toInt_lt, Int32.toInt_sub, ofN_int (by omega), ofN_int hn, Int.bmod_eq_of_le (by omega) (by omega)]
  show ¬ (0 : Int) < _
  omega
theorem range_all {vs : List Value} {n : Nat} {dv : Value} (h : vs.length = n) : vs = (List.range n).map fun i => vs.getD (0 + i) dv := by
  apply List.ext_getElem?
  intro i
  by_cases hi : i < n
  · simp [List.getElem?_range hi, List.getElem?_eq_getElem (l := vs) (i := i) (by omega)]
  · rw [List.getElem?_eq_none (by omega), List.getElem?_eq_none (by simp; omega)]

theorem arv_ne_exa {Z : State} {h : Heap} {a b : Addr} {k : ClassId} {ty : FieldType} {z : Int32} {vs : List Value} {dv : Value} {C : String} {n : Nat} {a0 : Array Value} (A : Arv Z h a k ty z vs dv) (E : Exa Z h b C) (wi : (Jvm.Cond.instantiable C n).before a0 Z = true) : a ≠ b := fun q => by
  subst q
  obtain ⟨c, A, -⟩ := A
  obtain ⟨c2, k2, e1, e2, e3, -⟩ := E
  cases A.1.symm.trans e1
  obtain ⟨t, kt, g1, g2, g3, -⟩ := Cond.instantiable_spec wi
  obtain ⟨-, kk, f1, comp, f2⟩ := A.2.1
  cases e2.symm.trans g1
  cases g2.symm.trans f1
  rw [g3] at f2; cases f2

set_option maxRecDepth 65536 in
set_option maxHeartbeats 4000000 in
theorem cmp5_loop {l : Launch} {Z : State} {a0 : Array Value} {n0 : Nat} (hB : Base Z a0) {b d : Addr} {kb kd : ClassId} (cs : List Int32) (hn : cs.length ≤ 4000) (hc : ∀ c ∈ cs, ¬ (255 : Int32) < c) (hne : b ≠ d) (h0 : Heap) :
    ∀ (j i : Nat) (h : Heap) (o6 : Slot), One o6 → i + j = cs.length → Keep h0 h [d] → Arv Z h b kb .char (Int32.ofNat cs.length) (cs.map Value.int) (.int 0) → Arv Z h d kd .byte (Int32.ofNat cs.length) (lo8s (cs.take i) ++ List.replicate j (Value.int 0)) (.int 0) →
      Go l Z a0 ELc n0 ({ frames := 0, cells := 0, slots := 0, locals := 0 } : Room) "java/lang/StringUTF16" jdk_52_method_21_code 7 (Option.some FieldType.int) "compress" (fun v h' sf' => v = some (.int (Int32.ofNat cs.length)) ∧ sf' = [] ∧ Keep h0 h' [d] ∧ Arv Z h' d kd .byte (Int32.ofNat cs.length) (lo8s cs) (.int 0)) h [d] 0 0 3 #[.val (.ref b), .val (.int (Int32.ofNat i)), .val (.ref d), .val (.int (Int32.ofNat i)), .val (.int (Int32.ofNat cs.length)), .val (.int (Int32.ofNat i)), o6] [] := by
  intro j
  induction j with
  | zero =>
    intro i h o6 ho hi K A B
    refine go_iload d_b6_3 rfl rfl ?_
    refine go_iload d_b6_5 rfl rfl ?_
    refine go_icmp_ge_t (pt := 44) d_b6_7 (by decide) (by decide) (ofN_nlt (by omega) (by omega)) ?_
    refine go_iload d_b6_44 rfl rfl ?_
    refine go_retI d_b6_46 [] rfl (by decide) (by decide) (fun _ q => nomatch q) ?_
    refine ⟨rfl, rfl, K, ?_⟩
    have e : i = cs.length := by omega
    subst e
    simpa using B
  | succ j ih =>
    intro i h o6 ho hi K A B
    obtain ⟨c, hci, hcm⟩ := at_of (cs := cs) (i := i) (by omega)
    refine go_iload d_b6_3 rfl rfl ?_
    refine go_iload d_b6_5 rfl rfl ?_
    refine go_icmp_ge_f d_b6_7 rfl (ofN_lt (by omega) (by omega)) ?_
    refine go_aloadN d_b6_10 rfl rfl rfl ?_
    refine go_iloadN d_b6_11 rfl rfl ?_
    refine go_caload (v := (.int c)) i d_b6_12 rfl A ⟨ofN_nneg (by omega), ofN_lt (by omega) (by omega)⟩ (ofN_cl (by omega)) (map_at hci) ?_
    refine go_istore d_b6_13 rfl #[.val (.ref b), .val (.int (Int32.ofNat i)), .val (.ref d), .val (.int (Int32.ofNat i)), .val (.int (Int32.ofNat cs.length)), .val (.int (Int32.ofNat i)), .val (.int c)] (XS.store1 rfl ho rfl) ?_
    refine go_iload d_b6_15 rfl rfl ?_
    refine go_sipush 255 d_b6_17 rfl (by decide) ?_
    refine go_icmp_le_t (pt := 26) d_b6_20 (by decide) (by decide) (hc c hcm) ?_
    refine go_aloadN d_b6_26 rfl rfl rfl ?_
    refine go_iloadN d_b6_27 rfl rfl ?_
    refine go_iload d_b6_28 rfl rfl ?_
    refine go_i2b d_b6_30 rfl ?_
    refine go_bastore i d_b6_31 rfl B ⟨ofN_nneg (by omega), ofN_lt (by omega) (by omega)⟩ (ofN_cl (by omega)) (by simp [lo8s_len]; omega) (List.Mem.head _) ?_
    intro h1 W2 B3
    have B4 : Arv Z h1 d kd .byte (Int32.ofNat cs.length) ((lo8s (cs.take i) ++ List.replicate (j + 1) (Value.int 0)).set i (Value.int c.toInt8.toInt32.toInt8.toInt32)) (.int 0) := B3
    refine go_iinc 1 d_b6_32 rfl #[.val (.ref b), .val (.int ((Int32.ofNat i) + 1)), .val (.ref d), .val (.int (Int32.ofNat i)), .val (.int (Int32.ofNat cs.length)), .val (.int (Int32.ofNat i)), .val (.int c)] (by decide) rfl rfl ?_
    refine go_iinc 1 d_b6_35 rfl #[.val (.ref b), .val (.int ((Int32.ofNat i) + 1)), .val (.ref d), .val (.int ((Int32.ofNat i) + 1)), .val (.int (Int32.ofNat cs.length)), .val (.int (Int32.ofNat i)), .val (.int c)] (by decide) rfl rfl ?_
    refine go_iinc 1 d_b6_38 rfl #[.val (.ref b), .val (.int ((Int32.ofNat i) + 1)), .val (.ref d), .val (.int ((Int32.ofNat i) + 1)), .val (.int (Int32.ofNat cs.length)), .val (.int ((Int32.ofNat i) + 1)), .val (.int c)] (by decide) rfl rfl ?_
    refine go_goto (pt := 3) d_b6_41 (by decide) (by decide) ?_
    rw [ofN_succ]
    have F5 := (Arv.other A W2 hne)
    have e8 : c.toInt8.toInt32.toInt8.toInt32 = c.toInt8.toInt32 := by simp
    rw [e8, lo8s_set hci hi] at B4
    exact ih (i + 1) _ _ (One.val rfl) (by omega) (K.wr W2 (Or.inl (List.Mem.head _))) F5 B4
set_option maxRecDepth 65536 in
set_option maxHeartbeats 4000000 in
theorem c_cmp5 {l : Launch} {Z : State} {a0 : Array Value} {n0 : Nat} (hB : Base Z a0) {b d : Addr} {kb kd : ClassId} (cs : List Int32) (hn : cs.length ≤ 4000) (hc : ∀ c ∈ cs, ¬ (255 : Int32) < c) (hne : b ≠ d) {h : Heap} (A : Arv Z h b kb .char (Int32.ofNat cs.length) (cs.map Value.int) (.int 0)) (B : Arv Z h d kd .byte (Int32.ofNat cs.length) (List.replicate cs.length (Value.int 0)) (.int 0)) :
    Con l Z ELc n0 (⟨"java/lang/StringUTF16", "compress", "([CI[BII)I"⟩ : MethodName) jdk_52_method_21_code 7 (Option.some FieldType.int) [] ({ frames := 0, cells := 0, slots := 0, locals := 0 } : Room) #[.ref b, .int 0, .ref d, .int 0, .int (Int32.ofNat cs.length)] h [d] (fun v h' sf' => v = some (.int (Int32.ofNat cs.length)) ∧ sf' = [] ∧ Keep h h' [d] ∧ Arv Z h' d kd .byte (Int32.ofNat cs.length) (lo8s cs) (.int 0)) := by
  refine con_of (a0 := a0) (ls := #[.val (.ref b), .val (.int 0), .val (.ref d), .val (.int 0), .val (.int (Int32.ofNat cs.length)), .unset, .unset]) (plainFor_of_name (by decide +kernel)) hB.2.1 (fun m => by first | (simp [entryFrame, mkF, argsToLocals, Value.category]; done) | (simp [entryFrame, mkF, argsToLocals, Value.category, maxLocals]; done) | rfl) ?_
  show Go l Z a0 ELc n0 ({ frames := 0, cells := 0, slots := 0, locals := 0 } : Room) "java/lang/StringUTF16" jdk_52_method_21_code 7 (Option.some FieldType.int) "compress" _ h [d] 0 0 0 #[.val (.ref b), .val (.int 0), .val (.ref d), .val (.int 0), .val (.int (Int32.ofNat cs.length)), .unset, .unset] []
  refine go_iconst 0 d_b6_0 rfl (by decide) ?_
  refine go_istore d_b6_1 rfl #[.val (.ref b), .val (.int 0), .val (.ref d), .val (.int 0), .val (.int (Int32.ofNat cs.length)), .val (.int 0), .unset] rfl ?_
  exact cmp5_loop hB cs hn hc hne h cs.length 0 h _ One.u (by omega) (Keep.refl _ _) A (by simpa [lo8s] using B)
set_option maxRecDepth 65536 in
set_option maxHeartbeats 4000000 in
theorem c_cod {l : Launch} {Z : State} {a0 : Array Value} {n0 : Nat} (hB : Base Z a0) {d : Addr} {kd : ClassId} {z : Int32} {vs : List Value} {h : Heap} (B : Arv Z h d kd .byte z vs (.int 0)) :
    Con l Z ELc n0 (⟨"java/lang/StringUTF16", "coderFromArrayLen", "([BI)B"⟩ : MethodName) jdk_52_method_15_code 2 (Option.some FieldType.byte) [] ({ frames := 0, cells := 0, slots := 0, locals := 0 } : Room) #[.ref d, .int z] h [] (fun v h' sf' => v = some (.int 0) ∧ sf' = [] ∧ h = h') := by
  refine con_of (a0 := a0) (ls := #[.val (.ref d), .val (.int z)]) (plainFor_of_name (by decide +kernel)) hB.2.1 (fun m => by first | (simp [entryFrame, mkF, argsToLocals, Value.category]; done) | (simp [entryFrame, mkF, argsToLocals, Value.category, maxLocals]; done) | rfl) ?_
  show Go l Z a0 ELc n0 ({ frames := 0, cells := 0, slots := 0, locals := 0 } : Room) "java/lang/StringUTF16" jdk_52_method_15_code 2 (Option.some FieldType.byte) "coderFromArrayLen" _ h [] 0 0 0 #[.val (.ref d), .val (.int z)] []
  refine go_iloadN d_b7_0 rfl rfl ?_
  refine go_aloadN d_b7_1 rfl rfl rfl ?_
  refine go_alen d_b7_2 rfl B ?_
  refine go_isub d_b7_3 rfl ?_
  refine go_bipush 31 d_b7_4 rfl (by decide) ?_
  refine go_iushr d_b7_6 rfl ?_
  refine go_i2b d_b7_7 rfl ?_
  refine go_retN (t := .byte) d_b7_8 [] rfl (by simp) (by decide) (by decide) (fun _ q => nomatch q) ?_
  refine ⟨?_, rfl, rfl⟩
  rw [Int32.sub_self]
  decide
set_option maxRecDepth 65536 in
set_option maxHeartbeats 4000000 in
theorem c_cmp3 {l : Launch} {Z : State} {a0 : Array Value} {n0 : Nat} (hB : Base Z a0) {b : Addr} {kb : ClassId} (cs : List Int32) (hn : cs.length ≤ 16) (hc : ∀ c ∈ cs, ¬ (255 : Int32) < c) {h : Heap} (A : Arv Z h b kb .char (Int32.ofNat cs.length) (cs.map Value.int) (.int 0)) :
    Con l Z ELc n0 (⟨"java/lang/StringUTF16", "compress", "([CII)[B"⟩ : MethodName) jdk_52_method_16_code 6 (Option.some (FieldType.array FieldType.byte)) [] ({ frames := 1, cells := 1, slots := 16, locals := 18 } : Room) #[.ref b, .int 0, .int (Int32.ofNat cs.length)] h [] (fun v h' sf' => ∃ d kd, v = some (.ref d) ∧ sf' = [] ∧ Ext h h' ∧ h.size ≤ d ∧ Arv Z h' d kd .byte (Int32.ofNat cs.length) (lo8s cs) (.int 0)) := by
  refine con_of (a0 := a0) (ls := #[.val (.ref b), .val (.int 0), .val (.int (Int32.ofNat cs.length)), .unset, .unset, .unset]) (plainFor_of_name (by decide +kernel)) hB.2.1 (fun m => by first | (simp [entryFrame, mkF, argsToLocals, Value.category]; done) | (simp [entryFrame, mkF, argsToLocals, Value.category, maxLocals]; done) | rfl) ?_
  show Go l Z a0 ELc n0 ({ frames := 1, cells := 1, slots := 16, locals := 18 } : Room) "java/lang/StringUTF16" jdk_52_method_16_code 6 (Option.some (FieldType.array FieldType.byte)) "compress" _ h [] 0 0 0 #[.val (.ref b), .val (.int 0), .val (.int (Int32.ofNat cs.length)), .unset, .unset, .unset] []
  refine go_iloadN d_b5_0 rfl rfl ?_
  refine go_newarr (ty := .byte) (ad := "[B") 16 d_b5_1 rfl rfl (wd hB 24 rfl) (ofN_nneg (by omega)) (by rw [ofN_cl (by omega)]; exact hn) (by decide) (by decide) (by decide) (by decide) ?_
  intro h6 x1 hx2 E3 ⟨A4, k5, B7⟩
  have B8 : Arv Z h6 x1 k5 .byte (Int32.ofNat cs.length) (List.replicate cs.length (Value.int 0)) (.int 0) := B7.pad (pad_rep [] (.int 0) cs.length)
  refine go_astoreN d_b5_3 rfl #[.val (.ref b), .val (.int 0), .val (.int (Int32.ofNat cs.length)), .val (.ref x1), .unset, .unset] rfl rfl ?_
  refine go_aloadN d_b5_4 rfl rfl rfl ?_
  refine go_iloadN d_b5_5 rfl rfl ?_
  refine go_aloadN d_b5_6 rfl rfl rfl ?_
  refine go_iconst 0 d_b5_7 rfl (by decide) ?_
  refine go_iloadN d_b5_8 rfl rfl ?_
  have F9 := (A.ext E3)
  refine go_static [(.ref b), (.int 0), (.ref x1), (.int 0), (.int (Int32.ofNat cs.length))] [] 0 d_b5_9 rfl (wd hB 25 rfl) (wd hB 26 rfl) (wd hB 22 rfl) (wd hB 27 rfl) (c_cmp5 hB cs (by omega) hc (Nat.ne_of_lt (Nat.lt_of_lt_of_le A.lt (Nat.le_of_eq hx2.symm))) F9 B8) (allS (List.Mem.head _) (fun _ q => nomatch q)) (lenOf pd_0 rfl) rfl rfl rfl (by decide) (by decide) (by decide) (by decide) (by decide) (fun v10 h11 s12 q13 => ?_)
  obtain ⟨rfl, rfl, K14, B15⟩ := q13
  show Go _ _ _ _ _ _ _ _ _ _ _ _ h11 [x1] 1 16 12 #[.val (.ref b), .val (.int 0), .val (.int (Int32.ofNat cs.length)), .val (.ref x1), .unset, .unset] [(.int (Int32.ofNat cs.length))]
  refine go_istore d_b5_12 rfl #[.val (.ref b), .val (.int 0), .val (.int (Int32.ofNat cs.length)), .val (.ref x1), .val (.int (Int32.ofNat cs.length)), .unset] rfl ?_
  refine go_iload d_b5_14 rfl rfl ?_
  refine go_iloadN d_b5_16 rfl rfl ?_
  refine go_icmp_eq_t (pt := 57) d_b5_17 (by decide) (by decide) rfl ?_
  refine go_aloadN d_b5_57 rfl rfl rfl ?_
  refine go_retA d_b5_58 [] rfl rfl rfl rfl (by decide) (by decide) (fun _ q => nomatch q) ?_
  exact ⟨_, _, rfl, rfl, (ext_of_keep (((Keep.refl h []).ext E3).trans K14 (allS (Or.inr (Nat.le_of_eq hx2.symm)) all0))), (Nat.le_of_eq hx2.symm), B15⟩
set_option maxRecDepth 65536 in
set_option maxHeartbeats 4000000 in
theorem c_sinit4 {l : Launch} {Z : State} {a0 : Array Value} {n0 : Nat} (hB : Base Z a0) {x b : Addr} {kb : ClassId} (cs : List Int32) (hp : 0 < cs.length) (hn : cs.length ≤ 16) (hc : ∀ c ∈ cs, ¬ (255 : Int32) < c) {h : Heap} (A : Arv Z h b kb .char (Int32.ofNat cs.length) (cs.map Value.int) (.int 0)) (E : Exa Z h x "java/lang/String") (F1 : Fld Z h x "java/lang/String" "value" "[B" .null) (F2 : Fld Z h x "java/lang/String" "coder" "B" (.int 0)) (hge : n0 ≤ x) :
    Con l Z ELc n0 (⟨"java/lang/String", "<init>", "([CIILjava/lang/Void;)V"⟩ : MethodName) jdk_42_method_149_code 6 (Option.none : Option FieldType) [] ({ frames := 2, cells := 1, slots := 16, locals := 37 } : Room) #[.ref x, .ref b, .int 0, .int (Int32.ofNat cs.length), .null] h [x] (fun v h' sf' => v = none ∧ sf' = [] ∧ Keep h h' [x] ∧ Exa Z h' x "java/lang/String" ∧ Fld Z h' x "java/lang/String" "coder" "B" (.int 0) ∧ ∃ d kd, h.size ≤ d ∧ Fld Z h' x "java/lang/String" "value" "[B" (.ref d) ∧ Arv Z h' d kd .byte (Int32.ofNat cs.length) (lo8s cs) (.int 0)) := by
  refine con_of (a0 := a0) (ls := #[.val (.ref x), .val (.ref b), .val (.int 0), .val (.int (Int32.ofNat cs.length)), .val .null, .unset]) (plainFor_of_name (by decide +kernel)) hB.2.1 (fun m => by first | (simp [entryFrame, mkF, argsToLocals, Value.category]; done) | (simp [entryFrame, mkF, argsToLocals, Value.category, maxLocals]; done) | rfl) ?_
  show Go l Z a0 ELc n0 ({ frames := 2, cells := 1, slots := 16, locals := 37 } : Room) "java/lang/String" jdk_42_method_149_code 6 (Option.none : Option FieldType) "<init>" _ h [x] 0 0 0 #[.val (.ref x), .val (.ref b), .val (.int 0), .val (.int (Int32.ofNat cs.length)), .val .null, .unset] []
  obtain ⟨cz, hS, hcz⟩ := hB.2.2.1
  refine go_aloadN d_b3_0 rfl rfl rfl ?_
  refine go_initO d_b3_1 rfl (wd hB 16 rfl) (wd hB 17 rfl) (wd hB 18 rfl) rfl (by decide) 0 rfl (by decide) ?_
  refine go_iloadN d_b3_4 rfl rfl ?_
  refine go_if_ne_t (pt := 27) d_b3_5 (by decide) (by decide) (ofN_pos hp (by omega)) ?_
  refine go_getstatic d_b3_27 rfl (wd hB 19 rfl) Via.refl hS ?_
  refine go_if_eq_f d_b3_30 rfl hcz ?_
  refine go_aloadN d_b3_33 rfl rfl rfl ?_
  refine go_iloadN d_b3_34 rfl rfl ?_
  refine go_iloadN d_b3_35 rfl rfl ?_
  refine go_static [(.ref b), (.int 0), (.int (Int32.ofNat cs.length))] [] 0 d_b3_36 rfl (wd hB 20 rfl) (wd hB 21 rfl) (wd hB 22 rfl) (wd hB 23 rfl) (c_cmp3 hB cs hn hc A) (fun _ q => nomatch q) (lenOf pd_1 rfl) rfl rfl rfl (by decide) (by decide) (by decide) (by decide) (by decide) (fun v1 h2 s3 q4 => ?_)
  obtain ⟨d5, k6, rfl, rfl, E7, g8, B9⟩ := q4
  show Go _ _ _ _ _ _ _ _ _ _ _ _ h2 [x] 1 16 39 #[.val (.ref x), .val (.ref b), .val (.int 0), .val (.int (Int32.ofNat cs.length)), .val .null, .unset] [(.ref d5)]
  refine go_astore d_b3_39 rfl #[.val (.ref x), .val (.ref b), .val (.int 0), .val (.int (Int32.ofNat cs.length)), .val .null, .val (.ref d5)] rfl rfl ?_
  refine go_aloadN d_b3_41 rfl rfl rfl ?_
  refine go_aload d_b3_42 rfl rfl rfl ?_
  refine go_iloadN d_b3_44 rfl rfl ?_
  refine go_static [(.ref d5), (.int (Int32.ofNat cs.length))] [(.ref x)] 1 d_b3_45 rfl (wd hB 28 rfl) (wd hB 29 rfl) (wd hB 22 rfl) (wd hB 30 rfl) (c_cod hB B9) (fun _ q => nomatch q) (lenOf pd_2 rfl) rfl rfl rfl (by decide) (by decide) (by decide) (by decide) (by decide) (fun v11 h12 s13 q14 => ?_)
  obtain ⟨rfl, rfl, rfl⟩ := q14
  show Go _ _ _ _ _ _ _ _ _ _ _ _ h2 [x] 1 16 48 #[.val (.ref x), .val (.ref b), .val (.int 0), .val (.int (Int32.ofNat cs.length)), .val .null, .val (.ref d5)] [(.int 0), (.ref x)]
  have F15 := (Fld.ext E7 F2)
  have F16 := (Exa.ext E7 E)
  refine go_putfield (ty := .byte) d_b3_48 rfl (wd hB 31 rfl) Via.refl F15 F16 (Or.inr ⟨(wd hB 32 rfl), rfl, rfl⟩) (wd hB 6 rfl) (by decide) (by decide) (by decide) (List.Mem.head _) ?_
  intro h17 W18
  have F19 := Fld.same W18 F15
  refine go_aloadN d_b3_51 rfl rfl rfl ?_
  refine go_aload d_b3_52 rfl rfl rfl ?_
  have F20 := (Fld.other W18 (Fld.ext E7 F1) (Or.inr (slot_ne (t := (.array .byte)) (t' := .byte) (Or.inr (wd hB 34 rfl) : Laid Z a0 "java/lang/String" "java/lang/String" "value" "[B") (Or.inr (wd hB 32 rfl) : Laid Z a0 "java/lang/String" "java/lang/String" "coder" "B") (by decide) (by decide) (by decide))))
  have F21 := (Exa.wr W18 F16)
  refine go_putfield (ty := (.array .byte)) d_b3_54 rfl (wd hB 33 rfl) Via.refl F20 F21 (Or.inr ⟨(wd hB 34 rfl), rfl, rfl⟩) (wd hB 6 rfl) (by decide) rfl rfl (List.Mem.head _) ?_
  intro h22 W23
  have F24 := Fld.same W23 F20
  have F25 := (Exa.wr W23 F21)
  have F26 := (Fld.other W23 F19 (Or.inr (slot_ne (t := .byte) (t' := (.array .byte)) (Or.inr (wd hB 32 rfl) : Laid Z a0 "java/lang/String" "java/lang/String" "coder" "B") (Or.inr (wd hB 34 rfl) : Laid Z a0 "java/lang/String" "java/lang/String" "value" "[B") (by decide) (by decide) (by decide))))
  have F27 := (Arv.other (Arv.other B9 W18 (Ne.symm (Nat.ne_of_lt (Nat.lt_of_lt_of_le E.lt g8)))) W23 (Ne.symm (Nat.ne_of_lt (Nat.lt_of_lt_of_le E.lt g8))))
  refine go_ret d_b3_57 [] rfl (by decide) (by decide) (fun _ q => nomatch q) ?_
  exact ⟨rfl, rfl, ((((Keep.refl h [x]).ext E7).wr W18 (Or.inl (List.Mem.head _))).wr W23 (Or.inl (List.Mem.head _))), F25, F26, _, _, g8, F24, F27⟩
set_option maxRecDepth 65536 in
set_option maxHeartbeats 4000000 in
theorem c_sinit4e {l : Launch} {Z : State} {a0 : Array Value} {n0 : Nat} (hB : Base Z a0) {x b : Addr} {h : Heap} (E : Exa Z h x "java/lang/String") (F1 : Fld Z h x "java/lang/String" "value" "[B" .null) (F2 : Fld Z h x "java/lang/String" "coder" "B" (.int 0)) :
    Con l Z ELc n0 (⟨"java/lang/String", "<init>", "([CIILjava/lang/Void;)V"⟩ : MethodName) jdk_42_method_149_code 6 (Option.none : Option FieldType) [] ({ frames := 1, cells := 4, slots := 8, locals := 12 } : Room) #[.ref x, .ref b, .int 0, .int 0, .null] h [x] (fun v h' sf' => v = none ∧ sf' = [] ∧ Keep h h' [x] ∧ Exa Z h' x "java/lang/String" ∧ Fld Z h' x "java/lang/String" "coder" "B" (.int 0) ∧ ∃ d kd, Fld Z h' x "java/lang/String" "value" "[B" (.ref d) ∧ Arv Z h' d kd .byte 0 [] (.int 0)) := by
  refine con_of (a0 := a0) (ls := #[.val (.ref x), .val (.ref b), .val (.int 0), .val (.int 0), .val .null, .unset]) (plainFor_of_name (by decide +kernel)) hB.2.1 (fun m => by first | (simp [entryFrame, mkF, argsToLocals, Value.category]; done) | (simp [entryFrame, mkF, argsToLocals, Value.category, maxLocals]; done) | rfl) ?_
  show Go l Z a0 ELc n0 ({ frames := 1, cells := 4, slots := 8, locals := 12 } : Room) "java/lang/String" jdk_42_method_149_code 6 (Option.none : Option FieldType) "<init>" _ h [x] 0 0 0 #[.val (.ref x), .val (.ref b), .val (.int 0), .val (.int 0), .val .null, .unset] []
  refine go_aloadN d_b3_0 rfl rfl rfl ?_
  refine go_initO d_b3_1 rfl (wd hB 16 rfl) (wd hB 17 rfl) (wd hB 18 rfl) rfl (by decide) 0 rfl (by decide) ?_
  refine go_iloadN d_b3_4 rfl rfl ?_
  refine go_if_ne_f d_b3_5 rfl (by decide) ?_
  refine go_aloadN d_b3_8 rfl rfl rfl ?_
  refine go_ldcT (text := "") 0 0 [] d_b3_9 rfl (wd hB 231 rfl) (stA hB) (by decide) ⟨by decide, by decide⟩ (by decide) (by decide) (by decide) (by decide) (by decide) (by decide) ?_
  intro h1 a2 b4 k5 E3 F6 F7 F8 F9 F10
  refine go_getfield d_b3_11 rfl (wd hB 33 rfl) Via.refl F8 ?_
  have F12 := (Fld.ext E3 F1)
  have F13 := (Exa.ext E3 E)
  refine go_putfield (ty := (.array .byte)) d_b3_14 rfl (wd hB 33 rfl) Via.refl F12 F13 (Or.inr ⟨(wd hB 34 rfl), rfl, rfl⟩) (wd hB 6 rfl) (by decide) rfl rfl (List.Mem.head _) ?_
  intro h14 W15
  have F16 := Fld.same W15 F12
  refine go_aloadN d_b3_17 rfl rfl rfl ?_
  refine go_ldcT (text := "") 0 0 [] d_b3_18 rfl (wd hB 231 rfl) (stA hB) (by decide) ⟨by decide, by decide⟩ (by decide) (by decide) (by decide) (by decide) (by decide) (by decide) ?_
  intro h17 a18 b20 k21 E19 F22 F23 F24 F25 F26
  refine go_getfield d_b3_20 rfl (wd hB 31 rfl) Via.refl F23 ?_
  have F28 := (Fld.ext E19 (Fld.other W15 (Fld.ext E3 F2) (Or.inr (slot_ne (t := .byte) (t' := (.array .byte)) (Or.inr (wd hB 32 rfl) : Laid Z a0 "java/lang/String" "java/lang/String" "coder" "B") (Or.inr (wd hB 34 rfl) : Laid Z a0 "java/lang/String" "java/lang/String" "value" "[B") (by decide) (by decide) (by decide)))))
  have F29 := (Exa.ext E19 (Exa.wr W15 F13))
  refine go_putfield (ty := .byte) d_b3_23 rfl (wd hB 31 rfl) Via.refl F28 F29 (Or.inr ⟨(wd hB 32 rfl), rfl, rfl⟩) (wd hB 6 rfl) (by decide) (by decide) (by decide) (List.Mem.head _) ?_
  intro h30 W31
  have F32 := Fld.same W31 F28
  have F33 := (Exa.wr W31 F29)
  have F34 := (Fld.other W31 (Fld.ext E19 F16) (Or.inr (slot_ne (t := (.array .byte)) (t' := .byte) (Or.inr (wd hB 34 rfl) : Laid Z a0 "java/lang/String" "java/lang/String" "value" "[B") (Or.inr (wd hB 32 rfl) : Laid Z a0 "java/lang/String" "java/lang/String" "coder" "B") (by decide) (by decide) (by decide))))
  have F35 := (Arv.other ((Arv.other F9 W15 (Ne.symm (F10 x (List.Mem.head _)).2)).ext E19) W31 (Ne.symm (F10 x (List.Mem.head _)).2))
  refine go_ret d_b3_26 [] rfl (by decide) (by decide) (fun _ q => nomatch q) ?_
  exact ⟨rfl, rfl, (((((Keep.refl h [x]).ext E3).wr W15 (Or.inl (List.Mem.head _))).ext E19).wr W31 (Or.inl (List.Mem.head _))), F33, F32, _, _, F34, F35⟩
set_option maxRecDepth 65536 in
set_option maxHeartbeats 4000000 in
theorem c_sinit {l : Launch} {Z : State} {a0 : Array Value} {n0 : Nat} (hB : Base Z a0) {x b : Addr} {kb : ClassId} (cs : List Int32) (hp : 0 < cs.length) (hn : cs.length ≤ 16) (hc : ∀ c ∈ cs, ¬ (255 : Int32) < c) {h : Heap} (A : Arv Z h b kb .char (Int32.ofNat cs.length) (cs.map Value.int) (.int 0)) (E : Exa Z h x "java/lang/String") (F1 : Fld Z h x "java/lang/String" "value" "[B" .null) (F2 : Fld Z h x "java/lang/String" "coder" "B" (.int 0)) (hge : n0 ≤ x) :
    Con l Z ELc n0 (⟨"java/lang/String", "<init>", "([C)V"⟩ : MethodName) jdk_42_method_3_code 2 (Option.none : Option FieldType) [] ({ frames := 3, cells := 1, slots := 16, locals := 54 } : Room) #[.ref x, .ref b] h [x] (fun v h' sf' => v = none ∧ sf' = [] ∧ Keep h h' [x] ∧ Exa Z h' x "java/lang/String" ∧ Fld Z h' x "java/lang/String" "coder" "B" (.int 0) ∧ ∃ d kd, h.size ≤ d ∧ Fld Z h' x "java/lang/String" "value" "[B" (.ref d) ∧ Arv Z h' d kd .byte (Int32.ofNat cs.length) (lo8s cs) (.int 0)) := by
  refine con_of (a0 := a0) (ls := #[.val (.ref x), .val (.ref b)]) (plainFor_of_name (by decide +kernel)) hB.2.1 (fun m => by first | (simp [entryFrame, mkF, argsToLocals, Value.category]; done) | (simp [entryFrame, mkF, argsToLocals, Value.category, maxLocals]; done) | rfl) ?_
  show Go l Z a0 ELc n0 ({ frames := 3, cells := 1, slots := 16, locals := 54 } : Room) "java/lang/String" jdk_42_method_3_code 2 (Option.none : Option FieldType) "<init>" _ h [x] 0 0 0 #[.val (.ref x), .val (.ref b)] []
  refine go_aloadN d_b2_0 rfl rfl rfl ?_
  refine go_aloadN d_b2_1 rfl rfl rfl ?_
  refine go_iconst 0 d_b2_2 rfl (by decide) ?_
  refine go_aloadN d_b2_3 rfl rfl rfl ?_
  refine go_alen d_b2_4 rfl A ?_
  refine go_aconstNull d_b2_5 rfl ?_
  refine go_special x [(.ref b), (.int 0), (.int (Int32.ofNat cs.length)), .null] [] 0 d_b2_6 rfl rfl (wd hB 12 rfl) (wd hB 13 rfl) (wd hB 7 rfl) (wd hB 15 rfl) (c_sinit4 hB cs hp hn hc A E F1 F2 hge) (allS (List.Mem.head _) (fun _ q => nomatch q)) (lenOf pd_3 rfl) rfl rfl rfl (by decide) (by decide) (by decide) (by decide) (by decide) (fun v1 h2 s3 q4 => ?_)
  obtain ⟨rfl, rfl, q1, q2, q3, q4⟩ := q4
  show Go _ _ _ _ _ _ _ _ _ _ _ _ h2 [x] 1 16 9 #[.val (.ref x), .val (.ref b)] []
  refine go_ret d_b2_9 [] rfl (by decide) (by decide) (fun _ q => nomatch q) ?_
  exact ⟨rfl, rfl, q1, q2, q3, q4⟩
set_option maxRecDepth 65536 in
set_option maxHeartbeats 4000000 in
theorem c_sinite {l : Launch} {Z : State} {a0 : Array Value} {n0 : Nat} (hB : Base Z a0) {x b : Addr} {kb : ClassId} {h : Heap} (A : Arv Z h b kb .char 0 [] (.int 0)) (E : Exa Z h x "java/lang/String") (F1 : Fld Z h x "java/lang/String" "value" "[B" .null) (F2 : Fld Z h x "java/lang/String" "coder" "B" (.int 0)) :
    Con l Z ELc n0 (⟨"java/lang/String", "<init>", "([C)V"⟩ : MethodName) jdk_42_method_3_code 2 (Option.none : Option FieldType) [] ({ frames := 2, cells := 4, slots := 8, locals := 29 } : Room) #[.ref x, .ref b] h [x] (fun v h' sf' => v = none ∧ sf' = [] ∧ Keep h h' [x] ∧ Exa Z h' x "java/lang/String" ∧ Fld Z h' x "java/lang/String" "coder" "B" (.int 0) ∧ ∃ d kd, Fld Z h' x "java/lang/String" "value" "[B" (.ref d) ∧ Arv Z h' d kd .byte 0 [] (.int 0)) := by
  refine con_of (a0 := a0) (ls := #[.val (.ref x), .val (.ref b)]) (plainFor_of_name (by decide +kernel)) hB.2.1 (fun m => by first | (simp [entryFrame, mkF, argsToLocals, Value.category]; done) | (simp [entryFrame, mkF, argsToLocals, Value.category, maxLocals]; done) | rfl) ?_
  show Go l Z a0 ELc n0 ({ frames := 2, cells := 4, slots := 8, locals := 29 } : Room) "java/lang/String" jdk_42_method_3_code 2 (Option.none : Option FieldType) "<init>" _ h [x] 0 0 0 #[.val (.ref x), .val (.ref b)] []
  refine go_aloadN d_b2_0 rfl rfl rfl ?_
  refine go_aloadN d_b2_1 rfl rfl rfl ?_
  refine go_iconst 0 d_b2_2 rfl (by decide) ?_
  refine go_aloadN d_b2_3 rfl rfl rfl ?_
  refine go_alen d_b2_4 rfl A ?_
  refine go_aconstNull d_b2_5 rfl ?_
  refine go_special x [(.ref b), (.int 0), (.int 0), .null] [] 0 d_b2_6 rfl rfl (wd hB 12 rfl) (wd hB 13 rfl) (wd hB 7 rfl) (wd hB 15 rfl) (c_sinit4e hB E F1 F2) (allS (List.Mem.head _) (fun _ q => nomatch q)) (lenOf pd_3 rfl) rfl rfl rfl (by decide) (by decide) (by decide) (by decide) (by decide) (fun v1 h2 s3 q4 => ?_)
  obtain ⟨rfl, rfl, q1, q2, q3, q4⟩ := q4
  show Go _ _ _ _ _ _ _ _ _ _ _ _ h2 [x] 4 8 9 #[.val (.ref x), .val (.ref b)] []
  refine go_ret d_b2_9 [] rfl (by decide) (by decide) (fun _ q => nomatch q) ?_
  exact ⟨rfl, rfl, q1, q2, q3, q4⟩
set_option maxRecDepth 65536 in
set_option maxHeartbeats 4000000 in
theorem c_coder {l : Launch} {Z : State} {a0 : Array Value} {n0 : Nat} (hB : Base Z a0) {s : Addr} {h : Heap} (C : Fld Z h s "java/lang/String" "coder" "B" (.int 0)) :
    Con l Z ELc n0 (⟨"java/lang/String", "coder", "()B"⟩ : MethodName) jdk_42_method_152_code 1 (Option.some FieldType.byte) [] ({ frames := 0, cells := 0, slots := 0, locals := 0 } : Room) #[.ref s] h [] (fun v h' sf' => v = some (.int 0) ∧ sf' = [] ∧ h = h') := by
  refine con_of (a0 := a0) (ls := #[.val (.ref s)]) (plainFor_of_name (by decide +kernel)) hB.2.1 (fun m => by first | (simp [entryFrame, mkF, argsToLocals, Value.category]; done) | (simp [entryFrame, mkF, argsToLocals, Value.category, maxLocals]; done) | rfl) ?_
  show Go l Z a0 ELc n0 ({ frames := 0, cells := 0, slots := 0, locals := 0 } : Room) "java/lang/String" jdk_42_method_152_code 1 (Option.some FieldType.byte) "coder" _ h [] 0 0 0 #[.val (.ref s)] []
  obtain ⟨cz, hS, hcz⟩ := hB.2.2.1
  refine go_getstatic d_b24_0 rfl (wd hB 19 rfl) Via.refl hS ?_
  refine go_if_eq_f d_b24_3 rfl hcz ?_
  refine go_aloadN d_b24_6 rfl rfl rfl ?_
  refine go_getfield d_b24_7 rfl (wd hB 31 rfl) Via.refl C ?_
  refine go_goto (pt := 14) d_b24_10 (by decide) (by decide) ?_
  refine go_retN (t := .byte) d_b24_14 [] rfl (by simp) (by decide) (by decide) (fun _ q => nomatch q) ?_
  exact ⟨by decide, rfl, rfl⟩
set_option maxRecDepth 65536 in
set_option maxHeartbeats 4000000 in
theorem c_len {l : Launch} {Z : State} {a0 : Array Value} {n0 : Nat} (hB : Base Z a0) {s d : Addr} {k : ClassId} (cs : List Int32) (hn : cs.length ≤ 4000) {h : Heap} (E : Exa Z h s "java/lang/String") (C : Fld Z h s "java/lang/String" "coder" "B" (.int 0)) (V : Fld Z h s "java/lang/String" "value" "[B" (.ref d)) (A : Arv Z h d k .byte (Int32.ofNat cs.length) (lo8s cs) (.int 0)) :
    Con l Z ELc n0 (⟨"java/lang/String", "length", "()I"⟩ : MethodName) jdk_42_method_54_code 1 (Option.some FieldType.int) [] ({ frames := 1, cells := 0, slots := 0, locals := 13 } : Room) #[.ref s] h [] (fun v h' sf' => v = some (.int (Int32.ofNat cs.length)) ∧ sf' = [] ∧ h = h') := by
  refine con_of (a0 := a0) (ls := #[.val (.ref s)]) (plainFor_of_name (by decide +kernel)) hB.2.1 (fun m => by first | (simp [entryFrame, mkF, argsToLocals, Value.category]; done) | (simp [entryFrame, mkF, argsToLocals, Value.category, maxLocals]; done) | rfl) ?_
  show Go l Z a0 ELc n0 ({ frames := 1, cells := 0, slots := 0, locals := 13 } : Room) "java/lang/String" jdk_42_method_54_code 1 (Option.some FieldType.int) "length" _ h [] 0 0 0 #[.val (.ref s)] []
  refine go_aloadN d_b23_0 rfl rfl rfl ?_
  refine go_getfield d_b23_1 rfl (wd hB 33 rfl) Via.refl V ?_
  refine go_alen d_b23_4 rfl A ?_
  refine go_aloadN d_b23_5 rfl rfl rfl ?_
  refine go_virtual s [] [(.int (Int32.ofNat cs.length))] 1 d_b23_6 rfl E (wd hB 139 rfl) (wd hB 140 rfl) (nf_of (wd hB 142 rfl)) (wd hB 142 rfl) (wd hB 141 rfl) (wd hB 7 rfl) (wd hB 143 rfl) (c_coder hB C) (fun _ q => nomatch q) (lenOf pd_4 rfl) rfl rfl rfl (by decide) (by decide) (by decide) (by decide) (by decide) (fun v101 h102 s103 q104 => ?_)
  obtain ⟨rfl, rfl, rfl⟩ := q104
  show Go _ _ _ _ _ _ _ _ _ _ _ _ h [] 0 0 9 #[.val (.ref s)] [(.int 0), (.int (Int32.ofNat cs.length))]
  refine go_ishr d_b23_9 rfl ?_
  refine go_retI d_b23_10 [] rfl (by decide) (by decide) (fun _ q => nomatch q) ?_
  rw [shr0]
  exact ⟨rfl, rfl, rfl⟩
set_option maxRecDepth 65536 in
set_option maxHeartbeats 4000000 in
theorem c_pci {l : Launch} {Z : State} {a0 : Array Value} {n0 : Nat} (hB : Base Z a0) (i n : Nat) (h1 : i < n) (h2 : n ≤ 4000) {fv : Value} (hfv : fv.isRef = true) {h : Heap} :
    Con l Z ELc n0 (⟨"jdk/internal/util/Preconditions", "checkIndex", "(IILjava/util/function/BiFunction;)I"⟩ : MethodName) jdk_41_method_11_code 3 (Option.some FieldType.int) [] ({ frames := 0, cells := 0, slots := 0, locals := 0 } : Room) #[.int (Int32.ofNat i), .int (Int32.ofNat n), fv] h [] (fun v h' sf' => v = some (.int (Int32.ofNat i)) ∧ sf' = [] ∧ h = h') := by
  refine con_of (a0 := a0) (ls := #[.val (.int (Int32.ofNat i)), .val (.int (Int32.ofNat n)), .val fv]) (plainFor_of_name (by decide +kernel)) hB.2.1 (fun m => by rcases ref_cases hfv with e | ⟨_, e⟩ <;> rw [e] <;> first | (simp [entryFrame, mkF, argsToLocals, Value.category]; done) | rfl) ?_
  show Go l Z a0 ELc n0 ({ frames := 0, cells := 0, slots := 0, locals := 0 } : Room) "jdk/internal/util/Preconditions" jdk_41_method_11_code 3 (Option.some FieldType.int) "checkIndex" _ h [] 0 0 0 #[.val (.int (Int32.ofNat i)), .val (.int (Int32.ofNat n)), .val fv] []
  refine go_iloadN d_b43_0 rfl rfl ?_
  refine go_if_lt_f d_b43_1 rfl (ofN_nneg (by omega)) ?_
  refine go_iloadN d_b43_4 rfl rfl ?_
  refine go_iloadN d_b43_5 rfl rfl ?_
  refine go_icmp_lt_t (pt := 16) d_b43_6 (by decide) (by decide) (ofN_lt (by omega) (by omega)) ?_
  refine go_iloadN d_b43_16 rfl rfl ?_
  refine go_retI d_b43_17 [] rfl (by decide) (by decide) (fun _ q => nomatch q) ?_
  exact ⟨rfl, rfl, rfl⟩
set_option maxRecDepth 65536 in
set_option maxHeartbeats 4000000 in
theorem c_ci {l : Launch} {Z : State} {a0 : Array Value} {n0 : Nat} (hB : Base Z a0) (i n : Nat) (h1 : i < n) (h2 : n ≤ 4000) {h : Heap} :
    Con l Z ELc n0 (⟨"java/lang/String", "checkIndex", "(II)V"⟩ : MethodName) jdk_42_method_155_code 2 (Option.none : Option FieldType) [] ({ frames := 1, cells := 0, slots := 0, locals := 14 } : Room) #[.int (Int32.ofNat i), .int (Int32.ofNat n)] h [] (fun v h' sf' => v = none ∧ sf' = [] ∧ h = h') := by
  refine con_of (a0 := a0) (ls := #[.val (.int (Int32.ofNat i)), .val (.int (Int32.ofNat n))]) (plainFor_of_name (by decide +kernel)) hB.2.1 (fun m => by first | (simp [entryFrame, mkF, argsToLocals, Value.category]; done) | (simp [entryFrame, mkF, argsToLocals, Value.category, maxLocals]; done) | rfl) ?_
  show Go l Z a0 ELc n0 ({ frames := 1, cells := 0, slots := 0, locals := 14 } : Room) "java/lang/String" jdk_42_method_155_code 2 (Option.none : Option FieldType) "checkIndex" _ h [] 0 0 0 #[.val (.int (Int32.ofNat i)), .val (.int (Int32.ofNat n))] []
  obtain ⟨fv, hFv, hfv⟩ := hB.2.2.2.1
  refine go_iloadN d_b42_0 rfl rfl ?_
  refine go_iloadN d_b42_1 rfl rfl ?_
  refine go_getstatic d_b42_2 rfl (wd hB 226 rfl) Via.refl hFv ?_
  refine go_static [(.int (Int32.ofNat i)), (.int (Int32.ofNat n)), fv] [] 0 d_b42_5 rfl (wd hB 228 rfl) (wd hB 229 rfl) (wd hB 227 rfl) (wd hB 230 rfl) (c_pci hB i n h1 h2 hfv) (fun _ q => nomatch q) (lenOf pd_5 rfl) rfl rfl rfl (by decide) (by decide) (by decide) (by decide) (by decide) (fun v1 h2 s3 q4 => ?_)
  obtain ⟨rfl, rfl, rfl⟩ := q4
  show Go _ _ _ _ _ _ _ _ _ _ _ _ h [] 0 0 8 #[.val (.int (Int32.ofNat i)), .val (.int (Int32.ofNat n))] [(.int (Int32.ofNat i))]
  refine go_pop d_b42_8 rfl rfl ?_
  refine go_ret d_b42_9 [] rfl (by decide) (by decide) (fun _ q => nomatch q) ?_
  exact ⟨rfl, rfl, rfl⟩
set_option maxRecDepth 65536 in
set_option maxHeartbeats 4000000 in
theorem c_l1ch {l : Launch} {Z : State} {a0 : Array Value} {n0 : Nat} (hB : Base Z a0) {d : Addr} {k : ClassId} (cs : List Int32) (hn : cs.length ≤ 4000) (i : Nat) (c : Int32) (hc : cs[i]? = some c) (hC : isC c) {h : Heap} (A : Arv Z h d k .byte (Int32.ofNat cs.length) (lo8s cs) (.int 0)) :
    Con l Z ELc n0 (⟨"java/lang/StringLatin1", "charAt", "([BI)C"⟩ : MethodName) jdk_43_method_2_code 2 (Option.some FieldType.char) [] ({ frames := 2, cells := 0, slots := 0, locals := 27 } : Room) #[.ref d, .int (Int32.ofNat i)] h [] (fun v h' sf' => v = some (.int c) ∧ sf' = [] ∧ h = h') := by
  refine con_of (a0 := a0) (ls := #[.val (.ref d), .val (.int (Int32.ofNat i))]) (plainFor_of_name (by decide +kernel)) hB.2.1 (fun m => by first | (simp [entryFrame, mkF, argsToLocals, Value.category]; done) | (simp [entryFrame, mkF, argsToLocals, Value.category, maxLocals]; done) | rfl) ?_
  show Go l Z a0 ELc n0 ({ frames := 2, cells := 0, slots := 0, locals := 27 } : Room) "java/lang/StringLatin1" jdk_43_method_2_code 2 (Option.some FieldType.char) "charAt" _ h [] 0 0 0 #[.val (.ref d), .val (.int (Int32.ofNat i))] []
  have hi : i < cs.length := (List.getElem?_eq_some_iff.mp hc).1
  refine go_iloadN d_b41_0 rfl rfl ?_
  refine go_aloadN d_b41_1 rfl rfl rfl ?_
  refine go_alen d_b41_2 rfl A ?_
  refine go_static [(.int (Int32.ofNat i)), (.int (Int32.ofNat cs.length))] [] 0 d_b41_3 rfl (wd hB 223 rfl) (wd hB 224 rfl) (wd hB 7 rfl) (wd hB 225 rfl) (c_ci hB i cs.length hi hn) (fun _ q => nomatch q) (lenOf pd_6 rfl) rfl rfl rfl (by decide) (by decide) (by decide) (by decide) (by decide) (fun v101 h102 s103 q104 => ?_)
  obtain ⟨rfl, rfl, rfl⟩ := q104
  show Go _ _ _ _ _ _ _ _ _ _ _ _ h [] 0 0 6 #[.val (.ref d), .val (.int (Int32.ofNat i))] []
  refine go_aloadN d_b41_6 rfl rfl rfl ?_
  refine go_iloadN d_b41_7 rfl rfl ?_
  refine go_baload (v := (.int c.toInt8.toInt32)) i d_b41_8 rfl A ⟨ofN_nneg (by omega), ofN_lt (by omega) (by omega)⟩ (ofN_cl (by omega)) (lo8s_at hc) ?_
  refine go_sipush 255 d_b41_9 rfl (by decide) ?_
  refine go_iand d_b41_12 rfl ?_
  refine go_i2c d_b41_13 rfl ?_
  refine go_retN (t := .char) d_b41_14 [] rfl (by simp) (by decide) (by decide) (fun _ q => nomatch q) ?_
  rw [hC.back]
  exact ⟨by rw [show c.toUInt32.toUInt16.toUInt32.toInt32 = c from hC.nar, hC.nar], rfl, rfl⟩
set_option maxRecDepth 65536 in
set_option maxHeartbeats 4000000 in
theorem c_isl {l : Launch} {Z : State} {a0 : Array Value} {n0 : Nat} (hB : Base Z a0) {s : Addr} {h : Heap} (C : Fld Z h s "java/lang/String" "coder" "B" (.int 0)) :
    Con l Z ELc n0 (⟨"java/lang/String", "isLatin1", "()Z"⟩ : MethodName) jdk_42_method_154_code 1 (Option.some FieldType.boolean) [] ({ frames := 0, cells := 0, slots := 0, locals := 0 } : Room) #[.ref s] h [] (fun v h' sf' => v = some (.int 1) ∧ sf' = [] ∧ h = h') := by
  refine con_of (a0 := a0) (ls := #[.val (.ref s)]) (plainFor_of_name (by decide +kernel)) hB.2.1 (fun m => by first | (simp [entryFrame, mkF, argsToLocals, Value.category]; done) | (simp [entryFrame, mkF, argsToLocals, Value.category, maxLocals]; done) | rfl) ?_
  show Go l Z a0 ELc n0 ({ frames := 0, cells := 0, slots := 0, locals := 0 } : Room) "java/lang/String" jdk_42_method_154_code 1 (Option.some FieldType.boolean) "isLatin1" _ h [] 0 0 0 #[.val (.ref s)] []
  obtain ⟨cz, hS, hcz⟩ := hB.2.2.1
  refine go_getstatic d_b40_0 rfl (wd hB 19 rfl) Via.refl hS ?_
  refine go_if_eq_f d_b40_3 rfl hcz ?_
  refine go_aloadN d_b40_6 rfl rfl rfl ?_
  refine go_getfield d_b40_7 rfl (wd hB 31 rfl) Via.refl C ?_
  refine go_if_ne_f d_b40_10 rfl (by decide) ?_
  refine go_iconst 1 d_b40_13 rfl (by decide) ?_
  refine go_goto (pt := 18) d_b40_14 (by decide) (by decide) ?_
  refine go_retN (t := .boolean) d_b40_18 [] rfl (by simp) (by decide) (by decide) (fun _ q => nomatch q) ?_
  exact ⟨by decide, rfl, rfl⟩
set_option maxRecDepth 65536 in
set_option maxHeartbeats 4000000 in
theorem c_char {l : Launch} {Z : State} {a0 : Array Value} {n0 : Nat} (hB : Base Z a0) {s d : Addr} {k : ClassId} (cs : List Int32) (hn : cs.length ≤ 4000) (i : Nat) (c : Int32) (hc : cs[i]? = some c) (hC : isC c) {h : Heap} (E : Exa Z h s "java/lang/String") (C : Fld Z h s "java/lang/String" "coder" "B" (.int 0)) (V : Fld Z h s "java/lang/String" "value" "[B" (.ref d)) (A : Arv Z h d k .byte (Int32.ofNat cs.length) (lo8s cs) (.int 0)) :
    Con l Z ELc n0 (⟨"java/lang/String", "charAt", "(I)C"⟩ : MethodName) jdk_42_method_56_code 2 (Option.some FieldType.char) [] ({ frames := 3, cells := 0, slots := 0, locals := 40 } : Room) #[.ref s, .int (Int32.ofNat i)] h [] (fun v h' sf' => v = some (.int c) ∧ sf' = [] ∧ h = h') := by
  refine con_of (a0 := a0) (ls := #[.val (.ref s), .val (.int (Int32.ofNat i))]) (plainFor_of_name (by decide +kernel)) hB.2.1 (fun m => by first | (simp [entryFrame, mkF, argsToLocals, Value.category]; done) | (simp [entryFrame, mkF, argsToLocals, Value.category, maxLocals]; done) | rfl) ?_
  show Go l Z a0 ELc n0 ({ frames := 3, cells := 0, slots := 0, locals := 40 } : Room) "java/lang/String" jdk_42_method_56_code 2 (Option.some FieldType.char) "charAt" _ h [] 0 0 0 #[.val (.ref s), .val (.int (Int32.ofNat i))] []
  refine go_aloadN d_b39_0 rfl rfl rfl ?_
  refine go_virtual s [] [] 0 d_b39_1 rfl E (wd hB 214 rfl) (wd hB 215 rfl) (nf_of (wd hB 217 rfl)) (wd hB 217 rfl) (wd hB 216 rfl) (wd hB 7 rfl) (wd hB 218 rfl) (c_isl hB C) (fun _ q => nomatch q) (lenOf pd_7 rfl) rfl rfl rfl (by decide) (by decide) (by decide) (by decide) (by decide) (fun v101 h102 s103 q104 => ?_)
  obtain ⟨rfl, rfl, rfl⟩ := q104
  show Go _ _ _ _ _ _ _ _ _ _ _ _ h [] 0 0 4 #[.val (.ref s), .val (.int (Int32.ofNat i))] [(.int 1)]
  refine go_if_eq_f d_b39_4 rfl (by decide) ?_
  refine go_aloadN d_b39_7 rfl rfl rfl ?_
  refine go_getfield d_b39_8 rfl (wd hB 33 rfl) Via.refl V ?_
  refine go_iloadN d_b39_11 rfl rfl ?_
  refine go_static [(.ref d), (.int (Int32.ofNat i))] [] 0 d_b39_12 rfl (wd hB 219 rfl) (wd hB 220 rfl) (wd hB 221 rfl) (wd hB 222 rfl) (c_l1ch hB cs hn i c hc hC A) (fun _ q => nomatch q) (lenOf pd_8 rfl) rfl rfl rfl (by decide) (by decide) (by decide) (by decide) (by decide) (fun v105 h106 s107 q108 => ?_)
  obtain ⟨rfl, rfl, rfl⟩ := q108
  show Go _ _ _ _ _ _ _ _ _ _ _ _ h [] 0 0 15 #[.val (.ref s), .val (.int (Int32.ofNat i))] [(.int c)]
  refine go_retN (t := .char) d_b39_15 [] rfl (by simp) (by decide) (by decide) (fun _ q => nomatch q) ?_
  exact ⟨by rw [hC.nar], rfl, rfl⟩
theorem range_lo8s {cs : List Int32} {b m : Nat} (h : b + m ≤ cs.length) : lo8s ((cs.drop b).take m) = (List.range m).map fun i => (lo8s cs).getD (b + i) (.int 0) := by
  apply List.ext_getElem?
  intro i
  simp only [lo8s, List.getElem?_map, List.getElem?_take, List.getElem?_drop, List.getElem?_range', List.getD_eq_getElem?_getD]
  by_cases hi : i < m
  · have hb : b + i < cs.length := by omega
    simp [hi, hb, List.getElem?_range hi]
  · simp [hi, List.getElem?_eq_none (l := List.range m) (i := i) (by simp; omega)]
theorem sub_len {cs : List Int32} {b m : Nat} (h : b + m ≤ cs.length) : ((cs.drop b).take m).length = m := by simp; omega

set_option maxRecDepth 65536 in
set_option maxHeartbeats 4000000 in
theorem c_cl {l : Launch} {Z : State} {a0 : Array Value} {n0 : Nat} (hB : Base Z a0) (b e : Nat) (h1 : b ≤ e) (h2 : e ≤ 4000) {h : Heap} :
    Con l Z ELc n0 (⟨"java/util/Arrays", "checkLength", "(II)V"⟩ : MethodName) jdk_65_method_131_code 2 (Option.none : Option FieldType) [] ({ frames := 0, cells := 0, slots := 0, locals := 0 } : Room) #[.int (Int32.ofNat b), .int (Int32.ofNat e)] h [] (fun v h' sf' => v = none ∧ sf' = [] ∧ h = h') := by
  refine con_of (a0 := a0) (ls := #[.val (.int (Int32.ofNat b)), .val (.int (Int32.ofNat e))]) (plainFor_of_name (by decide +kernel)) hB.2.1 (fun m => by first | (simp [entryFrame, mkF, argsToLocals, Value.category]; done) | (simp [entryFrame, mkF, argsToLocals, Value.category, maxLocals]; done) | rfl) ?_
  show Go l Z a0 ELc n0 ({ frames := 0, cells := 0, slots := 0, locals := 0 } : Room) "java/util/Arrays" jdk_65_method_131_code 2 (Option.none : Option FieldType) "checkLength" _ h [] 0 0 0 #[.val (.int (Int32.ofNat b)), .val (.int (Int32.ofNat e))] []
  refine go_iloadN d_b36_0 rfl rfl ?_
  refine go_iloadN d_b36_1 rfl rfl ?_
  refine go_icmp_ge_t (pt := 37) d_b36_2 (by decide) (by decide) (ofN_nlt (by omega) (by omega)) ?_
  refine go_ret d_b36_37 [] rfl (by decide) (by decide) (fun _ q => nomatch q) ?_
  exact ⟨rfl, rfl, rfl⟩
set_option maxRecDepth 65536 in
set_option maxHeartbeats 4000000 in
theorem c_min {l : Launch} {Z : State} {a0 : Array Value} {n0 : Nat} (hB : Base Z a0) (b e : Nat) (h1 : e ≤ b) (h2 : b ≤ 4000) {h : Heap} :
    Con l Z ELc n0 (⟨"java/lang/Math", "min", "(II)I"⟩ : MethodName) jdk_29_method_69_code 2 (Option.some FieldType.int) [] ({ frames := 0, cells := 0, slots := 0, locals := 0 } : Room) #[.int (Int32.ofNat b), .int (Int32.ofNat e)] h [] (fun v h' sf' => v = some (.int (Int32.ofNat e)) ∧ sf' = [] ∧ h = h') := by
  refine con_of (a0 := a0) (ls := #[.val (.int (Int32.ofNat b)), .val (.int (Int32.ofNat e))]) (by decide +kernel) hB.2.1 (fun m => rfl) ?_
  show Go l Z a0 ELc n0 ({ frames := 0, cells := 0, slots := 0, locals := 0 } : Room) "java/lang/Math" jdk_29_method_69_code 2 (Option.some FieldType.int) "min" _ h [] 0 0 0 #[.val (.int (Int32.ofNat b)), .val (.int (Int32.ofNat e))] []
  refine go_iloadN d_b37_0 rfl rfl ?_
  refine go_iloadN d_b37_1 rfl rfl ?_
  by_cases q : ((Int32.ofNat e) < (Int32.ofNat b) : Prop)
  · refine go_icmp_gt_t (pt := 9) d_b37_2 (by decide) (by decide) q ?_
    refine go_iloadN d_b37_9 rfl rfl ?_
    refine go_retI d_b37_10 [] rfl (by decide) (by decide) (fun _ q => nomatch q) ?_
    exact ⟨rfl, rfl, rfl⟩
  · refine go_icmp_gt_f d_b37_2 rfl q ?_
    refine go_iloadN d_b37_5 rfl rfl ?_
    refine go_goto (pt := 10) d_b37_6 (by decide) (by decide) ?_
    refine go_retI d_b37_10 [] rfl (by decide) (by decide) (fun _ q => nomatch q) ?_
    have e1 : b = e := by rw [Int32.lt_iff_toInt_lt, ofN_int (by omega), ofN_int (by omega)] at q; omega
    exact ⟨by rw [e1], rfl, rfl⟩
set_option maxRecDepth 65536 in
set_option maxHeartbeats 4000000 in
theorem c_corb {l : Launch} {Z : State} {a0 : Array Value} {n0 : Nat} (hB : Base Z a0) {d : Addr} {k : ClassId} (cs : List Int32) (hn : cs.length ≤ 4000) (b m : Nat) (hm : m ≤ 16) (hb : b + m ≤ cs.length) {h : Heap} (A : Arv Z h d k .byte (Int32.ofNat cs.length) (lo8s cs) (.int 0)) :
    Con l Z ELc n0 (⟨"java/util/Arrays", "copyOfRangeByte", "([BII)[B"⟩ : MethodName) jdk_65_method_133_code 5 (Option.some (FieldType.array FieldType.byte)) [] ({ frames := 1, cells := 1, slots := 16, locals := 44 } : Room) #[.ref d, .int (Int32.ofNat b), .int (Int32.ofNat (b + m))] h [] (fun v h' sf' => ∃ d' k', v = some (.ref d') ∧ sf' = [] ∧ Ext h h' ∧ h.size ≤ d' ∧ Arv Z h' d' k' .byte (Int32.ofNat ((cs.drop b).take m).length) (lo8s ((cs.drop b).take m)) (.int 0)) := by
  refine con_of (a0 := a0) (ls := #[.val (.ref d), .val (.int (Int32.ofNat b)), .val (.int (Int32.ofNat (b + m))), .unset, .unset]) (plainFor_of_name (by decide +kernel)) hB.2.1 (fun m => by first | (simp [entryFrame, mkF, argsToLocals, Value.category]; done) | (simp [entryFrame, mkF, argsToLocals, Value.category, maxLocals]; done) | rfl) ?_
  show Go l Z a0 ELc n0 ({ frames := 1, cells := 1, slots := 16, locals := 44 } : Room) "java/util/Arrays" jdk_65_method_133_code 5 (Option.some (FieldType.array FieldType.byte)) "copyOfRangeByte" _ h [] 0 0 0 #[.val (.ref d), .val (.int (Int32.ofNat b)), .val (.int (Int32.ofNat (b + m))), .unset, .unset] []
  refine go_iloadN d_b35_0 rfl rfl ?_
  refine go_iloadN d_b35_1 rfl rfl ?_
  refine go_static [(.int (Int32.ofNat b)), (.int (Int32.ofNat (b + m)))] [] 0 d_b35_2 rfl (wd hB 197 rfl) (wd hB 198 rfl) (wd hB 192 rfl) (wd hB 199 rfl) (c_cl hB b (b + m) (by omega) (by omega)) (fun _ q => nomatch q) (lenOf pd_6 rfl) rfl rfl rfl (by decide) (by decide) (by decide) (by decide) (by decide) (fun v101 h102 s103 q104 => ?_)
  obtain ⟨rfl, rfl, rfl⟩ := q104
  show Go _ _ _ _ _ _ _ _ _ _ _ _ h [] 0 0 5 #[.val (.ref d), .val (.int (Int32.ofNat b)), .val (.int (Int32.ofNat (b + m))), .unset, .unset] []
  refine go_iloadN d_b35_5 rfl rfl ?_
  refine go_iloadN d_b35_6 rfl rfl ?_
  refine go_isub d_b35_7 rfl ?_
  rw [ofN_sub (by omega) (by omega), Nat.add_sub_cancel_left]
  refine go_istoreN d_b35_8 rfl #[.val (.ref d), .val (.int (Int32.ofNat b)), .val (.int (Int32.ofNat (b + m))), .val (.int (Int32.ofNat m)), .unset] rfl ?_
  refine go_iloadN d_b35_9 rfl rfl ?_
  refine go_newarr (ty := .byte) (ad := "[B") 16 d_b35_10 rfl rfl (wd hB 24 rfl) (ofN_nneg (by omega)) (by rw [ofN_cl (by omega)]; exact hm) (by decide) (by decide) (by decide) (by decide) ?_
  intro h110 x105 hx106 E107 ⟨A108, k109, B111⟩
  have B112 : Arv Z h110 x105 k109 .byte (Int32.ofNat m) (List.replicate m (Value.int 0)) (.int 0) := B111.pad (pad_rep [] (.int 0) m)
  refine go_astore d_b35_12 rfl #[.val (.ref d), .val (.int (Int32.ofNat b)), .val (.int (Int32.ofNat (b + m))), .val (.int (Int32.ofNat m)), .val (.ref x105)] rfl rfl ?_
  refine go_aloadN d_b35_14 rfl rfl rfl ?_
  refine go_iloadN d_b35_15 rfl rfl ?_
  refine go_aload d_b35_16 rfl rfl rfl ?_
  refine go_iconst 0 d_b35_18 rfl (by decide) ?_
  refine go_aloadN d_b35_19 rfl rfl rfl ?_
  have F113 := (A.ext E107)
  refine go_alen d_b35_20 rfl F113 ?_
  refine go_iloadN d_b35_21 rfl rfl ?_
  refine go_isub d_b35_22 rfl ?_
  rw [ofN_sub (by omega) (by omega)]
  refine go_iloadN d_b35_23 rfl rfl ?_
  refine go_static [(.int (Int32.ofNat (cs.length - b))), (.int (Int32.ofNat m))] [(.int 0), (.ref x105), (.int (Int32.ofNat b)), (.ref d)] 4 d_b35_24 rfl (wd hB 200 rfl) (wd hB 201 rfl) (wd hB 202 rfl) (wd hB 203 rfl) (c_min hB (cs.length - b) m (by omega) (by omega)) (fun _ q => nomatch q) (lenOf pd_9 rfl) rfl rfl rfl (by decide) (by decide) (by decide) (by decide) (by decide) (fun v114 h115 s116 q117 => ?_)
  obtain ⟨rfl, rfl, rfl⟩ := q117
  show Go _ _ _ _ _ _ _ _ _ _ _ _ h110 [x105] 1 16 27 #[.val (.ref d), .val (.int (Int32.ofNat b)), .val (.int (Int32.ofNat (b + m))), .val (.int (Int32.ofNat m)), .val (.ref x105)] [(.int (Int32.ofNat m)), (.int 0), (.ref x105), (.int (Int32.ofNat b)), (.ref d)]
  refine go_acopy (us := (lo8s ((cs.drop b).take m))) d_b35_27 rfl (wd hB 204 rfl) (wd hB 163 rfl) (wd hB 161 rfl) (wd hB 162 rfl) F113 B112 rfl (ofN_nneg (by omega)) (by decide) (ofN_nneg (by omega)) (by rw [ofN_cl (i := b) (by omega), ofN_cl (i := m) (by omega), ofN_cl (i := cs.length) (by omega)]; exact hb) (by rw [ofN_cl (i := m) (by omega)]; exact Nat.le_of_eq (Nat.zero_add m)) (by rw [ofN_cl (i := m) (by omega), ofN_cl (i := b) (by omega)]; exact range_lo8s hb) (by rw [ofN_cl (i := m) (by omega), List.length_replicate]; exact Nat.le_of_eq (Nat.zero_add m)) (List.Mem.head _) rfl (by decide) 0 rfl (by decide) ?_
  intro h118 K119 B120
  have B120n : Arv Z h118 x105 k109 .byte (Int32.ofNat ((cs.drop b).take m).length) (lo8s ((cs.drop b).take m)) (.int 0) := by rw [sub_len hb]; simpa [ofN_cl (i := m) (by omega)] using B120
  refine go_aload d_b35_30 rfl rfl rfl ?_
  refine go_retA d_b35_32 [] rfl rfl rfl rfl (by decide) (by decide) (fun _ q => nomatch q) ?_
  exact ⟨_, _, rfl, rfl, (ext_of_keep (((Keep.refl h []).ext E107).trans K119 (allS (Or.inr (Nat.le_of_eq hx106.symm)) all0))), (Nat.le_of_eq hx106.symm), B120n⟩
set_option maxRecDepth 65536 in
set_option maxHeartbeats 4000000 in
theorem c_cor {l : Launch} {Z : State} {a0 : Array Value} {n0 : Nat} (hB : Base Z a0) {d : Addr} {k : ClassId} (cs : List Int32) (hn : cs.length ≤ 4000) (b m : Nat) (hm : m ≤ 16) (hb : b + m ≤ cs.length) (hf : ¬ (b = 0 ∧ m = cs.length)) {h : Heap} (A : Arv Z h d k .byte (Int32.ofNat cs.length) (lo8s cs) (.int 0)) :
    Con l Z ELc n0 (⟨"java/util/Arrays", "copyOfRange", "([BII)[B"⟩ : MethodName) jdk_65_method_132_code 3 (Option.some (FieldType.array FieldType.byte)) [] ({ frames := 2, cells := 1, slots := 16, locals := 60 } : Room) #[.ref d, .int (Int32.ofNat b), .int (Int32.ofNat (b + m))] h [] (fun v h' sf' => ∃ d' k', v = some (.ref d') ∧ sf' = [] ∧ Ext h h' ∧ h.size ≤ d' ∧ Arv Z h' d' k' .byte (Int32.ofNat ((cs.drop b).take m).length) (lo8s ((cs.drop b).take m)) (.int 0)) := by
  refine con_of (a0 := a0) (ls := #[.val (.ref d), .val (.int (Int32.ofNat b)), .val (.int (Int32.ofNat (b + m)))]) (plainFor_of_name (by decide +kernel)) hB.2.1 (fun m => by first | (simp [entryFrame, mkF, argsToLocals, Value.category]; done) | (simp [entryFrame, mkF, argsToLocals, Value.category, maxLocals]; done) | rfl) ?_
  show Go l Z a0 ELc n0 ({ frames := 2, cells := 1, slots := 16, locals := 60 } : Room) "java/util/Arrays" jdk_65_method_132_code 3 (Option.some (FieldType.array FieldType.byte)) "copyOfRange" _ h [] 0 0 0 #[.val (.ref d), .val (.int (Int32.ofNat b)), .val (.int (Int32.ofNat (b + m)))] []
  refine go_iloadN d_b34_0 rfl rfl ?_
  by_cases hb0 : ((Int32.ofNat b) = 0 : Prop)
  · refine go_if_ne_f d_b34_1 rfl hb0 ?_
    refine go_iloadN d_b34_4 rfl rfl ?_
    refine go_aloadN d_b34_5 rfl rfl rfl ?_
    refine go_alen d_b34_6 rfl A ?_
    refine go_icmp_eq_f d_b34_7 rfl (fun q => hf (by have b0 : b = 0 := (by have := ofN_int (i := b) (by omega); rw [hb0] at this; have e0 : (0 : Int32).toInt = 0 := rfl; omega); have q := congrArg Int32.toInt q; rw [ofN_int (by omega), ofN_int (by omega)] at q; omega)) ?_
    refine go_aloadN d_b34_10 rfl rfl rfl ?_
    refine go_iloadN d_b34_11 rfl rfl ?_
    refine go_iloadN d_b34_12 rfl rfl ?_
    refine go_static [(.ref d), (.int (Int32.ofNat b)), (.int (Int32.ofNat (b + m)))] [] 0 d_b34_13 rfl (wd hB 194 rfl) (wd hB 195 rfl) (wd hB 192 rfl) (wd hB 196 rfl) (c_corb hB cs hn b m hm hb A) (fun _ q => nomatch q) (lenOf pd_10 rfl) rfl rfl rfl (by decide) (by decide) (by decide) (by decide) (by decide) (fun v101 h102 s103 q104 => ?_)
    obtain ⟨d', k', rfl, rfl, q1, q2, q3⟩ := q104
    show Go _ _ _ _ _ _ _ _ _ _ _ _ h102 [] 1 16 16 #[.val (.ref d), .val (.int (Int32.ofNat b)), .val (.int (Int32.ofNat (b + m)))] [(.ref d')]
    refine go_retA d_b34_16 [] rfl rfl rfl rfl (by decide) (by decide) (fun _ q => nomatch q) ?_
    exact ⟨_, _, rfl, rfl, q1, q2, q3⟩
  · refine go_if_ne_t (pt := 10) d_b34_1 (by decide) (by decide) hb0 ?_
    refine go_aloadN d_b34_10 rfl rfl rfl ?_
    refine go_iloadN d_b34_11 rfl rfl ?_
    refine go_iloadN d_b34_12 rfl rfl ?_
    refine go_static [(.ref d), (.int (Int32.ofNat b)), (.int (Int32.ofNat (b + m)))] [] 0 d_b34_13 rfl (wd hB 194 rfl) (wd hB 195 rfl) (wd hB 192 rfl) (wd hB 196 rfl) (c_corb hB cs hn b m hm hb A) (fun _ q => nomatch q) (lenOf pd_10 rfl) rfl rfl rfl (by decide) (by decide) (by decide) (by decide) (by decide) (fun v105 h106 s107 q108 => ?_)
    obtain ⟨d', k', rfl, rfl, q1, q2, q3⟩ := q108
    show Go _ _ _ _ _ _ _ _ _ _ _ _ h106 [] 1 16 16 #[.val (.ref d), .val (.int (Int32.ofNat b)), .val (.int (Int32.ofNat (b + m)))] [(.ref d')]
    refine go_retA d_b34_16 [] rfl rfl rfl rfl (by decide) (by decide) (fun _ q => nomatch q) ?_
    exact ⟨_, _, rfl, rfl, q1, q2, q3⟩
set_option maxRecDepth 65536 in
set_option maxHeartbeats 4000000 in
theorem c_asbi {l : Launch} {Z : State} {a0 : Array Value} {n0 : Nat} (hB : Base Z a0) {x : Addr} {h : Heap} (X : Exa Z h x "java/lang/StringBuilder") (Xv : Fld Z h x "java/lang/AbstractStringBuilder" "value" "[B" .null) (Xc : Fld Z h x "java/lang/AbstractStringBuilder" "coder" "B" (.int 0)) (Xn : Fld Z h x "java/lang/AbstractStringBuilder" "count" "I" (.int 0)) :
    Con l Z ELc n0 (⟨"java/lang/AbstractStringBuilder", "<init>", "(I)V"⟩ : MethodName) jdk_68_method_2_code 2 (Option.none : Option FieldType) [] ({ frames := 1, cells := 1, slots := 16, locals := 12 } : Room) #[.ref x, .int 16] h [x] (fun v h' sf' => ∃ d k, v = none ∧ sf' = [d] ∧ Keep h h' [x] ∧ h.size ≤ d ∧ Exa Z h' x "java/lang/StringBuilder" ∧ Fld Z h' x "java/lang/AbstractStringBuilder" "value" "[B" (.ref d) ∧ Fld Z h' x "java/lang/AbstractStringBuilder" "coder" "B" (.int 0) ∧ Fld Z h' x "java/lang/AbstractStringBuilder" "count" "I" (.int (Int32.ofNat 0)) ∧ Arv Z h' d k .byte (Int32.ofNat (List.replicate 16 (0 : Int32)).length) (lo8s (List.replicate 16 (0 : Int32))) (.int 0)) := by
  refine con_of (a0 := a0) (ls := #[.val (.ref x), .val (.int 16)]) (plainFor_of_name (by decide +kernel)) hB.2.1 (fun m => by first | (simp [entryFrame, mkF, argsToLocals, Value.category]; done) | (simp [entryFrame, mkF, argsToLocals, Value.category, maxLocals]; done) | rfl) ?_
  show Go l Z a0 ELc n0 ({ frames := 1, cells := 1, slots := 16, locals := 12 } : Room) "java/lang/AbstractStringBuilder" jdk_68_method_2_code 2 (Option.none : Option FieldType) "<init>" _ h [x] 0 0 0 #[.val (.ref x), .val (.int 16)] []
  obtain ⟨cz, hS, hcz⟩ := hB.2.2.1
  refine go_aloadN d_b14_0 rfl rfl rfl ?_
  refine go_initO d_b14_1 rfl (wd hB 86 rfl) (wd hB 17 rfl) (wd hB 18 rfl) rfl (by decide) 0 rfl (by decide) ?_
  refine go_getstatic d_b14_4 rfl (wd hB 87 rfl) Via.refl hS ?_
  refine go_if_eq_f d_b14_7 rfl hcz ?_
  refine go_aloadN d_b14_10 rfl rfl rfl ?_
  refine go_iloadN d_b14_11 rfl rfl ?_
  refine go_newarr (ty := .byte) (ad := "[B") 16 d_b14_12 rfl rfl (wd hB 24 rfl) (by decide) (by decide) (by decide) (by decide) (by decide) (by decide) ?_
  intro h106 x101 hx102 E103 ⟨A104, k105, B107⟩
  have B108 : Arv Z h106 x101 k105 .byte 16 (List.replicate 16 (Value.int 0)) (.int 0) := B107.pad (pad_rep [] (.int 0) 16)
  have F109 := (Fld.ext E103 Xv)
  have F110 := (Exa.ext E103 X)
  refine go_putfield (ty := (.array .byte)) d_b14_14 rfl (wd hB 88 rfl) Via.refl F109 F110 (Or.inl (wd hB 89 rfl)) (wd hB 75 rfl) (by decide) rfl rfl (List.Mem.tail _ (List.Mem.head _)) ?_
  intro h111 W112
  have F113 := Fld.same W112 F109
  refine go_aloadN d_b14_17 rfl rfl rfl ?_
  refine go_iconst 0 d_b14_18 rfl (by decide) ?_
  have F114 := (Fld.other W112 (Fld.ext E103 Xc) (Or.inr (slot_ne (t := .byte) (t' := (.array .byte)) (Or.inl (wd hB 91 rfl) : Laid Z a0 "java/lang/StringBuilder" "java/lang/AbstractStringBuilder" "coder" "B") (Or.inl (wd hB 89 rfl) : Laid Z a0 "java/lang/StringBuilder" "java/lang/AbstractStringBuilder" "value" "[B") (by decide) (by decide) (by decide))))
  have F115 := (Exa.wr W112 F110)
  refine go_putfield (ty := .byte) d_b14_19 rfl (wd hB 90 rfl) Via.refl F114 F115 (Or.inl (wd hB 91 rfl)) (wd hB 75 rfl) (by decide) (by decide) (by decide) (List.Mem.tail _ (List.Mem.head _)) ?_
  intro h116 W117
  have F118 := Fld.same W117 F114
  refine go_goto (pt := 38) d_b14_22 (by decide) (by decide) ?_
  have F119 := (Exa.wr W117 F115)
  have F120 := (Fld.other W117 F113 (Or.inr (slot_ne (t := (.array .byte)) (t' := .byte) (Or.inl (wd hB 89 rfl) : Laid Z a0 "java/lang/StringBuilder" "java/lang/AbstractStringBuilder" "value" "[B") (Or.inl (wd hB 91 rfl) : Laid Z a0 "java/lang/StringBuilder" "java/lang/AbstractStringBuilder" "coder" "B") (by decide) (by decide) (by decide))))
  have F121 := (Fld.other W117 (Fld.other W112 (Fld.ext E103 Xn) (Or.inr (slot_ne (t := .int) (t' := (.array .byte)) (Or.inl (wd hB 103 rfl) : Laid Z a0 "java/lang/StringBuilder" "java/lang/AbstractStringBuilder" "count" "I") (Or.inl (wd hB 89 rfl) : Laid Z a0 "java/lang/StringBuilder" "java/lang/AbstractStringBuilder" "value" "[B") (by decide) (by decide) (by decide)))) (Or.inr (slot_ne (t := .int) (t' := .byte) (Or.inl (wd hB 103 rfl) : Laid Z a0 "java/lang/StringBuilder" "java/lang/AbstractStringBuilder" "count" "I") (Or.inl (wd hB 91 rfl) : Laid Z a0 "java/lang/StringBuilder" "java/lang/AbstractStringBuilder" "coder" "B") (by decide) (by decide) (by decide))))
  have F122 := (Arv.other (Arv.other B108 W112 (Ne.symm (Nat.ne_of_lt (Nat.lt_of_lt_of_le X.lt (Nat.le_of_eq hx102.symm))))) W117 (Ne.symm (Nat.ne_of_lt (Nat.lt_of_lt_of_le X.lt (Nat.le_of_eq hx102.symm)))))
  refine go_ret d_b14_38 [x101] rfl (by decide) (by decide) (allS (List.Mem.head _) (fun _ q => nomatch q)) ?_
  refine ⟨x101, k105, rfl, rfl, ((((Keep.refl h [x]).ext E103).wr W112 (Or.inl (List.Mem.head _))).wr W117 (Or.inl (List.Mem.head _))), (Nat.le_of_eq hx102.symm), F119, F120, F118, F121, ?_⟩
  rw [lo8s_rep]
  exact F122
set_option maxRecDepth 65536 in
set_option maxHeartbeats 4000000 in
theorem c_sbi {l : Launch} {Z : State} {a0 : Array Value} {n0 : Nat} (hB : Base Z a0) {x : Addr} {h : Heap} (X : Exa Z h x "java/lang/StringBuilder") (Xv : Fld Z h x "java/lang/AbstractStringBuilder" "value" "[B" .null) (Xc : Fld Z h x "java/lang/AbstractStringBuilder" "coder" "B" (.int 0)) (Xn : Fld Z h x "java/lang/AbstractStringBuilder" "count" "I" (.int 0)) :
    Con l Z ELc n0 (⟨"java/lang/StringBuilder", "<init>", "()V"⟩ : MethodName) jdk_67_method_1_code 1 (Option.none : Option FieldType) [] ({ frames := 2, cells := 1, slots := 16, locals := 25 } : Room) #[.ref x] h [x] (fun v h' sf' => ∃ d k, v = none ∧ sf' = [d] ∧ Keep h h' [x] ∧ h.size ≤ d ∧ Exa Z h' x "java/lang/StringBuilder" ∧ Fld Z h' x "java/lang/AbstractStringBuilder" "value" "[B" (.ref d) ∧ Fld Z h' x "java/lang/AbstractStringBuilder" "coder" "B" (.int 0) ∧ Fld Z h' x "java/lang/AbstractStringBuilder" "count" "I" (.int (Int32.ofNat 0)) ∧ Arv Z h' d k .byte (Int32.ofNat (List.replicate 16 (0 : Int32)).length) (lo8s (List.replicate 16 (0 : Int32))) (.int 0)) := by
  refine con_of (a0 := a0) (ls := #[.val (.ref x)]) (plainFor_of_name (by decide +kernel)) hB.2.1 (fun m => by first | (simp [entryFrame, mkF, argsToLocals, Value.category]; done) | (simp [entryFrame, mkF, argsToLocals, Value.category, maxLocals]; done) | rfl) ?_
  show Go l Z a0 ELc n0 ({ frames := 2, cells := 1, slots := 16, locals := 25 } : Room) "java/lang/StringBuilder" jdk_67_method_1_code 1 (Option.none : Option FieldType) "<init>" _ h [x] 0 0 0 #[.val (.ref x)] []
  refine go_aloadN d_b13_0 rfl rfl rfl ?_
  refine go_bipush 16 d_b13_1 rfl (by decide) ?_
  refine go_special x [(.int 16)] [] 0 d_b13_3 rfl rfl (wd hB 80 rfl) (wd hB 81 rfl) (wd hB 84 rfl) (wd hB 85 rfl) (c_asbi hB X Xv Xc Xn) (allS (List.Mem.head _) (fun _ q => nomatch q)) (lenOf pd_11 rfl) rfl rfl rfl (by decide) (by decide) (by decide) (by decide) (by decide) (fun v101 h102 s103 q104 => ?_)
  obtain ⟨d, k, rfl, rfl, q1, q2⟩ := q104
  show Go _ _ _ _ _ _ _ _ _ _ _ _ h102 [d, x] 1 16 6 #[.val (.ref x)] []
  refine go_ret d_b13_6 [d] rfl (by decide) (by decide) (allS (List.Mem.head _) (fun _ q => nomatch q)) ?_
  exact ⟨d, k, rfl, rfl, q1, q2⟩
set_option maxRecDepth 65536 in
set_option maxHeartbeats 4000000 in
theorem c_eci {l : Launch} {Z : State} {a0 : Array Value} {n0 : Nat} (hB : Base Z a0) {x d : Addr} {k : ClassId} (bs : List Int32) (hb : bs.length = 16) (n m : Nat) (hm : m ≤ 16) {h : Heap} (X : Exa Z h x "java/lang/StringBuilder") (Xv : Fld Z h x "java/lang/AbstractStringBuilder" "value" "[B" (.ref d)) (Xc : Fld Z h x "java/lang/AbstractStringBuilder" "coder" "B" (.int 0)) (Xn : Fld Z h x "java/lang/AbstractStringBuilder" "count" "I" (.int (Int32.ofNat n))) (Xa : Arv Z h d k .byte (Int32.ofNat bs.length) (lo8s bs) (.int 0)) :
    Con l Z ELc n0 (⟨"java/lang/AbstractStringBuilder", "ensureCapacityInternal", "(I)V"⟩ : MethodName) jdk_68_method_9_code 3 (Option.none : Option FieldType) [] ({ frames := 0, cells := 0, slots := 0, locals := 0 } : Room) #[.ref x, .int (Int32.ofNat m)] h [] (fun v h' sf' => v = none ∧ sf' = [] ∧ h = h') := by
  refine con_of (a0 := a0) (ls := #[.val (.ref x), .val (.int (Int32.ofNat m)), .unset]) (plainFor_of_name (by decide +kernel)) hB.2.1 (fun m => by first | (simp [entryFrame, mkF, argsToLocals, Value.category]; done) | (simp [entryFrame, mkF, argsToLocals, Value.category, maxLocals]; done) | rfl) ?_
  show Go l Z a0 ELc n0 ({ frames := 0, cells := 0, slots := 0, locals := 0 } : Room) "java/lang/AbstractStringBuilder" jdk_68_method_9_code 3 (Option.none : Option FieldType) "ensureCapacityInternal" _ h [] 0 0 0 #[.val (.ref x), .val (.int (Int32.ofNat m)), .unset] []
  refine go_aloadN d_b18_0 rfl rfl rfl ?_
  refine go_getfield d_b18_1 rfl (wd hB 88 rfl) Via.refl Xv ?_
  refine go_alen d_b18_4 rfl Xa ?_
  refine go_aloadN d_b18_5 rfl rfl rfl ?_
  refine go_getfield d_b18_6 rfl (wd hB 90 rfl) Via.refl Xc ?_
  refine go_ishr d_b18_9 rfl ?_
  rw [shr0]
  refine go_istoreN d_b18_10 rfl #[.val (.ref x), .val (.int (Int32.ofNat m)), .val (.int (Int32.ofNat bs.length))] rfl ?_
  refine go_iloadN d_b18_11 rfl rfl ?_
  refine go_iloadN d_b18_12 rfl rfl ?_
  refine go_isub d_b18_13 rfl ?_
  refine go_if_le_t (pt := 38) d_b18_14 (by decide) (by decide) (sub_le (by omega) (by omega)) ?_
  refine go_ret d_b18_38 [] rfl (by decide) (by decide) (fun _ q => nomatch q) ?_
  exact ⟨rfl, rfl, rfl⟩
set_option maxRecDepth 65536 in
set_option maxHeartbeats 4000000 in
theorem c_asbl {l : Launch} {Z : State} {a0 : Array Value} {n0 : Nat} (hB : Base Z a0) {x : Addr} {h : Heap} (Xc : Fld Z h x "java/lang/AbstractStringBuilder" "coder" "B" (.int 0)) :
    Con l Z ELc n0 (⟨"java/lang/AbstractStringBuilder", "isLatin1", "()Z"⟩ : MethodName) jdk_68_method_68_code 1 (Option.some FieldType.boolean) [] ({ frames := 0, cells := 0, slots := 0, locals := 0 } : Room) #[.ref x] h [] (fun v h' sf' => v = some (.int 1) ∧ sf' = [] ∧ h = h') := by
  refine con_of (a0 := a0) (ls := #[.val (.ref x)]) (plainFor_of_name (by decide +kernel)) hB.2.1 (fun m => by first | (simp [entryFrame, mkF, argsToLocals, Value.category]; done) | (simp [entryFrame, mkF, argsToLocals, Value.category, maxLocals]; done) | rfl) ?_
  show Go l Z a0 ELc n0 ({ frames := 0, cells := 0, slots := 0, locals := 0 } : Room) "java/lang/AbstractStringBuilder" jdk_68_method_68_code 1 (Option.some FieldType.boolean) "isLatin1" _ h [] 0 0 0 #[.val (.ref x)] []
  obtain ⟨cz, hS, hcz⟩ := hB.2.2.1
  refine go_getstatic d_b19_0 rfl (wd hB 87 rfl) Via.refl hS ?_
  refine go_if_eq_f d_b19_3 rfl hcz ?_
  refine go_aloadN d_b19_6 rfl rfl rfl ?_
  refine go_getfield d_b19_7 rfl (wd hB 90 rfl) Via.refl Xc ?_
  refine go_if_ne_f d_b19_10 rfl (by decide) ?_
  refine go_iconst 1 d_b19_13 rfl (by decide) ?_
  refine go_goto (pt := 18) d_b19_14 (by decide) (by decide) ?_
  refine go_retN (t := .boolean) d_b19_18 [] rfl (by simp) (by decide) (by decide) (fun _ q => nomatch q) ?_
  exact ⟨by decide, rfl, rfl⟩
set_option maxRecDepth 65536 in
set_option maxHeartbeats 4000000 in
theorem c_inf {l : Launch} {Z : State} {a0 : Array Value} {n0 : Nat} (hB : Base Z a0) {x s : Addr} {h : Heap} (Xc : Fld Z h x "java/lang/AbstractStringBuilder" "coder" "B" (.int 0)) (E : Exa Z h s "java/lang/String") (C : Fld Z h s "java/lang/String" "coder" "B" (.int 0)) :
    Con l Z ELc n0 (⟨"java/lang/AbstractStringBuilder", "inflateIfNeededFor", "(Ljava/lang/String;)V"⟩ : MethodName) jdk_68_method_71_code 2 (Option.none : Option FieldType) [] ({ frames := 1, cells := 0, slots := 0, locals := 14 } : Room) #[.ref x, .ref s] h [] (fun v h' sf' => v = none ∧ sf' = [] ∧ h = h') := by
  refine con_of (a0 := a0) (ls := #[.val (.ref x), .val (.ref s)]) (plainFor_of_name (by decide +kernel)) hB.2.1 (fun m => by first | (simp [entryFrame, mkF, argsToLocals, Value.category]; done) | (simp [entryFrame, mkF, argsToLocals, Value.category, maxLocals]; done) | rfl) ?_
  show Go l Z a0 ELc n0 ({ frames := 1, cells := 0, slots := 0, locals := 14 } : Room) "java/lang/AbstractStringBuilder" jdk_68_method_71_code 2 (Option.none : Option FieldType) "inflateIfNeededFor" _ h [] 0 0 0 #[.val (.ref x), .val (.ref s)] []
  obtain ⟨cz, hS, hcz⟩ := hB.2.2.1
  refine go_getstatic d_b26_0 rfl (wd hB 87 rfl) Via.refl hS ?_
  refine go_if_eq_f d_b26_3 rfl hcz ?_
  refine go_aloadN d_b26_6 rfl rfl rfl ?_
  refine go_getfield d_b26_7 rfl (wd hB 90 rfl) Via.refl Xc ?_
  refine go_aloadN d_b26_10 rfl rfl rfl ?_
  refine go_virtual s [] [(.int 0)] 1 d_b26_11 rfl E (wd hB 154 rfl) (wd hB 140 rfl) (nf_of (wd hB 142 rfl)) (wd hB 142 rfl) (wd hB 141 rfl) (wd hB 7 rfl) (wd hB 143 rfl) (c_coder hB C) (fun _ q => nomatch q) (lenOf pd_4 rfl) rfl rfl rfl (by decide) (by decide) (by decide) (by decide) (by decide) (fun v101 h102 s103 q104 => ?_)
  obtain ⟨rfl, rfl, rfl⟩ := q104
  show Go _ _ _ _ _ _ _ _ _ _ _ _ h [] 0 0 14 #[.val (.ref x), .val (.ref s)] [(.int 0), (.int 0)]
  refine go_icmp_eq_t (pt := 21) d_b26_14 (by decide) (by decide) (by decide) ?_
  refine go_ret d_b26_21 [] rfl (by decide) (by decide) (fun _ q => nomatch q) ?_
  exact ⟨rfl, rfl, rfl⟩
set_option maxRecDepth 65536 in
set_option maxHeartbeats 4000000 in
theorem c_gb {l : Launch} {Z : State} {a0 : Array Value} {n0 : Nat} (hB : Base Z a0) {d : Addr} {k : ClassId} (bs : List Int32) (hb : bs.length = 16) (n : Nat) {s ds : Addr} {ks : ClassId} (cs : List Int32) (hm : n + cs.length ≤ 16) {h : Heap} (E : Exa Z h s "java/lang/String") (C : Fld Z h s "java/lang/String" "coder" "B" (.int 0)) (V : Fld Z h s "java/lang/String" "value" "[B" (.ref ds)) (A : Arv Z h ds ks .byte (Int32.ofNat cs.length) (lo8s cs) (.int 0)) (Xa : Arv Z h d k .byte (Int32.ofNat bs.length) (lo8s bs) (.int 0)) :
    Con l Z ELc n0 (⟨"java/lang/String", "getBytes", "([BIB)V"⟩ : MethodName) jdk_42_method_147_code 4 (Option.none : Option FieldType) [] ({ frames := 1, cells := 0, slots := 0, locals := 45 } : Room) #[.ref s, .ref d, .int (Int32.ofNat n), .int 0] h [d] (fun v h' sf' => v = none ∧ sf' = [] ∧ Keep h h' [d] ∧ Arv Z h' d k .byte (Int32.ofNat (put bs cs n).length) (lo8s (put bs cs n)) (.int 0)) := by
  refine con_of (a0 := a0) (ls := #[.val (.ref s), .val (.ref d), .val (.int (Int32.ofNat n)), .val (.int 0)]) (plainFor_of_name (by decide +kernel)) hB.2.1 (fun m => by first | (simp [entryFrame, mkF, argsToLocals, Value.category]; done) | (simp [entryFrame, mkF, argsToLocals, Value.category, maxLocals]; done) | rfl) ?_
  show Go l Z a0 ELc n0 ({ frames := 1, cells := 0, slots := 0, locals := 45 } : Room) "java/lang/String" jdk_42_method_147_code 4 (Option.none : Option FieldType) "getBytes" _ h [d] 0 0 0 #[.val (.ref s), .val (.ref d), .val (.int (Int32.ofNat n)), .val (.int 0)] []
  refine go_aloadN d_b27_0 rfl rfl rfl ?_
  refine go_virtual s [] [] 0 d_b27_1 rfl E (wd hB 139 rfl) (wd hB 140 rfl) (nf_of (wd hB 142 rfl)) (wd hB 142 rfl) (wd hB 141 rfl) (wd hB 7 rfl) (wd hB 143 rfl) (c_coder hB C) (fun _ q => nomatch q) (lenOf pd_4 rfl) rfl rfl rfl (by decide) (by decide) (by decide) (by decide) (by decide) (fun v101 h102 s103 q104 => ?_)
  obtain ⟨rfl, rfl, rfl⟩ := q104
  show Go _ _ _ _ _ _ _ _ _ _ _ _ h [d] 0 0 4 #[.val (.ref s), .val (.ref d), .val (.int (Int32.ofNat n)), .val (.int 0)] [(.int 0)]
  refine go_iloadN d_b27_4 rfl rfl ?_
  refine go_icmp_ne_f d_b27_5 rfl (by decide) ?_
  refine go_aloadN d_b27_8 rfl rfl rfl ?_
  refine go_getfield d_b27_9 rfl (wd hB 33 rfl) Via.refl V ?_
  refine go_iconst 0 d_b27_12 rfl (by decide) ?_
  refine go_aloadN d_b27_13 rfl rfl rfl ?_
  refine go_iloadN d_b27_14 rfl rfl ?_
  refine go_iloadN d_b27_15 rfl rfl ?_
  refine go_ishl d_b27_16 rfl ?_
  rw [shl0]
  refine go_aloadN d_b27_17 rfl rfl rfl ?_
  refine go_getfield d_b27_18 rfl (wd hB 33 rfl) Via.refl V ?_
  refine go_alen d_b27_21 rfl A ?_
  refine go_acopy (us := (lo8s cs)) d_b27_22 rfl (wd hB 160 rfl) (wd hB 163 rfl) (wd hB 161 rfl) (wd hB 162 rfl) A Xa rfl (by decide) (ofN_nneg (by omega)) (ofN_nneg (by omega)) (by rw [ofN_cl (i := cs.length) (by omega)]; exact Nat.le_of_eq (Nat.zero_add _)) (by rw [ofN_cl (i := n) (by omega), ofN_cl (i := cs.length) (by omega), ofN_cl (i := bs.length) (by omega)]; omega) (by rw [ofN_cl (i := cs.length) (by omega)]; exact range_all (lo8s_len cs)) (by rw [ofN_cl (i := n) (by omega), ofN_cl (i := cs.length) (by omega), lo8s_len]; omega) (List.Mem.head _) rfl (by decide) 0 rfl (by decide) ?_
  intro h105 K106 B107
  rw [ofN_cl (i := n) (by omega), ofN_cl (i := cs.length) (by omega), lo8s_put] at B107
  refine go_goto (pt := 43) d_b27_25 (by decide) (by decide) ?_
  refine go_ret d_b27_43 [] rfl (by decide) (by decide) (fun _ q => nomatch q) ?_
  refine ⟨rfl, rfl, K106, ?_⟩
  rw [put_len (by omega)]
  exact B107
set_option maxRecDepth 65536 in
set_option maxHeartbeats 4000000 in
theorem c_put {l : Launch} {Z : State} {a0 : Array Value} {n0 : Nat} (hB : Base Z a0) {x d : Addr} {k : ClassId} (bs : List Int32) (hb : bs.length = 16) (n : Nat) {s ds : Addr} {ks : ClassId} (cs : List Int32) (hm : n + cs.length ≤ 16) (hxd : d ≠ x) (hds : ds ≠ d) {h : Heap} (X : Exa Z h x "java/lang/StringBuilder") (Xv : Fld Z h x "java/lang/AbstractStringBuilder" "value" "[B" (.ref d)) (Xc : Fld Z h x "java/lang/AbstractStringBuilder" "coder" "B" (.int 0)) (Xn : Fld Z h x "java/lang/AbstractStringBuilder" "count" "I" (.int (Int32.ofNat n))) (Xa : Arv Z h d k .byte (Int32.ofNat bs.length) (lo8s bs) (.int 0)) (E : Exa Z h s "java/lang/String") (C : Fld Z h s "java/lang/String" "coder" "B" (.int 0)) (V : Fld Z h s "java/lang/String" "value" "[B" (.ref ds)) (A : Arv Z h ds ks .byte (Int32.ofNat cs.length) (lo8s cs) (.int 0)) :
    Con l Z ELc n0 (⟨"java/lang/AbstractStringBuilder", "putStringAt", "(ILjava/lang/String;)V"⟩ : MethodName) jdk_68_method_73_code 3 (Option.none : Option FieldType) [] ({ frames := 2, cells := 0, slots := 0, locals := 60 } : Room) #[.ref x, .int (Int32.ofNat n), .ref s] h [d] (fun v h' sf' => v = none ∧ sf' = [] ∧ Keep h h' [d] ∧ Arv Z h' d k .byte (Int32.ofNat (put bs cs n).length) (lo8s (put bs cs n)) (.int 0)) := by
  refine con_of (a0 := a0) (ls := #[.val (.ref x), .val (.int (Int32.ofNat n)), .val (.ref s)]) (plainFor_of_name (by decide +kernel)) hB.2.1 (fun m => by first | (simp [entryFrame, mkF, argsToLocals, Value.category]; done) | (simp [entryFrame, mkF, argsToLocals, Value.category, maxLocals]; done) | rfl) ?_
  show Go l Z a0 ELc n0 ({ frames := 2, cells := 0, slots := 0, locals := 60 } : Room) "java/lang/AbstractStringBuilder" jdk_68_method_73_code 3 (Option.none : Option FieldType) "putStringAt" _ h [d] 0 0 0 #[.val (.ref x), .val (.int (Int32.ofNat n)), .val (.ref s)] []
  refine go_aloadN d_b25_0 rfl rfl rfl ?_
  refine go_aloadN d_b25_1 rfl rfl rfl ?_
  refine go_virtual x [(.ref s)] [] 0 d_b25_2 rfl X (wd hB 149 rfl) (declares_of (wd hB 150 rfl) (wd hB 153 rfl)) (nf_of (wd hB 152 rfl)) (wd hB 152 rfl) (wd hB 150 rfl) (wd hB 84 rfl) (wd hB 153 rfl) (c_inf hB Xc E C) (fun _ q => nomatch q) (lenOf pd_12 rfl) rfl rfl rfl (by decide) (by decide) (by decide) (by decide) (by decide) (fun v101 h102 s103 q104 => ?_)
  obtain ⟨rfl, rfl, rfl⟩ := q104
  show Go _ _ _ _ _ _ _ _ _ _ _ _ h [d] 0 0 5 #[.val (.ref x), .val (.int (Int32.ofNat n)), .val (.ref s)] []
  refine go_aloadN d_b25_5 rfl rfl rfl ?_
  refine go_aloadN d_b25_6 rfl rfl rfl ?_
  refine go_getfield d_b25_7 rfl (wd hB 88 rfl) Via.refl Xv ?_
  refine go_iloadN d_b25_10 rfl rfl ?_
  refine go_aloadN d_b25_11 rfl rfl rfl ?_
  refine go_getfield d_b25_12 rfl (wd hB 90 rfl) Via.refl Xc ?_
  refine go_virtual s [(.ref d), (.int (Int32.ofNat n)), (.int 0)] [] 0 d_b25_15 rfl E (wd hB 155 rfl) (wd hB 156 rfl) (nf_of (wd hB 158 rfl)) (wd hB 158 rfl) (wd hB 157 rfl) (wd hB 7 rfl) (wd hB 159 rfl) (c_gb hB bs hb n cs hm E C V A Xa) (allS (List.Mem.head _) (fun _ q => nomatch q)) (lenOf pd_13 rfl) rfl rfl rfl (by decide) (by decide) (by decide) (by decide) (by decide) (fun v105 h106 s107 q108 => ?_)
  obtain ⟨rfl, rfl, q1, q2⟩ := q108
  show Go _ _ _ _ _ _ _ _ _ _ _ _ h106 [d] 0 0 18 #[.val (.ref x), .val (.int (Int32.ofNat n)), .val (.ref s)] []
  refine go_ret d_b25_18 [] rfl (by decide) (by decide) (fun _ q => nomatch q) ?_
  exact ⟨rfl, rfl, q1, q2⟩
set_option maxRecDepth 65536 in
set_option maxHeartbeats 4000000 in
theorem c_asbs {l : Launch} {Z : State} {a0 : Array Value} {n0 : Nat} (hB : Base Z a0) {x d : Addr} {k : ClassId} (bs : List Int32) (hb : bs.length = 16) (n : Nat) {s ds : Addr} {ks : ClassId} (cs : List Int32) (hm : n + cs.length ≤ 16) (hxd : d ≠ x) (hds : ds ≠ d) {h : Heap} (X : Exa Z h x "java/lang/StringBuilder") (Xv : Fld Z h x "java/lang/AbstractStringBuilder" "value" "[B" (.ref d)) (Xc : Fld Z h x "java/lang/AbstractStringBuilder" "coder" "B" (.int 0)) (Xn : Fld Z h x "java/lang/AbstractStringBuilder" "count" "I" (.int (Int32.ofNat n))) (Xa : Arv Z h d k .byte (Int32.ofNat bs.length) (lo8s bs) (.int 0)) (E : Exa Z h s "java/lang/String") (C : Fld Z h s "java/lang/String" "coder" "B" (.int 0)) (V : Fld Z h s "java/lang/String" "value" "[B" (.ref ds)) (A : Arv Z h ds ks .byte (Int32.ofNat cs.length) (lo8s cs) (.int 0)) :
    Con l Z ELc n0 (⟨"java/lang/AbstractStringBuilder", "append", "(Ljava/lang/String;)Ljava/lang/AbstractStringBuilder;"⟩ : MethodName) jdk_68_method_22_code 3 (Option.some (FieldType.object "java/lang/AbstractStringBuilder")) [] ({ frames := 3, cells := 0, slots := 0, locals := 76 } : Room) #[.ref x, .ref s] h [x, d] (fun v h' sf' => v = some (.ref x) ∧ sf' = [] ∧ Keep h h' [x, d] ∧ Exa Z h' x "java/lang/StringBuilder" ∧ Fld Z h' x "java/lang/AbstractStringBuilder" "value" "[B" (.ref d) ∧ Fld Z h' x "java/lang/AbstractStringBuilder" "coder" "B" (.int 0) ∧ Fld Z h' x "java/lang/AbstractStringBuilder" "count" "I" (.int (Int32.ofNat (n + cs.length))) ∧ Arv Z h' d k .byte (Int32.ofNat (put bs cs n).length) (lo8s (put bs cs n)) (.int 0)) := by
  refine con_of (a0 := a0) (ls := #[.val (.ref x), .val (.ref s), .unset]) (plainFor_of_name (by decide +kernel)) hB.2.1 (fun m => by first | (simp [entryFrame, mkF, argsToLocals, Value.category]; done) | (simp [entryFrame, mkF, argsToLocals, Value.category, maxLocals]; done) | rfl) ?_
  show Go l Z a0 ELc n0 ({ frames := 3, cells := 0, slots := 0, locals := 76 } : Room) "java/lang/AbstractStringBuilder" jdk_68_method_22_code 3 (Option.some (FieldType.object "java/lang/AbstractStringBuilder")) "append" _ h [x, d] 0 0 0 #[.val (.ref x), .val (.ref s), .unset] []
  refine go_aloadN d_b22_0 rfl rfl rfl ?_
  refine go_ifnonnull_t (pt := 9) d_b22_1 (by decide) (by decide) ?_
  refine go_aloadN d_b22_9 rfl rfl rfl ?_
  refine go_virtual s [] [] 0 d_b22_10 rfl E (wd hB 134 rfl) (wd hB 135 rfl) (nf_of (wd hB 137 rfl)) (wd hB 137 rfl) (wd hB 136 rfl) (wd hB 7 rfl) (wd hB 138 rfl) (c_len hB cs (by omega) E C V A) (fun _ q => nomatch q) (lenOf pd_14 rfl) rfl rfl rfl (by decide) (by decide) (by decide) (by decide) (by decide) (fun v101 h102 s103 q104 => ?_)
  obtain ⟨rfl, rfl, rfl⟩ := q104
  show Go _ _ _ _ _ _ _ _ _ _ _ _ h [x, d] 0 0 13 #[.val (.ref x), .val (.ref s), .unset] [(.int (Int32.ofNat cs.length))]
  refine go_istoreN d_b22_13 rfl #[.val (.ref x), .val (.ref s), .val (.int (Int32.ofNat cs.length))] rfl ?_
  refine go_aloadN d_b22_14 rfl rfl rfl ?_
  refine go_aloadN d_b22_15 rfl rfl rfl ?_
  refine go_getfield d_b22_16 rfl (wd hB 102 rfl) Via.refl Xn ?_
  refine go_iloadN d_b22_19 rfl rfl ?_
  refine go_iadd d_b22_20 rfl ?_
  rw [ofN_add]
  refine go_virtual x [(.int (Int32.ofNat (n + cs.length)))] [] 0 d_b22_21 rfl X (wd hB 108 rfl) (declares_of (wd hB 109 rfl) (wd hB 112 rfl)) (nf_of (wd hB 111 rfl)) (wd hB 111 rfl) (wd hB 109 rfl) (wd hB 84 rfl) (wd hB 112 rfl) (c_eci hB bs hb n (n + cs.length) hm X Xv Xc Xn Xa) (fun _ q => nomatch q) (lenOf pd_11 rfl) rfl rfl rfl (by decide) (by decide) (by decide) (by decide) (by decide) (fun v105 h106 s107 q108 => ?_)
  obtain ⟨rfl, rfl, rfl⟩ := q108
  show Go _ _ _ _ _ _ _ _ _ _ _ _ h [x, d] 0 0 24 #[.val (.ref x), .val (.ref s), .val (.int (Int32.ofNat cs.length))] []
  refine go_aloadN d_b22_24 rfl rfl rfl ?_
  refine go_aloadN d_b22_25 rfl rfl rfl ?_
  refine go_getfield d_b22_26 rfl (wd hB 102 rfl) Via.refl Xn ?_
  refine go_aloadN d_b22_29 rfl rfl rfl ?_
  refine go_virtual x [(.int (Int32.ofNat n)), (.ref s)] [] 0 d_b22_30 rfl X (wd hB 144 rfl) (declares_of (wd hB 145 rfl) (wd hB 148 rfl)) (nf_of (wd hB 147 rfl)) (wd hB 147 rfl) (wd hB 145 rfl) (wd hB 84 rfl) (wd hB 148 rfl) (c_put hB bs hb n cs hm hxd hds X Xv Xc Xn Xa E C V A) (allS (List.Mem.tail _ (List.Mem.head _)) (fun _ q => nomatch q)) (lenOf pd_15 rfl) rfl rfl rfl (by decide) (by decide) (by decide) (by decide) (by decide) (fun v109 h110 s111 q112 => ?_)
  obtain ⟨rfl, rfl, q1, q2⟩ := q112
  show Go _ _ _ _ _ _ _ _ _ _ _ _ h110 [x, d] 0 0 33 #[.val (.ref x), .val (.ref s), .val (.int (Int32.ofNat cs.length))] []
  refine go_aloadN d_b22_33 rfl rfl rfl ?_
  refine go_dup d_b22_34 rfl rfl ?_
  have F113 := (Xn.keep q1 (ninS (Ne.symm hxd) nin0))
  refine go_getfield d_b22_35 rfl (wd hB 102 rfl) Via.refl F113 ?_
  refine go_iloadN d_b22_38 rfl rfl ?_
  refine go_iadd d_b22_39 rfl ?_
  rw [ofN_add]
  have F114 := (X.keep q1)
  refine go_putfield (ty := .int) d_b22_40 rfl (wd hB 102 rfl) Via.refl F113 F114 (Or.inl (wd hB 103 rfl)) (wd hB 75 rfl) (by decide) rfl rfl (List.Mem.head _) ?_
  intro h115 W116
  have F117 := Fld.same W116 F113
  refine go_aloadN d_b22_43 rfl rfl rfl ?_
  have F118 := (Exa.wr W116 F114)
  have F119 := (Fld.other W116 (Xv.keep q1 (ninS (Ne.symm hxd) nin0)) (Or.inr (slot_ne (t := (.array .byte)) (t' := .int) (Or.inl (wd hB 89 rfl) : Laid Z a0 "java/lang/StringBuilder" "java/lang/AbstractStringBuilder" "value" "[B") (Or.inl (wd hB 103 rfl) : Laid Z a0 "java/lang/StringBuilder" "java/lang/AbstractStringBuilder" "count" "I") (by decide) (by decide) (by decide))))
  have F120 := (Fld.other W116 (Xc.keep q1 (ninS (Ne.symm hxd) nin0)) (Or.inr (slot_ne (t := .byte) (t' := .int) (Or.inl (wd hB 91 rfl) : Laid Z a0 "java/lang/StringBuilder" "java/lang/AbstractStringBuilder" "coder" "B") (Or.inl (wd hB 103 rfl) : Laid Z a0 "java/lang/StringBuilder" "java/lang/AbstractStringBuilder" "count" "I") (by decide) (by decide) (by decide))))
  have F121 := (Arv.other q2 W116 hxd)
  refine go_retA d_b22_44 [] rfl rfl rfl rfl (by decide) (by decide) (fun _ q => nomatch q) ?_
  exact ⟨rfl, rfl, (((Keep.refl h [x, d]).trans q1 (allS (Or.inl (List.Mem.tail _ (List.Mem.head _))) all0)).wr W116 (Or.inl (List.Mem.head _))), F118, F119, F120, F117, F121⟩
set_option maxRecDepth 65536 in
set_option maxHeartbeats 4000000 in
theorem c_sbs {l : Launch} {Z : State} {a0 : Array Value} {n0 : Nat} (hB : Base Z a0) {x d : Addr} {k : ClassId} (bs : List Int32) (hb : bs.length = 16) (n : Nat) {s ds : Addr} {ks : ClassId} (cs : List Int32) (hm : n + cs.length ≤ 16) (hxd : d ≠ x) (hds : ds ≠ d) {h : Heap} (X : Exa Z h x "java/lang/StringBuilder") (Xv : Fld Z h x "java/lang/AbstractStringBuilder" "value" "[B" (.ref d)) (Xc : Fld Z h x "java/lang/AbstractStringBuilder" "coder" "B" (.int 0)) (Xn : Fld Z h x "java/lang/AbstractStringBuilder" "count" "I" (.int (Int32.ofNat n))) (Xa : Arv Z h d k .byte (Int32.ofNat bs.length) (lo8s bs) (.int 0)) (E : Exa Z h s "java/lang/String") (C : Fld Z h s "java/lang/String" "coder" "B" (.int 0)) (V : Fld Z h s "java/lang/String" "value" "[B" (.ref ds)) (A : Arv Z h ds ks .byte (Int32.ofNat cs.length) (lo8s cs) (.int 0)) :
    Con l Z ELc n0 (⟨"java/lang/StringBuilder", "append", "(Ljava/lang/String;)Ljava/lang/StringBuilder;"⟩ : MethodName) jdk_67_method_7_code 2 (Option.some (FieldType.object "java/lang/StringBuilder")) [] ({ frames := 4, cells := 0, slots := 0, locals := 91 } : Room) #[.ref x, .ref s] h [x, d] (fun v h' sf' => v = some (.ref x) ∧ sf' = [] ∧ Keep h h' [x, d] ∧ Exa Z h' x "java/lang/StringBuilder" ∧ Fld Z h' x "java/lang/AbstractStringBuilder" "value" "[B" (.ref d) ∧ Fld Z h' x "java/lang/AbstractStringBuilder" "coder" "B" (.int 0) ∧ Fld Z h' x "java/lang/AbstractStringBuilder" "count" "I" (.int (Int32.ofNat (n + cs.length))) ∧ Arv Z h' d k .byte (Int32.ofNat (put bs cs n).length) (lo8s (put bs cs n)) (.int 0)) := by
  refine con_of (a0 := a0) (ls := #[.val (.ref x), .val (.ref s)]) (plainFor_of_name (by decide +kernel)) hB.2.1 (fun m => by first | (simp [entryFrame, mkF, argsToLocals, Value.category]; done) | (simp [entryFrame, mkF, argsToLocals, Value.category, maxLocals]; done) | rfl) ?_
  show Go l Z a0 ELc n0 ({ frames := 4, cells := 0, slots := 0, locals := 91 } : Room) "java/lang/StringBuilder" jdk_67_method_7_code 2 (Option.some (FieldType.object "java/lang/StringBuilder")) "append" _ h [x, d] 0 0 0 #[.val (.ref x), .val (.ref s)] []
  refine go_aloadN d_b21_0 rfl rfl rfl ?_
  refine go_aloadN d_b21_1 rfl rfl rfl ?_
  refine go_super x [(.ref s)] [] 0 d_b21_2 rfl (Ins.self X) (wd hB 130 rfl) (same_of (y := (⟨"java/lang/AbstractStringBuilder", "ensureCapacityInternal", "(I)V"⟩ : MethodName)) rfl (wd hB 111 rfl) (wd hB 131 rfl) (by decide)) (wd hB 131 rfl) (wd hB 99 rfl) (by decide) (wd hB 84 rfl) (wd hB 133 rfl) (c_asbs hB bs hb n cs hm hxd hds X Xv Xc Xn Xa E C V A) (allS (List.Mem.head _) (allS (List.Mem.tail _ (List.Mem.head _)) (fun _ q => nomatch q))) (lenOf pd_16 rfl) rfl rfl rfl (by decide) (by decide) (by decide) (by decide) (fun v101 h102 s103 q104 => ?_)
  obtain ⟨rfl, rfl, q1, q2⟩ := q104
  show Go _ _ _ _ _ _ _ _ _ _ _ _ h102 [x, d] 0 0 5 #[.val (.ref x), .val (.ref s)] [(.ref x)]
  refine go_pop d_b21_5 rfl rfl ?_
  refine go_aloadN d_b21_6 rfl rfl rfl ?_
  refine go_retA d_b21_7 [] rfl rfl rfl rfl (by decide) (by decide) (fun _ q => nomatch q) ?_
  exact ⟨rfl, rfl, q1, q2⟩
theorem neg10 {n : Nat} (h : n < 10) : (-10 : Int32) < -(Int32.ofNat n) := (by decide : ∀ n, n < 10 → (-10 : Int32) < -(Int32.ofNat n)) n h
theorem neg100 {n : Nat} (h : n < 10) : (-100 : Int32) < -(Int32.ofNat n) := (by decide : ∀ n, n < 10 → (-100 : Int32) < -(Int32.ofNat n)) n h
theorem neg9 {n : Nat} (h : n < 10) : ¬ -(Int32.ofNat n) < (-9 : Int32) := (by decide : ∀ n, n < 10 → ¬ -(Int32.ofNat n) < (-9 : Int32)) n h
set_option maxRecDepth 65536 in
set_option maxHeartbeats 4000000 in
theorem c_ssz {l : Launch} {Z : State} {a0 : Array Value} {n0 : Nat} (hB : Base Z a0) (n : Nat) (hn : n < 10) {h : Heap} :
    Con l Z ELc n0 (⟨"java/lang/Integer", "stringSize", "(I)I"⟩ : MethodName) jdk_33_method_13_code 4 (Option.some FieldType.int) [] ({ frames := 0, cells := 0, slots := 0, locals := 0 } : Room) #[.int (Int32.ofNat n)] h [] (fun v h' sf' => v = some (.int 1) ∧ sf' = [] ∧ h = h') := by
  refine con_of (a0 := a0) (ls := #[.val (.int (Int32.ofNat n)), .unset, .unset, .unset]) (plainFor_of_name (by decide +kernel)) hB.2.1 (fun m => by first | (simp [entryFrame, mkF, argsToLocals, Value.category]; done) | (simp [entryFrame, mkF, argsToLocals, Value.category, maxLocals]; done) | rfl) ?_
  show Go l Z a0 ELc n0 ({ frames := 0, cells := 0, slots := 0, locals := 0 } : Room) "java/lang/Integer" jdk_33_method_13_code 4 (Option.some FieldType.int) "stringSize" _ h [] 0 0 0 #[.val (.int (Int32.ofNat n)), .unset, .unset, .unset] []
  refine go_iconst 1 d_b17_0 rfl (by decide) ?_
  refine go_istoreN d_b17_1 rfl #[.val (.int (Int32.ofNat n)), .val (.int 1), .unset, .unset] rfl ?_
  refine go_iloadN d_b17_2 rfl rfl ?_
  refine go_if_lt_f d_b17_3 rfl (ofN_nneg (by omega)) ?_
  refine go_iconst 0 d_b17_6 rfl (by decide) ?_
  refine go_istoreN d_b17_7 rfl #[.val (.int (Int32.ofNat n)), .val (.int 0), .unset, .unset] rfl ?_
  refine go_iloadN d_b17_8 rfl rfl ?_
  refine go_ineg d_b17_9 rfl ?_
  refine go_istoreN d_b17_10 rfl #[.val (.int (-(Int32.ofNat n))), .val (.int 0), .unset, .unset] rfl ?_
  refine go_bipush (-10) d_b17_11 rfl (by decide) ?_
  refine go_istoreN d_b17_13 rfl #[.val (.int (-(Int32.ofNat n))), .val (.int 0), .val (.int (-10)), .unset] rfl ?_
  refine go_iconst 1 d_b17_14 rfl (by decide) ?_
  refine go_istoreN d_b17_15 rfl #[.val (.int (-(Int32.ofNat n))), .val (.int 0), .val (.int (-10)), .val (.int 1)] rfl ?_
  refine go_iloadN d_b17_16 rfl rfl ?_
  refine go_bipush 10 d_b17_17 rfl (by decide) ?_
  refine go_icmp_ge_f d_b17_19 rfl (by decide) ?_
  refine go_iloadN d_b17_22 rfl rfl ?_
  refine go_iloadN d_b17_23 rfl rfl ?_
  refine go_icmp_le_f d_b17_24 rfl (neg10 hn) ?_
  refine go_iloadN d_b17_27 rfl rfl ?_
  refine go_iloadN d_b17_28 rfl rfl ?_
  refine go_iadd d_b17_29 rfl ?_
  refine go_retI d_b17_30 [] rfl (by decide) (by decide) (fun _ q => nomatch q) ?_
  exact ⟨by decide, rfl, rfl⟩
set_option maxRecDepth 65536 in
set_option maxHeartbeats 4000000 in
theorem c_gc {l : Launch} {Z : State} {a0 : Array Value} {n0 : Nat} (hB : Base Z a0) {d : Addr} {k : ClassId} (bs : List Int32) (hb : bs.length = 16) (n : Nat) (hn : n < 10) {h : Heap} (Xa : Arv Z h d k .byte (Int32.ofNat bs.length) (lo8s bs) (.int 0)) :
    Con l Z ELc n0 (⟨"java/lang/Integer", "getChars", "(II[B)I"⟩ : MethodName) jdk_33_method_12_code 7 (Option.some FieldType.int) [] ({ frames := 0, cells := 0, slots := 0, locals := 0 } : Room) #[.int (Int32.ofNat n), .int 1, .ref d] h [d] (fun v h' sf' => v = some (.int 0) ∧ sf' = [] ∧ Keep h h' [d] ∧ Arv Z h' d k .byte (Int32.ofNat (bs.set 0 (Int32.ofNat (48 + n))).length) (lo8s (bs.set 0 (Int32.ofNat (48 + n)))) (.int 0)) := by
  refine con_of (a0 := a0) (ls := #[.val (.int (Int32.ofNat n)), .val (.int 1), .val (.ref d), .unset, .unset, .unset, .unset]) (plainFor_of_name (by decide +kernel)) hB.2.1 (fun m => by first | (simp [entryFrame, mkF, argsToLocals, Value.category]; done) | (simp [entryFrame, mkF, argsToLocals, Value.category, maxLocals]; done) | rfl) ?_
  show Go l Z a0 ELc n0 ({ frames := 0, cells := 0, slots := 0, locals := 0 } : Room) "java/lang/Integer" jdk_33_method_12_code 7 (Option.some FieldType.int) "getChars" _ h [d] 0 0 0 #[.val (.int (Int32.ofNat n)), .val (.int 1), .val (.ref d), .unset, .unset, .unset, .unset] []
  obtain ⟨dg, kd, vd, hSd, hAd, hvd⟩ := hB.2.2.2.2.1
  refine Go.old (fun hOld => ?_)
  have hAd := hAd.ext hOld.2
  refine go_iloadN d_b20_0 rfl rfl ?_
  refine go_istore d_b20_1 rfl #[.val (.int (Int32.ofNat n)), .val (.int 1), .val (.ref d), .unset, .unset, .val (.int 1), .unset] rfl ?_
  refine go_iloadN d_b20_3 rfl rfl ?_
  refine go_if_ge_t (pt := 11) d_b20_4 (by decide) (by decide) (ofN_nneg (by omega)) ?_
  refine go_iconst 0 d_b20_11 rfl (by decide) ?_
  refine go_istore d_b20_12 rfl #[.val (.int (Int32.ofNat n)), .val (.int 1), .val (.ref d), .unset, .unset, .val (.int 1), .val (.int 0)] rfl ?_
  refine go_iload d_b20_14 rfl rfl ?_
  refine go_if_ne_f d_b20_16 rfl (by decide) ?_
  refine go_iloadN d_b20_19 rfl rfl ?_
  refine go_ineg d_b20_20 rfl ?_
  refine go_istoreN d_b20_21 rfl #[.val (.int (-(Int32.ofNat n))), .val (.int 1), .val (.ref d), .unset, .unset, .val (.int 1), .val (.int 0)] rfl ?_
  refine go_iloadN d_b20_22 rfl rfl ?_
  refine go_bipush (-100) d_b20_23 rfl (by decide) ?_
  refine go_icmp_gt_t (pt := 72) d_b20_25 (by decide) (by decide) (neg100 hn) ?_
  refine go_aloadN d_b20_72 rfl rfl rfl ?_
  refine go_iinc (-1) d_b20_73 rfl #[.val (.int (-(Int32.ofNat n))), .val (.int 1), .val (.ref d), .unset, .unset, .val (.int (1 + (-1))), .val (.int 0)] (by decide) rfl rfl ?_
  rw [show (1 : Int32) + (-1) = 0 from by decide]
  refine go_iload d_b20_76 rfl rfl ?_
  refine go_getstatic d_b20_78 rfl (wd hB 121 rfl) Via.refl hSd ?_
  refine go_iloadN d_b20_81 rfl rfl ?_
  refine go_ineg d_b20_82 rfl ?_
  rw [Int32.neg_neg]
  refine go_baload (v := (.int (Int32.ofNat (48 + n)))) n d_b20_83 rfl hAd ⟨ofN_nneg (by omega), ofN_lt (n := 100) (by omega) (by decide)⟩ (ofN_cl (by omega)) (hvd n hn) ?_
  refine go_bastore 0 d_b20_84 rfl Xa ⟨by decide, by rw [hb]; decide⟩ rfl (by rw [lo8s_len]; omega) (List.Mem.head _) ?_
  intro h101 W102 B103
  have B104 : Arv Z h101 d k .byte (Int32.ofNat bs.length) ((lo8s bs).set 0 (Value.int (Int32.ofNat (48 + n)).toInt8.toInt32)) (.int 0) := B103
  refine go_iloadN d_b20_85 rfl rfl ?_
  refine go_bipush (-9) d_b20_86 rfl (by decide) ?_
  refine go_icmp_ge_t (pt := 104) d_b20_88 (by decide) (by decide) (neg9 hn) ?_
  refine go_iload d_b20_104 rfl rfl ?_
  refine go_if_eq_t (pt := 118) d_b20_106 (by decide) (by decide) (by decide) ?_
  refine go_iload d_b20_118 rfl rfl ?_
  refine go_retI d_b20_120 [] rfl (by decide) (by decide) (fun _ q => nomatch q) ?_
  refine ⟨rfl, rfl, ((Keep.refl h [d]).wr W102 (Or.inl (List.Mem.head _))), ?_⟩
  rw [List.length_set, ← lo8s_set0]
  exact B104
set_option maxRecDepth 65536 in
set_option maxHeartbeats 4000000 in
theorem c_asbn {l : Launch} {Z : State} {a0 : Array Value} {n0 : Nat} (hB : Base Z a0) {x d : Addr} {k : ClassId} (bs : List Int32) (hb : bs.length = 16) (m : Nat) (hm : m < 10) (hxd : d ≠ x) {h : Heap} (X : Exa Z h x "java/lang/StringBuilder") (Xv : Fld Z h x "java/lang/AbstractStringBuilder" "value" "[B" (.ref d)) (Xc : Fld Z h x "java/lang/AbstractStringBuilder" "coder" "B" (.int 0)) (Xn : Fld Z h x "java/lang/AbstractStringBuilder" "count" "I" (.int (Int32.ofNat 0))) (Xa : Arv Z h d k .byte (Int32.ofNat bs.length) (lo8s bs) (.int 0)) :
    Con l Z ELc n0 (⟨"java/lang/AbstractStringBuilder", "append", "(I)Ljava/lang/AbstractStringBuilder;"⟩ : MethodName) jdk_68_method_32_code 4 (Option.some (FieldType.object "java/lang/AbstractStringBuilder")) [] ({ frames := 1, cells := 0, slots := 0, locals := 18 } : Room) #[.ref x, .int (Int32.ofNat m)] h [x, d] (fun v h' sf' => v = some (.ref x) ∧ sf' = [] ∧ Keep h h' [x, d] ∧ Exa Z h' x "java/lang/StringBuilder" ∧ Fld Z h' x "java/lang/AbstractStringBuilder" "value" "[B" (.ref d) ∧ Fld Z h' x "java/lang/AbstractStringBuilder" "coder" "B" (.int 0) ∧ Fld Z h' x "java/lang/AbstractStringBuilder" "count" "I" (.int (Int32.ofNat 1)) ∧ Arv Z h' d k .byte (Int32.ofNat (bs.set 0 (Int32.ofNat (48 + m))).length) (lo8s (bs.set 0 (Int32.ofNat (48 + m)))) (.int 0)) := by
  refine con_of (a0 := a0) (ls := #[.val (.ref x), .val (.int (Int32.ofNat m)), .unset, .unset]) (plainFor_of_name (by decide +kernel)) hB.2.1 (fun m => by first | (simp [entryFrame, mkF, argsToLocals, Value.category]; done) | (simp [entryFrame, mkF, argsToLocals, Value.category, maxLocals]; done) | rfl) ?_
  show Go l Z a0 ELc n0 ({ frames := 1, cells := 0, slots := 0, locals := 18 } : Room) "java/lang/AbstractStringBuilder" jdk_68_method_32_code 4 (Option.some (FieldType.object "java/lang/AbstractStringBuilder")) "append" _ h [x, d] 0 0 0 #[.val (.ref x), .val (.int (Int32.ofNat m)), .unset, .unset] []
  refine go_aloadN d_b16_0 rfl rfl rfl ?_
  refine go_getfield d_b16_1 rfl (wd hB 102 rfl) Via.refl Xn ?_
  refine go_istoreN d_b16_4 rfl #[.val (.ref x), .val (.int (Int32.ofNat m)), .val (.int (Int32.ofNat 0)), .unset] rfl ?_
  refine go_iloadN d_b16_5 rfl rfl ?_
  refine go_iloadN d_b16_6 rfl rfl ?_
  refine go_static [(.int (Int32.ofNat m))] [(.int (Int32.ofNat 0))] 1 d_b16_7 rfl (wd hB 104 rfl) (wd hB 105 rfl) (wd hB 106 rfl) (wd hB 107 rfl) (c_ssz hB m hm) (fun _ q => nomatch q) (lenOf pd_17 rfl) rfl rfl rfl (by decide) (by decide) (by decide) (by decide) (by decide) (fun v101 h102 s103 q104 => ?_)
  obtain ⟨rfl, rfl, rfl⟩ := q104
  show Go _ _ _ _ _ _ _ _ _ _ _ _ h [x, d] 0 0 10 #[.val (.ref x), .val (.int (Int32.ofNat m)), .val (.int (Int32.ofNat 0)), .unset] [(.int 1), (.int (Int32.ofNat 0))]
  refine go_iadd d_b16_10 rfl ?_
  rw [show Int32.ofNat 0 + 1 = 1 from by decide]
  refine go_istoreN d_b16_11 rfl #[.val (.ref x), .val (.int (Int32.ofNat m)), .val (.int (Int32.ofNat 0)), .val (.int 1)] rfl ?_
  refine go_aloadN d_b16_12 rfl rfl rfl ?_
  refine go_iloadN d_b16_13 rfl rfl ?_
  refine go_virtual x [(.int 1)] [] 0 d_b16_14 rfl X (wd hB 108 rfl) (declares_of (wd hB 109 rfl) (wd hB 112 rfl)) (nf_of (wd hB 111 rfl)) (wd hB 111 rfl) (wd hB 109 rfl) (wd hB 84 rfl) (wd hB 112 rfl) (c_eci hB bs hb 0 1 (by omega) X Xv Xc Xn Xa) (fun _ q => nomatch q) (lenOf pd_11 rfl) rfl rfl rfl (by decide) (by decide) (by decide) (by decide) (by decide) (fun v105 h106 s107 q108 => ?_)
  obtain ⟨rfl, rfl, rfl⟩ := q108
  show Go _ _ _ _ _ _ _ _ _ _ _ _ h [x, d] 0 0 17 #[.val (.ref x), .val (.int (Int32.ofNat m)), .val (.int (Int32.ofNat 0)), .val (.int 1)] []
  refine go_aloadN d_b16_17 rfl rfl rfl ?_
  refine go_virtual x [] [] 0 d_b16_18 rfl X (wd hB 113 rfl) (wd hB 114 rfl) (nf_of (wd hB 116 rfl)) (wd hB 116 rfl) (wd hB 115 rfl) (wd hB 84 rfl) (wd hB 117 rfl) (c_asbl hB Xc) (fun _ q => nomatch q) (lenOf pd_7 rfl) rfl rfl rfl (by decide) (by decide) (by decide) (by decide) (by decide) (fun v109 h110 s111 q112 => ?_)
  obtain ⟨rfl, rfl, rfl⟩ := q112
  show Go _ _ _ _ _ _ _ _ _ _ _ _ h [x, d] 0 0 21 #[.val (.ref x), .val (.int (Int32.ofNat m)), .val (.int (Int32.ofNat 0)), .val (.int 1)] [(.int 1)]
  refine go_if_eq_f d_b16_21 rfl (by decide) ?_
  refine go_iloadN d_b16_24 rfl rfl ?_
  refine go_iloadN d_b16_25 rfl rfl ?_
  refine go_aloadN d_b16_26 rfl rfl rfl ?_
  refine go_getfield d_b16_27 rfl (wd hB 88 rfl) Via.refl Xv ?_
  refine go_static [(.int (Int32.ofNat m)), (.int 1), (.ref d)] [] 0 d_b16_30 rfl (wd hB 118 rfl) (wd hB 119 rfl) (wd hB 106 rfl) (wd hB 120 rfl) (c_gc hB bs hb m hm Xa) (allS (List.Mem.tail _ (List.Mem.head _)) (fun _ q => nomatch q)) (lenOf pd_18 rfl) rfl rfl rfl (by decide) (by decide) (by decide) (by decide) (by decide) (fun v113 h114 s115 q116 => ?_)
  obtain ⟨rfl, rfl, q1, q2⟩ := q116
  show Go _ _ _ _ _ _ _ _ _ _ _ _ h114 [x, d] 0 0 33 #[.val (.ref x), .val (.int (Int32.ofNat m)), .val (.int (Int32.ofNat 0)), .val (.int 1)] [(.int 0)]
  refine go_pop d_b16_33 rfl rfl ?_
  refine go_goto (pt := 48) d_b16_34 (by decide) (by decide) ?_
  refine go_aloadN d_b16_48 rfl rfl rfl ?_
  refine go_iloadN d_b16_49 rfl rfl ?_
  have F117 := (Xn.keep q1 (ninS (Ne.symm hxd) nin0))
  have F118 := (X.keep q1)
  refine go_putfield (ty := .int) d_b16_50 rfl (wd hB 102 rfl) Via.refl F117 F118 (Or.inl (wd hB 103 rfl)) (wd hB 75 rfl) (by decide) (by decide) (by decide) (List.Mem.head _) ?_
  intro h119 W120
  have F121 := Fld.same W120 F117
  refine go_aloadN d_b16_53 rfl rfl rfl ?_
  have F122 := (Exa.wr W120 F118)
  have F123 := (Fld.other W120 (Xv.keep q1 (ninS (Ne.symm hxd) nin0)) (Or.inr (slot_ne (t := (.array .byte)) (t' := .int) (Or.inl (wd hB 89 rfl) : Laid Z a0 "java/lang/StringBuilder" "java/lang/AbstractStringBuilder" "value" "[B") (Or.inl (wd hB 103 rfl) : Laid Z a0 "java/lang/StringBuilder" "java/lang/AbstractStringBuilder" "count" "I") (by decide) (by decide) (by decide))))
  have F124 := (Fld.other W120 (Xc.keep q1 (ninS (Ne.symm hxd) nin0)) (Or.inr (slot_ne (t := .byte) (t' := .int) (Or.inl (wd hB 91 rfl) : Laid Z a0 "java/lang/StringBuilder" "java/lang/AbstractStringBuilder" "coder" "B") (Or.inl (wd hB 103 rfl) : Laid Z a0 "java/lang/StringBuilder" "java/lang/AbstractStringBuilder" "count" "I") (by decide) (by decide) (by decide))))
  have F125 := (Arv.other q2 W120 hxd)
  refine go_retA d_b16_54 [] rfl rfl rfl rfl (by decide) (by decide) (fun _ q => nomatch q) ?_
  exact ⟨rfl, rfl, (((Keep.refl h [x, d]).trans q1 (allS (Or.inl (List.Mem.tail _ (List.Mem.head _))) all0)).wr W120 (Or.inl (List.Mem.head _))), F122, F123, F124, F121, F125⟩
set_option maxRecDepth 65536 in
set_option maxHeartbeats 4000000 in
theorem c_sbn {l : Launch} {Z : State} {a0 : Array Value} {n0 : Nat} (hB : Base Z a0) {x d : Addr} {k : ClassId} (bs : List Int32) (hb : bs.length = 16) (m : Nat) (hm : m < 10) (hxd : d ≠ x) {h : Heap} (X : Exa Z h x "java/lang/StringBuilder") (Xv : Fld Z h x "java/lang/AbstractStringBuilder" "value" "[B" (.ref d)) (Xc : Fld Z h x "java/lang/AbstractStringBuilder" "coder" "B" (.int 0)) (Xn : Fld Z h x "java/lang/AbstractStringBuilder" "count" "I" (.int (Int32.ofNat 0))) (Xa : Arv Z h d k .byte (Int32.ofNat bs.length) (lo8s bs) (.int 0)) :
    Con l Z ELc n0 (⟨"java/lang/StringBuilder", "append", "(I)Ljava/lang/StringBuilder;"⟩ : MethodName) jdk_67_method_15_code 2 (Option.some (FieldType.object "java/lang/StringBuilder")) [] ({ frames := 2, cells := 0, slots := 0, locals := 33 } : Room) #[.ref x, .int (Int32.ofNat m)] h [x, d] (fun v h' sf' => v = some (.ref x) ∧ sf' = [] ∧ Keep h h' [x, d] ∧ Exa Z h' x "java/lang/StringBuilder" ∧ Fld Z h' x "java/lang/AbstractStringBuilder" "value" "[B" (.ref d) ∧ Fld Z h' x "java/lang/AbstractStringBuilder" "coder" "B" (.int 0) ∧ Fld Z h' x "java/lang/AbstractStringBuilder" "count" "I" (.int (Int32.ofNat 1)) ∧ Arv Z h' d k .byte (Int32.ofNat (bs.set 0 (Int32.ofNat (48 + m))).length) (lo8s (bs.set 0 (Int32.ofNat (48 + m)))) (.int 0)) := by
  refine con_of (a0 := a0) (ls := #[.val (.ref x), .val (.int (Int32.ofNat m))]) (plainFor_of_name (by decide +kernel)) hB.2.1 (fun m => by first | (simp [entryFrame, mkF, argsToLocals, Value.category]; done) | (simp [entryFrame, mkF, argsToLocals, Value.category, maxLocals]; done) | rfl) ?_
  show Go l Z a0 ELc n0 ({ frames := 2, cells := 0, slots := 0, locals := 33 } : Room) "java/lang/StringBuilder" jdk_67_method_15_code 2 (Option.some (FieldType.object "java/lang/StringBuilder")) "append" _ h [x, d] 0 0 0 #[.val (.ref x), .val (.int (Int32.ofNat m))] []
  refine go_aloadN d_b15_0 rfl rfl rfl ?_
  refine go_iloadN d_b15_1 rfl rfl ?_
  refine go_super x [(.int (Int32.ofNat m))] [] 0 d_b15_2 rfl (Ins.self X) (wd hB 97 rfl) (same_of (y := (⟨"java/lang/AbstractStringBuilder", "ensureCapacityInternal", "(I)V"⟩ : MethodName)) rfl (wd hB 111 rfl) (wd hB 98 rfl) (by decide)) (wd hB 98 rfl) (wd hB 99 rfl) (by decide) (wd hB 84 rfl) (wd hB 101 rfl) (c_asbn hB bs hb m hm hxd X Xv Xc Xn Xa) (allS (List.Mem.head _) (allS (List.Mem.tail _ (List.Mem.head _)) (fun _ q => nomatch q))) (lenOf pd_19 rfl) rfl rfl rfl (by decide) (by decide) (by decide) (by decide) (fun v101 h102 s103 q104 => ?_)
  obtain ⟨rfl, rfl, q1, q2⟩ := q104
  show Go _ _ _ _ _ _ _ _ _ _ _ _ h102 [x, d] 0 0 5 #[.val (.ref x), .val (.int (Int32.ofNat m))] [(.ref x)]
  refine go_pop d_b15_5 rfl rfl ?_
  refine go_aloadN d_b15_6 rfl rfl rfl ?_
  refine go_retA d_b15_7 [] rfl rfl rfl rfl (by decide) (by decide) (fun _ q => nomatch q) ?_
  exact ⟨rfl, rfl, q1, q2⟩
set_option maxRecDepth 65536 in
set_option maxHeartbeats 4000000 in
theorem c_gv {l : Launch} {Z : State} {a0 : Array Value} {n0 : Nat} (hB : Base Z a0) {x d : Addr} {h : Heap} (Xv : Fld Z h x "java/lang/AbstractStringBuilder" "value" "[B" (.ref d)) :
    Con l Z ELc n0 (⟨"java/lang/AbstractStringBuilder", "getValue", "()[B"⟩ : MethodName) jdk_68_method_64_code 1 (Option.some (FieldType.array FieldType.byte)) [] ({ frames := 0, cells := 0, slots := 0, locals := 0 } : Room) #[.ref x] h [] (fun v h' sf' => v = some (.ref d) ∧ sf' = [] ∧ h = h') := by
  refine con_of (a0 := a0) (ls := #[.val (.ref x)]) (plainFor_of_name (by decide +kernel)) hB.2.1 (fun m => by first | (simp [entryFrame, mkF, argsToLocals, Value.category]; done) | (simp [entryFrame, mkF, argsToLocals, Value.category, maxLocals]; done) | rfl) ?_
  show Go l Z a0 ELc n0 ({ frames := 0, cells := 0, slots := 0, locals := 0 } : Room) "java/lang/AbstractStringBuilder" jdk_68_method_64_code 1 (Option.some (FieldType.array FieldType.byte)) "getValue" _ h [] 0 0 0 #[.val (.ref x)] []
  refine go_aloadN d_b31_0 rfl rfl rfl ?_
  refine go_getfield d_b31_1 rfl (wd hB 88 rfl) Via.refl Xv ?_
  refine go_retA d_b31_4 [] rfl rfl rfl rfl (by decide) (by decide) (fun _ q => nomatch q) ?_
  exact ⟨rfl, rfl, rfl⟩
set_option maxRecDepth 65536 in
set_option maxHeartbeats 4000000 in
theorem c_asblen {l : Launch} {Z : State} {a0 : Array Value} {n0 : Nat} (hB : Base Z a0) {x : Addr} {z : Int32} {h : Heap} (Xn : Fld Z h x "java/lang/AbstractStringBuilder" "count" "I" (.int z)) :
    Con l Z ELc n0 (⟨"java/lang/AbstractStringBuilder", "length", "()I"⟩ : MethodName) jdk_68_method_6_code 1 (Option.some FieldType.int) [] ({ frames := 0, cells := 0, slots := 0, locals := 0 } : Room) #[.ref x] h [] (fun v h' sf' => v = some (.int z) ∧ sf' = [] ∧ h = h') := by
  refine con_of (a0 := a0) (ls := #[.val (.ref x)]) (plainFor_of_name (by decide +kernel)) hB.2.1 (fun m => by first | (simp [entryFrame, mkF, argsToLocals, Value.category]; done) | (simp [entryFrame, mkF, argsToLocals, Value.category, maxLocals]; done) | rfl) ?_
  show Go l Z a0 ELc n0 ({ frames := 0, cells := 0, slots := 0, locals := 0 } : Room) "java/lang/AbstractStringBuilder" jdk_68_method_6_code 1 (Option.some FieldType.int) "length" _ h [] 0 0 0 #[.val (.ref x)] []
  refine go_aloadN d_b33_0 rfl rfl rfl ?_
  refine go_getfield d_b33_1 rfl (wd hB 102 rfl) Via.refl Xn ?_
  refine go_retI d_b33_4 [] rfl (by decide) (by decide) (fun _ q => nomatch q) ?_
  exact ⟨rfl, rfl, rfl⟩
set_option maxRecDepth 65536 in
set_option maxHeartbeats 4000000 in
theorem c_sblen {l : Launch} {Z : State} {a0 : Array Value} {n0 : Nat} (hB : Base Z a0) {x : Addr} {z : Int32} {h : Heap} (X : Exa Z h x "java/lang/StringBuilder") (Xn : Fld Z h x "java/lang/AbstractStringBuilder" "count" "I" (.int z)) :
    Con l Z ELc n0 (⟨"java/lang/StringBuilder", "length", "()I"⟩ : MethodName) jdk_67_method_93_code 1 (Option.some FieldType.int) [] ({ frames := 1, cells := 0, slots := 0, locals := 12 } : Room) #[.ref x] h [] (fun v h' sf' => v = some (.int z) ∧ sf' = [] ∧ h = h') := by
  refine con_of (a0 := a0) (ls := #[.val (.ref x)]) (plainFor_of_name (by decide +kernel)) hB.2.1 (fun m => by first | (simp [entryFrame, mkF, argsToLocals, Value.category]; done) | (simp [entryFrame, mkF, argsToLocals, Value.category, maxLocals]; done) | rfl) ?_
  show Go l Z a0 ELc n0 ({ frames := 1, cells := 0, slots := 0, locals := 12 } : Room) "java/lang/StringBuilder" jdk_67_method_93_code 1 (Option.some FieldType.int) "length" _ h [] 0 0 0 #[.val (.ref x)] []
  refine go_aloadN d_b32_0 rfl rfl rfl ?_
  refine go_super x [] [] 0 d_b32_1 rfl (Ins.self X) (wd hB 187 rfl) (same_of (y := (⟨"java/lang/AbstractStringBuilder", "ensureCapacityInternal", "(I)V"⟩ : MethodName)) rfl (wd hB 111 rfl) (wd hB 183 rfl) (by decide)) (wd hB 183 rfl) (wd hB 99 rfl) (by decide) (wd hB 84 rfl) (wd hB 188 rfl) (c_asblen hB Xn) (fun _ q => nomatch q) (lenOf pd_14 rfl) rfl rfl rfl (by decide) (by decide) (by decide) (by decide) (fun v1 h2 s3 q4 => ?_)
  obtain ⟨rfl, rfl, rfl⟩ := q4
  show Go _ _ _ _ _ _ _ _ _ _ _ _ h [] 0 0 4 #[.val (.ref x)] [(.int z)]
  refine go_retI d_b32_4 [] rfl (by decide) (by decide) (fun _ q => nomatch q) ?_
  exact ⟨rfl, rfl, rfl⟩
set_option maxRecDepth 65536 in
set_option maxHeartbeats 4000000 in
theorem c_ns2 {l : Launch} {Z : State} {a0 : Array Value} {n0 : Nat} (hB : Base Z a0) {x d : Addr} {k : ClassId} (bs : List Int32) (hb : bs.length = 16) (n : Nat) (hn : n < 16) {s : Addr} {h : Heap} (X : Exa Z h x "java/lang/StringBuilder") (Xv : Fld Z h x "java/lang/AbstractStringBuilder" "value" "[B" (.ref d)) (Xc : Fld Z h x "java/lang/AbstractStringBuilder" "coder" "B" (.int 0)) (Xn : Fld Z h x "java/lang/AbstractStringBuilder" "count" "I" (.int (Int32.ofNat n))) (Xa : Arv Z h d k .byte (Int32.ofNat bs.length) (lo8s bs) (.int 0)) (E : Exa Z h s "java/lang/String") (F1 : Fld Z h s "java/lang/String" "value" "[B" .null) (F2 : Fld Z h s "java/lang/String" "coder" "B" (.int 0)) :
    Con l Z ELc n0 (⟨"java/lang/String", "<init>", "(Ljava/lang/AbstractStringBuilder;Ljava/lang/Void;)V"⟩ : MethodName) jdk_42_method_150_code 5 (Option.none : Option FieldType) [] ({ frames := 3, cells := 1, slots := 16, locals := 75 } : Room) #[.ref s, .ref x, .null] h [s] (fun v h' sf' => ∃ d' k', v = none ∧ sf' = [] ∧ Keep h h' [s] ∧ h.size ≤ d' ∧ Exa Z h' s "java/lang/String" ∧ Fld Z h' s "java/lang/String" "coder" "B" (.int 0) ∧ Fld Z h' s "java/lang/String" "value" "[B" (.ref d') ∧ Arv Z h' d' k' .byte (Int32.ofNat (bs.take n).length) (lo8s (bs.take n)) (.int 0)) := by
  refine con_of (a0 := a0) (ls := #[.val (.ref s), .val (.ref x), .val .null, .unset, .unset]) (plainFor_of_name (by decide +kernel)) hB.2.1 (fun m => by first | (simp [entryFrame, mkF, argsToLocals, Value.category]; done) | (simp [entryFrame, mkF, argsToLocals, Value.category, maxLocals]; done) | rfl) ?_
  show Go l Z a0 ELc n0 ({ frames := 3, cells := 1, slots := 16, locals := 75 } : Room) "java/lang/String" jdk_42_method_150_code 5 (Option.none : Option FieldType) "<init>" _ h [s] 0 0 0 #[.val (.ref s), .val (.ref x), .val .null, .unset, .unset] []
  have sne : s ≠ x := ne_exa E X (by decide)
  refine go_aloadN d_b30_0 rfl rfl rfl ?_
  refine go_initO d_b30_1 rfl (wd hB 16 rfl) (wd hB 17 rfl) (wd hB 18 rfl) rfl (by decide) 0 rfl (by decide) ?_
  refine go_aloadN d_b30_4 rfl rfl rfl ?_
  refine go_virtual x [] [] 0 d_b30_5 rfl X (wd hB 176 rfl) (wd hB 177 rfl) (nf_of (wd hB 179 rfl)) (wd hB 179 rfl) (wd hB 178 rfl) (wd hB 84 rfl) (wd hB 180 rfl) (c_gv hB Xv) (fun _ q => nomatch q) (lenOf pd_20 rfl) rfl rfl rfl (by decide) (by decide) (by decide) (by decide) (by decide) (fun v101 h102 s103 q104 => ?_)
  obtain ⟨rfl, rfl, rfl⟩ := q104
  show Go _ _ _ _ _ _ _ _ _ _ _ _ h [s] 0 0 8 #[.val (.ref s), .val (.ref x), .val .null, .unset, .unset] [(.ref d)]
  refine go_astoreN d_b30_8 rfl #[.val (.ref s), .val (.ref x), .val .null, .val (.ref d), .unset] rfl rfl ?_
  refine go_aloadN d_b30_9 rfl rfl rfl ?_
  refine go_virtual x [] [] 0 d_b30_10 rfl X (wd hB 181 rfl) (wd hB 182 rfl) (nf_cls (y := (⟨"java/lang/AbstractStringBuilder", "ensureCapacityInternal", "(I)V"⟩ : MethodName)) (z := (⟨"java/lang/AbstractStringBuilder", "length", "()I"⟩ : MethodName)) rfl (wd hB 111 rfl)) (wd hB 184 rfl) (wd hB 185 rfl) (wd hB 76 rfl) (wd hB 186 rfl) (c_sblen hB X Xn) (fun _ q => nomatch q) (lenOf pd_14 rfl) rfl rfl rfl (by decide) (by decide) (by decide) (by decide) (by decide) (fun v105 h106 s107 q108 => ?_)
  obtain ⟨rfl, rfl, rfl⟩ := q108
  show Go _ _ _ _ _ _ _ _ _ _ _ _ h [s] 0 0 13 #[.val (.ref s), .val (.ref x), .val .null, .val (.ref d), .unset] [(.int (Int32.ofNat n))]
  refine go_istore d_b30_13 rfl #[.val (.ref s), .val (.ref x), .val .null, .val (.ref d), .val (.int (Int32.ofNat n))] rfl ?_
  refine go_aloadN d_b30_15 rfl rfl rfl ?_
  refine go_virtual x [] [] 0 d_b30_16 rfl X (wd hB 189 rfl) (wd hB 114 rfl) (nf_of (wd hB 116 rfl)) (wd hB 116 rfl) (wd hB 115 rfl) (wd hB 84 rfl) (wd hB 117 rfl) (c_asbl hB Xc) (fun _ q => nomatch q) (lenOf pd_7 rfl) rfl rfl rfl (by decide) (by decide) (by decide) (by decide) (by decide) (fun v109 h110 s111 q112 => ?_)
  obtain ⟨rfl, rfl, rfl⟩ := q112
  show Go _ _ _ _ _ _ _ _ _ _ _ _ h [s] 0 0 19 #[.val (.ref s), .val (.ref x), .val .null, .val (.ref d), .val (.int (Int32.ofNat n))] [(.int 1)]
  refine go_if_eq_f d_b30_19 rfl (by decide) ?_
  have dne : d ≠ s := arv_ne_exa Xa E (wd hB 6 rfl)
  refine go_aloadN d_b30_22 rfl rfl rfl ?_
  refine go_iconst 0 d_b30_23 rfl (by decide) ?_
  refine go_putfield (ty := .byte) d_b30_24 rfl (wd hB 31 rfl) Via.refl F2 E (Or.inr ⟨(wd hB 32 rfl), rfl, rfl⟩) (wd hB 6 rfl) (by decide) (by decide) (by decide) (List.Mem.head _) ?_
  intro h113 W114
  have F115 := Fld.same W114 F2
  refine go_aloadN d_b30_27 rfl rfl rfl ?_
  refine go_aloadN d_b30_28 rfl rfl rfl ?_
  refine go_iconst 0 d_b30_29 rfl (by decide) ?_
  refine go_iload d_b30_30 rfl rfl ?_
  have F116 := (Arv.other Xa W114 dne)
  have hcor := c_cor (l := l) (n0 := n0) hB bs (by omega) 0 n (by omega) (by omega) (fun q => by omega) F116
  rw [Nat.zero_add] at hcor
  refine go_static [(.ref d), (.int 0), (.int (Int32.ofNat n))] [(.ref s)] 1 d_b30_32 rfl (wd hB 190 rfl) (wd hB 191 rfl) (wd hB 192 rfl) (wd hB 193 rfl) hcor (fun _ q => nomatch q) (lenOf pd_10 rfl) rfl rfl rfl (by decide) (by decide) (by decide) (by decide) (by decide) (fun v117 h118 s119 q120 => ?_)
  obtain ⟨d', k', rfl, rfl, q1, q2, q3⟩ := q120
  rw [List.drop_zero] at q3
  show Go _ _ _ _ _ _ _ _ _ _ _ _ h118 [s] 1 16 35 #[.val (.ref s), .val (.ref x), .val .null, .val (.ref d), .val (.int (Int32.ofNat n))] [(.ref d'), (.ref s)]
  have F121 := (Fld.ext q1 (Fld.other W114 F1 (Or.inr (slot_ne (t := (.array .byte)) (t' := .byte) (Or.inr (wd hB 34 rfl) : Laid Z a0 "java/lang/String" "java/lang/String" "value" "[B") (Or.inr (wd hB 32 rfl) : Laid Z a0 "java/lang/String" "java/lang/String" "coder" "B") (by decide) (by decide) (by decide)))))
  have F122 := (Exa.ext q1 (Exa.wr W114 E))
  refine go_putfield (ty := (.array .byte)) d_b30_35 rfl (wd hB 33 rfl) Via.refl F121 F122 (Or.inr ⟨(wd hB 34 rfl), rfl, rfl⟩) (wd hB 6 rfl) (by decide) rfl rfl (List.Mem.head _) ?_
  intro h123 W124
  have F125 := Fld.same W124 F121
  refine go_goto (pt := 97) d_b30_38 (by decide) (by decide) ?_
  have F126 := (Exa.wr W124 F122)
  have F127 := (Fld.other W124 (Fld.ext q1 F115) (Or.inr (slot_ne (t := .byte) (t' := (.array .byte)) (Or.inr (wd hB 32 rfl) : Laid Z a0 "java/lang/String" "java/lang/String" "coder" "B") (Or.inr (wd hB 34 rfl) : Laid Z a0 "java/lang/String" "java/lang/String" "value" "[B") (by decide) (by decide) (by decide))))
  have F128 := (Arv.other q3 W124 (Ne.symm (Nat.ne_of_lt (Nat.lt_of_lt_of_le F115.lt q2))))
  refine go_ret d_b30_97 [] rfl (by decide) (by decide) (fun _ q => nomatch q) ?_
  exact ⟨_, _, rfl, rfl, ((((Keep.refl h [s]).wr W114 (Or.inl (List.Mem.head _))).ext q1).wr W124 (Or.inl (List.Mem.head _))), (Nat.le_trans (Nat.le_of_eq W114.size.symm) q2), F126, F127, F125, F128⟩
set_option maxRecDepth 65536 in
set_option maxHeartbeats 4000000 in
theorem c_ns1 {l : Launch} {Z : State} {a0 : Array Value} {n0 : Nat} (hB : Base Z a0) {x d : Addr} {k : ClassId} (bs : List Int32) (hb : bs.length = 16) (n : Nat) (hn : n < 16) {s : Addr} {h : Heap} (X : Exa Z h x "java/lang/StringBuilder") (Xv : Fld Z h x "java/lang/AbstractStringBuilder" "value" "[B" (.ref d)) (Xc : Fld Z h x "java/lang/AbstractStringBuilder" "coder" "B" (.int 0)) (Xn : Fld Z h x "java/lang/AbstractStringBuilder" "count" "I" (.int (Int32.ofNat n))) (Xa : Arv Z h d k .byte (Int32.ofNat bs.length) (lo8s bs) (.int 0)) (E : Exa Z h s "java/lang/String") (F1 : Fld Z h s "java/lang/String" "value" "[B" .null) (F2 : Fld Z h s "java/lang/String" "coder" "B" (.int 0)) :
    Con l Z ELc n0 (⟨"java/lang/String", "<init>", "(Ljava/lang/StringBuilder;)V"⟩ : MethodName) jdk_42_method_53_code 2 (Option.none : Option FieldType) [] ({ frames := 4, cells := 1, slots := 16, locals := 91 } : Room) #[.ref s, .ref x] h [s] (fun v h' sf' => ∃ d' k', v = none ∧ sf' = [] ∧ Keep h h' [s] ∧ h.size ≤ d' ∧ Exa Z h' s "java/lang/String" ∧ Fld Z h' s "java/lang/String" "coder" "B" (.int 0) ∧ Fld Z h' s "java/lang/String" "value" "[B" (.ref d') ∧ Arv Z h' d' k' .byte (Int32.ofNat (bs.take n).length) (lo8s (bs.take n)) (.int 0)) := by
  refine con_of (a0 := a0) (ls := #[.val (.ref s), .val (.ref x)]) (plainFor_of_name (by decide +kernel)) hB.2.1 (fun m => by first | (simp [entryFrame, mkF, argsToLocals, Value.category]; done) | (simp [entryFrame, mkF, argsToLocals, Value.category, maxLocals]; done) | rfl) ?_
  show Go l Z a0 ELc n0 ({ frames := 4, cells := 1, slots := 16, locals := 91 } : Room) "java/lang/String" jdk_42_method_53_code 2 (Option.none : Option FieldType) "<init>" _ h [s] 0 0 0 #[.val (.ref s), .val (.ref x)] []
  refine go_aloadN d_b29_0 rfl rfl rfl ?_
  refine go_aloadN d_b29_1 rfl rfl rfl ?_
  refine go_aconstNull d_b29_2 rfl ?_
  refine go_special s [(.ref x), .null] [] 0 d_b29_3 rfl rfl (wd hB 173 rfl) (wd hB 174 rfl) (wd hB 7 rfl) (wd hB 175 rfl) (c_ns2 hB bs hb n hn X Xv Xc Xn Xa E F1 F2) (allS (List.Mem.head _) (fun _ q => nomatch q)) (lenOf pd_21 rfl) rfl rfl rfl (by decide) (by decide) (by decide) (by decide) (by decide) (fun v101 h102 s103 q104 => ?_)
  obtain ⟨d', k', rfl, rfl, q1, q2⟩ := q104
  show Go _ _ _ _ _ _ _ _ _ _ _ _ h102 [s] 1 16 6 #[.val (.ref s), .val (.ref x)] []
  refine go_ret d_b29_6 [] rfl (by decide) (by decide) (fun _ q => nomatch q) ?_
  exact ⟨_, _, rfl, rfl, q1, q2⟩
set_option maxRecDepth 65536 in
set_option maxHeartbeats 4000000 in
theorem c_tos {l : Launch} {Z : State} {a0 : Array Value} {n0 : Nat} (hB : Base Z a0) {x d : Addr} {k : ClassId} (bs : List Int32) (hb : bs.length = 16) (n : Nat) (hn : n < 16) {h : Heap} (X : Exa Z h x "java/lang/StringBuilder") (Xv : Fld Z h x "java/lang/AbstractStringBuilder" "value" "[B" (.ref d)) (Xc : Fld Z h x "java/lang/AbstractStringBuilder" "coder" "B" (.int 0)) (Xn : Fld Z h x "java/lang/AbstractStringBuilder" "count" "I" (.int (Int32.ofNat n))) (Xa : Arv Z h d k .byte (Int32.ofNat bs.length) (lo8s bs) (.int 0)) :
    Con l Z ELc n0 (⟨"java/lang/StringBuilder", "toString", "()Ljava/lang/String;"⟩ : MethodName) jdk_67_method_42_code 1 (Option.some (FieldType.object "java/lang/String")) [] ({ frames := 5, cells := 2, slots := 20, locals := 105 } : Room) #[.ref x] h [] (fun v h' sf' => ∃ s d' k', v = some (.ref s) ∧ sf' = [] ∧ Ext h h' ∧ h.size ≤ s ∧ h.size ≤ d' ∧ Exa Z h' s "java/lang/String" ∧ Fld Z h' s "java/lang/String" "coder" "B" (.int 0) ∧ Fld Z h' s "java/lang/String" "value" "[B" (.ref d') ∧ Arv Z h' d' k' .byte (Int32.ofNat (bs.take n).length) (lo8s (bs.take n)) (.int 0)) := by
  refine con_of (a0 := a0) (ls := #[.val (.ref x)]) (plainFor_of_name (by decide +kernel)) hB.2.1 (fun m => by first | (simp [entryFrame, mkF, argsToLocals, Value.category]; done) | (simp [entryFrame, mkF, argsToLocals, Value.category, maxLocals]; done) | rfl) ?_
  show Go l Z a0 ELc n0 ({ frames := 5, cells := 2, slots := 20, locals := 105 } : Room) "java/lang/StringBuilder" jdk_67_method_42_code 1 (Option.some (FieldType.object "java/lang/String")) "toString" _ h [] 0 0 0 #[.val (.ref x)] []
  refine go_new d_b28_0 rfl (wd hB 169 rfl) (wd hB 6 rfl) (wd hB 7 rfl) (by decide) (by decide) ?_
  intro h106 x101 hx102 E103 ⟨A104, D105⟩
  have F107 : Fld Z h106 x101 "java/lang/String" "coder" "B" (.int 0) := D105 (Or.inr (wd hB 32 rfl)) (ty := .byte) (by decide)
  have F108 : Fld Z h106 x101 "java/lang/String" "value" "[B" .null := D105 (Or.inr (wd hB 34 rfl)) (ty := (.array .byte)) (by decide)
  refine go_dup d_b28_3 rfl rfl ?_
  refine go_aloadN d_b28_4 rfl rfl rfl ?_
  have F109 := (Exa.ext E103 X)
  have F110 := (Fld.ext E103 Xv)
  have F111 := (Fld.ext E103 Xc)
  have F112 := (Fld.ext E103 Xn)
  have F113 := (Xa.ext E103)
  refine go_special x101 [(.ref x)] [(.ref x101)] 1 d_b28_5 rfl rfl (wd hB 170 rfl) (wd hB 171 rfl) (wd hB 7 rfl) (wd hB 172 rfl) (c_ns1 hB bs hb n hn F109 F110 F111 F112 F113 A104 F108 F107) (allS (List.Mem.head _) (fun _ q => nomatch q)) (lenOf pd_22 rfl) rfl rfl rfl (by decide) (by decide) (by decide) (by decide) (by decide) (fun v114 h115 s116 q117 => ?_)
  obtain ⟨d', k', rfl, rfl, q1, q2, q3⟩ := q117
  show Go _ _ _ _ _ _ _ _ _ _ _ _ h115 [x101] 2 20 8 #[.val (.ref x)] [(.ref x101)]
  refine go_retA d_b28_8 [] rfl rfl rfl rfl (by decide) (by decide) (fun _ q => nomatch q) ?_
  exact ⟨_, _, _, rfl, rfl, (ext_of_keep (((Keep.refl h []).ext E103).trans q1 (allS (Or.inr (Nat.le_of_eq hx102.symm)) all0))), (Nat.le_of_eq hx102.symm), (Nat.le_trans E103.1 q2), q3⟩
set_option maxRecDepth 65536 in
set_option maxHeartbeats 4000000 in
theorem c_abc {l : Launch} {Z : State} {a0 : Array Value} {n0 : Nat} (hB : Base Z a0) {y : Addr} {h : Heap} :
    Con l Z ELc n0 (⟨"java/util/AbstractCollection", "<init>", "()V"⟩ : MethodName) jdk_22_method_1_code 1 (Option.none : Option FieldType) [] ({ frames := 1, cells := 0, slots := 0, locals := 12 } : Room) #[.ref y] h [] (fun v h' sf' => v = none ∧ sf' = [] ∧ h = h') := by
  refine con_of (a0 := a0) (ls := #[.val (.ref y)]) (plainFor_of_name (by decide +kernel)) hB.2.1 (fun m => by first | (simp [entryFrame, mkF, argsToLocals, Value.category]; done) | (simp [entryFrame, mkF, argsToLocals, Value.category, maxLocals]; done) | rfl) ?_
  show Go l Z a0 ELc n0 ({ frames := 1, cells := 0, slots := 0, locals := 12 } : Room) "java/util/AbstractCollection" jdk_22_method_1_code 1 (Option.none : Option FieldType) "<init>" _ h [] 0 0 0 #[.val (.ref y)] []
  refine go_aloadN d_b10_0 rfl rfl rfl ?_
  refine go_initO d_b10_1 rfl (wd hB 53 rfl) (wd hB 17 rfl) (wd hB 18 rfl) rfl (by decide) 0 rfl (by decide) ?_
  refine go_ret d_b10_4 [] rfl (by decide) (by decide) (fun _ q => nomatch q) ?_
  exact ⟨rfl, rfl, rfl⟩
set_option maxRecDepth 65536 in
set_option maxHeartbeats 4000000 in
theorem c_abl {l : Launch} {Z : State} {a0 : Array Value} {n0 : Nat} (hB : Base Z a0) {y : Addr} {h : Heap} (Y : Exa Z h y "java/util/ArrayList") (Ym : Fld Z h y "java/util/AbstractList" "modCount" "I" (.int 0)) :
    Con l Z ELc n0 (⟨"java/util/AbstractList", "<init>", "()V"⟩ : MethodName) jdk_39_method_1_code 1 (Option.none : Option FieldType) [] ({ frames := 2, cells := 0, slots := 0, locals := 24 } : Room) #[.ref y] h [y] (fun v h' sf' => v = none ∧ sf' = [] ∧ Wr h h' y (RoadKit.slotOf Z "java/util/AbstractList" "modCount" "I") (.int 0)) := by
  refine con_of (a0 := a0) (ls := #[.val (.ref y)]) (plainFor_of_name (by decide +kernel)) hB.2.1 (fun m => by first | (simp [entryFrame, mkF, argsToLocals, Value.category]; done) | (simp [entryFrame, mkF, argsToLocals, Value.category, maxLocals]; done) | rfl) ?_
  show Go l Z a0 ELc n0 ({ frames := 2, cells := 0, slots := 0, locals := 24 } : Room) "java/util/AbstractList" jdk_39_method_1_code 1 (Option.none : Option FieldType) "<init>" _ h [y] 0 0 0 #[.val (.ref y)] []
  refine go_aloadN d_b9_0 rfl rfl rfl ?_
  refine go_special y [] [] 0 d_b9_1 rfl rfl (wd hB 47 rfl) (wd hB 48 rfl) (wd hB 51 rfl) (wd hB 52 rfl) (c_abc hB) (fun _ q => nomatch q) (lenOf pd_23 rfl) rfl rfl rfl (by decide) (by decide) (by decide) (by decide) (by decide) (fun v101 h102 s103 q104 => ?_)
  obtain ⟨rfl, rfl, rfl⟩ := q104
  show Go _ _ _ _ _ _ _ _ _ _ _ _ h [y] 0 0 4 #[.val (.ref y)] []
  refine go_aloadN d_b9_4 rfl rfl rfl ?_
  refine go_iconst 0 d_b9_5 rfl (by decide) ?_
  refine go_putfield (ty := .int) d_b9_6 rfl (wd hB 54 rfl) Via.refl Ym Y (Or.inl (wd hB 55 rfl)) (wd hB 36 rfl) (by decide) (by decide) (by decide) (List.Mem.head _) ?_
  intro h105 W106
  have F107 := Fld.same W106 Ym
  refine go_ret d_b9_9 [] rfl (by decide) (by decide) (fun _ q => nomatch q) ?_
  exact ⟨rfl, rfl, W106⟩
set_option maxRecDepth 65536 in
set_option maxHeartbeats 4000000 in
theorem c_ali {l : Launch} {Z : State} {a0 : Array Value} {n0 : Nat} (hB : Base Z a0) {y : Addr} {h : Heap} (Y : Exa Z h y "java/util/ArrayList") (Ym : Fld Z h y "java/util/AbstractList" "modCount" "I" (.int 0)) (Ys : Fld Z h y "java/util/ArrayList" "size" "I" (.int 0)) (Ye : Fld Z h y "java/util/ArrayList" "elementData" "[Ljava/lang/Object;" .null) :
    Con l Z ELc n0 (⟨"java/util/ArrayList", "<init>", "()V"⟩ : MethodName) jdk_38_method_2_code 1 (Option.none : Option FieldType) [] ({ frames := 3, cells := 0, slots := 0, locals := 36 } : Room) #[.ref y] h [y] (fun v h' sf' => ∃ de ke, v = none ∧ sf' = [] ∧ Keep h h' [y] ∧ Sta Z Z.heap "java/util/ArrayList" "DEFAULTCAPACITY_EMPTY_ELEMENTDATA" "[Ljava/lang/Object;" (.ref de) ∧ Arv Z h' de ke (.object "java/lang/Object") 0 [] .null ∧ Exa Z h' y "java/util/ArrayList" ∧ Fld Z h' y "java/util/AbstractList" "modCount" "I" (.int 0) ∧ Fld Z h' y "java/util/ArrayList" "size" "I" (.int 0) ∧ Fld Z h' y "java/util/ArrayList" "elementData" "[Ljava/lang/Object;" (.ref de)) := by
  refine con_of (a0 := a0) (ls := #[.val (.ref y)]) (plainFor_of_name (by decide +kernel)) hB.2.1 (fun m => by first | (simp [entryFrame, mkF, argsToLocals, Value.category]; done) | (simp [entryFrame, mkF, argsToLocals, Value.category, maxLocals]; done) | rfl) ?_
  show Go l Z a0 ELc n0 ({ frames := 3, cells := 0, slots := 0, locals := 36 } : Room) "java/util/ArrayList" jdk_38_method_2_code 1 (Option.none : Option FieldType) "<init>" _ h [y] 0 0 0 #[.val (.ref y)] []
  obtain ⟨de, ke, hSe, hAe⟩ := hB.2.2.2.2.2.1
  refine Go.old (fun hOld => ?_)
  have hAh := hAe.ext hOld.2
  have dne : de ≠ y := arv_ne_exa hAh Y (wd hB 36 rfl)
  refine go_aloadN d_b8_0 rfl rfl rfl ?_
  refine go_special y [] [] 0 d_b8_1 rfl rfl (wd hB 41 rfl) (wd hB 42 rfl) (wd hB 45 rfl) (wd hB 46 rfl) (c_abl hB Y Ym) (allS (List.Mem.head _) (fun _ q => nomatch q)) (lenOf pd_23 rfl) rfl rfl rfl (by decide) (by decide) (by decide) (by decide) (by decide) (fun v101 h102 s103 q104 => ?_)
  obtain ⟨rfl, rfl, W1⟩ := q104
  have Ym1 := Fld.same W1 Ym
  show Go _ _ _ _ _ _ _ _ _ _ _ _ h102 [y] 0 0 4 #[.val (.ref y)] []
  refine go_aloadN d_b8_4 rfl rfl rfl ?_
  refine go_getstatic d_b8_5 rfl (wd hB 56 rfl) Via.refl hSe ?_
  have F105 := (Fld.other W1 Ye (Or.inr (slot_ne (t := (.array (.object "java/lang/Object"))) (t' := .int) (Or.inl (wd hB 58 rfl) : Laid Z a0 "java/util/ArrayList" "java/util/ArrayList" "elementData" "[Ljava/lang/Object;") (Or.inl (wd hB 55 rfl) : Laid Z a0 "java/util/ArrayList" "java/util/AbstractList" "modCount" "I") (by decide) (by decide) (by decide))))
  have F106 := (Exa.wr W1 Y)
  refine go_putfield (ty := (.array (.object "java/lang/Object"))) d_b8_8 rfl (wd hB 57 rfl) Via.refl F105 F106 (Or.inl (wd hB 58 rfl)) (wd hB 36 rfl) (by decide) rfl rfl (List.Mem.head _) ?_
  intro h107 W108
  have F109 := Fld.same W108 F105
  have F110 := (Arv.other (Arv.other hAh W1 dne) W108 dne)
  have F111 := (Exa.wr W108 F106)
  have F112 := (Fld.other W108 Ym1 (Or.inr (slot_ne (t := .int) (t' := (.array (.object "java/lang/Object"))) (Or.inl (wd hB 55 rfl) : Laid Z a0 "java/util/ArrayList" "java/util/AbstractList" "modCount" "I") (Or.inl (wd hB 58 rfl) : Laid Z a0 "java/util/ArrayList" "java/util/ArrayList" "elementData" "[Ljava/lang/Object;") (by decide) (by decide) (by decide))))
  have F113 := (Fld.other W108 (Fld.other W1 Ys (Or.inr (slot_ne (t := .int) (t' := .int) (Or.inl (wd hB 73 rfl) : Laid Z a0 "java/util/ArrayList" "java/util/ArrayList" "size" "I") (Or.inl (wd hB 55 rfl) : Laid Z a0 "java/util/ArrayList" "java/util/AbstractList" "modCount" "I") (by decide) (by decide) (by decide)))) (Or.inr (slot_ne (t := .int) (t' := (.array (.object "java/lang/Object"))) (Or.inl (wd hB 73 rfl) : Laid Z a0 "java/util/ArrayList" "java/util/ArrayList" "size" "I") (Or.inl (wd hB 58 rfl) : Laid Z a0 "java/util/ArrayList" "java/util/ArrayList" "elementData" "[Ljava/lang/Object;") (by decide) (by decide) (by decide))))
  refine go_ret d_b8_11 [] rfl (by decide) (by decide) (fun _ q => nomatch q) ?_
  exact ⟨de, ke, rfl, rfl, (((Keep.refl h [y]).wr W1 (Or.inl (List.Mem.head _))).wr W108 (Or.inl (List.Mem.head _))), hSe, F110, F111, F112, F113, F109⟩
set_option maxRecDepth 65536 in
set_option maxHeartbeats 4000000 in
theorem c_max {l : Launch} {Z : State} {a0 : Array Value} {n0 : Nat} (hB : Base Z a0) {h : Heap} :
    Con l Z ELc n0 (⟨"java/lang/Math", "max", "(II)I"⟩ : MethodName) jdk_29_method_65_code 2 (Option.some FieldType.int) [] ({ frames := 0, cells := 0, slots := 0, locals := 0 } : Room) #[.int 10, .int 1] h [] (fun v h' sf' => v = some (.int 10) ∧ sf' = [] ∧ h = h') := by
  refine con_of (a0 := a0) (ls := #[.val (.int 10), .val (.int 1)]) (by decide +kernel) hB.2.1 (fun m => rfl) ?_
  show Go l Z a0 ELc n0 ({ frames := 0, cells := 0, slots := 0, locals := 0 } : Room) "java/lang/Math" jdk_29_method_65_code 2 (Option.some FieldType.int) "max" _ h [] 0 0 0 #[.val (.int 10), .val (.int 1)] []
  refine go_iloadN d_b50_0 rfl rfl ?_
  refine go_iloadN d_b50_1 rfl rfl ?_
  refine go_icmp_lt_f d_b50_2 rfl (by decide) ?_
  refine go_iloadN d_b50_5 rfl rfl ?_
  refine go_goto (pt := 10) d_b50_6 (by decide) (by decide) ?_
  refine go_retI d_b50_10 [] rfl (by decide) (by decide) (fun _ q => nomatch q) ?_
  exact ⟨rfl, rfl, rfl⟩
set_option maxRecDepth 65536 in
set_option maxHeartbeats 4000000 in
theorem c_gr1 {l : Launch} {Z : State} {a0 : Array Value} {n0 : Nat} (hB : Base Z a0) {de : Addr} {ke : ClassId} (hSe : Sta Z Z.heap "java/util/ArrayList" "DEFAULTCAPACITY_EMPTY_ELEMENTDATA" "[Ljava/lang/Object;" (.ref de)) {y : Addr} {h : Heap} (Ae : Arv Z h de ke (.object "java/lang/Object") 0 [] .null) (Y : Exa Z h y "java/util/ArrayList") (Ys : Fld Z h y "java/util/ArrayList" "size" "I" (.int 0)) (Ye : Fld Z h y "java/util/ArrayList" "elementData" "[Ljava/lang/Object;" (.ref de)) {md : Int32} (Ym : Fld Z h y "java/util/AbstractList" "modCount" "I" (.int md)) :
    Con l Z ELc n0 (⟨"java/util/ArrayList", "grow", "(I)[Ljava/lang/Object;"⟩ : MethodName) jdk_38_method_6_code 4 (Option.some (FieldType.array (FieldType.object "java/lang/Object"))) [] ({ frames := 1, cells := 1, slots := 10, locals := 14 } : Room) #[.ref y, .int 1] h [y] (fun v h' sf' => ∃ e kx, v = some (.ref e) ∧ sf' = [e] ∧ Keep h h' [y] ∧ h.size ≤ e ∧ Arv Z h' e kx (.object "java/lang/Object") 10 [.null, .null, .null, .null, .null, .null, .null, .null, .null, .null] .null ∧ Ovr Z kx "java/lang/Object" ∧ Exa Z h' y "java/util/ArrayList" ∧ Fld Z h' y "java/util/ArrayList" "size" "I" (.int 0) ∧ Fld Z h' y "java/util/ArrayList" "elementData" "[Ljava/lang/Object;" (.ref e) ∧ Fld Z h' y "java/util/AbstractList" "modCount" "I" (.int md)) := by
  refine con_of (a0 := a0) (ls := #[.val (.ref y), .val (.int 1), .unset, .unset]) (plainFor_of_name (by decide +kernel)) hB.2.1 (fun m => by first | (simp [entryFrame, mkF, argsToLocals, Value.category]; done) | (simp [entryFrame, mkF, argsToLocals, Value.category, maxLocals]; done) | rfl) ?_
  show Go l Z a0 ELc n0 ({ frames := 1, cells := 1, slots := 10, locals := 14 } : Room) "java/util/ArrayList" jdk_38_method_6_code 4 (Option.some (FieldType.array (FieldType.object "java/lang/Object"))) "grow" _ h [y] 0 0 0 #[.val (.ref y), .val (.int 1), .unset, .unset] []
  have dne : de ≠ y := arv_ne_exa Ae Y (wd hB 36 rfl)
  refine go_aloadN d_b49_0 rfl rfl rfl ?_
  refine go_getfield d_b49_1 rfl (wd hB 57 rfl) Via.refl Ye ?_
  refine go_alen d_b49_4 rfl Ae ?_
  refine go_istoreN d_b49_5 rfl #[.val (.ref y), .val (.int 1), .val (.int 0), .unset] rfl ?_
  refine go_iloadN d_b49_6 rfl rfl ?_
  refine go_if_gt_f d_b49_7 rfl (by decide) ?_
  refine go_aloadN d_b49_10 rfl rfl rfl ?_
  refine go_getfield d_b49_11 rfl (wd hB 57 rfl) Via.refl Ye ?_
  refine go_getstatic d_b49_14 rfl (wd hB 56 rfl) Via.refl hSe ?_
  refine go_acmp (pt := 45) true d_b49_17 rfl rfl (by simp) (by decide) (by decide) ?_
  refine go_aloadN d_b49_45 rfl rfl rfl ?_
  refine go_bipush 10 d_b49_46 rfl (by decide) ?_
  refine go_iloadN d_b49_48 rfl rfl ?_
  refine go_static [(.int 10), (.int 1)] [(.ref y)] 1 d_b49_49 rfl (wd hB 274 rfl) (wd hB 275 rfl) (wd hB 202 rfl) (wd hB 276 rfl) (c_max hB) (fun _ q => nomatch q) (lenOf pd_9 rfl) rfl rfl rfl (by decide) (by decide) (by decide) (by decide) (by decide) (fun v101 h102 s103 q104 => ?_)
  obtain ⟨rfl, rfl, rfl⟩ := q104
  show Go _ _ _ _ _ _ _ _ _ _ _ _ h [y] 0 0 52 #[.val (.ref y), .val (.int 1), .val (.int 0), .unset] [(.int 10), (.ref y)]
  refine go_anewarr (C := "java/lang/Object") (ad := "[Ljava/lang/Object;") 10 d_b49_52 rfl (wd hB 277 rfl) (wd hB 278 rfl) (by decide) (by decide) (by decide) (by decide) (by decide) (by decide) ?_
  intro h110 x105 hx106 E107 ⟨A108, k109, B111, O112⟩
  have B113 : Arv Z h110 x105 k109 (.object "java/lang/Object") 10 [.null, .null, .null, .null, .null, .null, .null, .null, .null, .null] .null := B111.pad (pad_rep [] .null 10)
  refine go_dupX1 d_b49_55 rfl rfl rfl ?_
  have F114 := (Fld.ext E107 Ye)
  have F115 := (Exa.ext E107 Y)
  refine go_putfield (ty := (.array (.object "java/lang/Object"))) d_b49_56 rfl (wd hB 57 rfl) Via.refl F114 F115 (Or.inl (wd hB 58 rfl)) (wd hB 36 rfl) (by decide) rfl rfl (List.Mem.tail _ (List.Mem.head _)) ?_
  intro h116 W117
  have F118 := Fld.same W117 F114
  have F119 := (Arv.other B113 W117 (Ne.symm (Nat.ne_of_lt (Nat.lt_of_lt_of_le Y.lt (Nat.le_of_eq hx106.symm)))))
  have F120 := (Exa.wr W117 F115)
  have F121 := (Fld.other W117 (Fld.ext E107 Ys) (Or.inr (slot_ne (t := .int) (t' := (.array (.object "java/lang/Object"))) (Or.inl (wd hB 73 rfl) : Laid Z a0 "java/util/ArrayList" "java/util/ArrayList" "size" "I") (Or.inl (wd hB 58 rfl) : Laid Z a0 "java/util/ArrayList" "java/util/ArrayList" "elementData" "[Ljava/lang/Object;") (by decide) (by decide) (by decide))))
  have F122 := (Fld.other W117 (Fld.ext E107 Ym) (Or.inr (slot_ne (t := .int) (t' := (.array (.object "java/lang/Object"))) (Or.inl (wd hB 55 rfl) : Laid Z a0 "java/util/ArrayList" "java/util/AbstractList" "modCount" "I") (Or.inl (wd hB 58 rfl) : Laid Z a0 "java/util/ArrayList" "java/util/ArrayList" "elementData" "[Ljava/lang/Object;") (by decide) (by decide) (by decide))))
  refine go_retA d_b49_59 [x105] rfl rfl rfl rfl (by decide) (by decide) (allS (List.Mem.head _) (fun _ q => nomatch q)) ?_
  exact ⟨x105, k109, rfl, rfl, (((Keep.refl h [y]).ext E107).wr W117 (Or.inl (List.Mem.head _))), (Nat.le_of_eq hx106.symm), F119, O112, F120, F121, F118, F122⟩
set_option maxRecDepth 65536 in
set_option maxHeartbeats 4000000 in
theorem c_gr0 {l : Launch} {Z : State} {a0 : Array Value} {n0 : Nat} (hB : Base Z a0) {de : Addr} {ke : ClassId} (hSe : Sta Z Z.heap "java/util/ArrayList" "DEFAULTCAPACITY_EMPTY_ELEMENTDATA" "[Ljava/lang/Object;" (.ref de)) {y : Addr} {h : Heap} (Ae : Arv Z h de ke (.object "java/lang/Object") 0 [] .null) (Y : Exa Z h y "java/util/ArrayList") (Ys : Fld Z h y "java/util/ArrayList" "size" "I" (.int 0)) (Ye : Fld Z h y "java/util/ArrayList" "elementData" "[Ljava/lang/Object;" (.ref de)) {md : Int32} (Ym : Fld Z h y "java/util/AbstractList" "modCount" "I" (.int md)) :
    Con l Z ELc n0 (⟨"java/util/ArrayList", "grow", "()[Ljava/lang/Object;"⟩ : MethodName) jdk_38_method_7_code 1 (Option.some (FieldType.array (FieldType.object "java/lang/Object"))) [] ({ frames := 2, cells := 1, slots := 10, locals := 29 } : Room) #[.ref y] h [y] (fun v h' sf' => ∃ e kx, v = some (.ref e) ∧ sf' = [e] ∧ Keep h h' [y] ∧ h.size ≤ e ∧ Arv Z h' e kx (.object "java/lang/Object") 10 [.null, .null, .null, .null, .null, .null, .null, .null, .null, .null] .null ∧ Ovr Z kx "java/lang/Object" ∧ Exa Z h' y "java/util/ArrayList" ∧ Fld Z h' y "java/util/ArrayList" "size" "I" (.int 0) ∧ Fld Z h' y "java/util/ArrayList" "elementData" "[Ljava/lang/Object;" (.ref e) ∧ Fld Z h' y "java/util/AbstractList" "modCount" "I" (.int md)) := by
  refine con_of (a0 := a0) (ls := #[.val (.ref y)]) (plainFor_of_name (by decide +kernel)) hB.2.1 (fun m => by first | (simp [entryFrame, mkF, argsToLocals, Value.category]; done) | (simp [entryFrame, mkF, argsToLocals, Value.category, maxLocals]; done) | rfl) ?_
  show Go l Z a0 ELc n0 ({ frames := 2, cells := 1, slots := 10, locals := 29 } : Room) "java/util/ArrayList" jdk_38_method_7_code 1 (Option.some (FieldType.array (FieldType.object "java/lang/Object"))) "grow" _ h [y] 0 0 0 #[.val (.ref y)] []
  have dne : de ≠ y := arv_ne_exa Ae Y (wd hB 36 rfl)
  refine go_aloadN d_b48_0 rfl rfl rfl ?_
  refine go_aloadN d_b48_1 rfl rfl rfl ?_
  refine go_getfield d_b48_2 rfl (wd hB 72 rfl) Via.refl Ys ?_
  refine go_iconst 1 d_b48_5 rfl (by decide) ?_
  refine go_iadd d_b48_6 rfl ?_
  rw [show (0 : Int32) + 1 = 1 from by decide]
  refine go_virtual y [(.int 1)] [] 0 d_b48_7 rfl Y (wd hB 269 rfl) (declares_of (wd hB 270 rfl) (wd hB 273 rfl)) (nf_of (wd hB 272 rfl)) (wd hB 272 rfl) (wd hB 270 rfl) (wd hB 37 rfl) (wd hB 273 rfl) (c_gr1 hB hSe Ae Y Ys Ye Ym) (allS (List.Mem.head _) (fun _ q => nomatch q)) (lenOf pd_24 rfl) rfl rfl rfl (by decide) (by decide) (by decide) (by decide) (by decide) (fun v101 h102 s103 q104 => ?_)
  obtain ⟨e, kx, rfl, rfl, q1, q2, q3, q4, q5, q6, q7, q8⟩ := q104
  show Go _ _ _ _ _ _ _ _ _ _ _ _ h102 [e, y] 1 10 10 #[.val (.ref y)] [(.ref e)]
  refine go_retA d_b48_10 [e] rfl rfl rfl rfl (by decide) (by decide) (allS (List.Mem.head _) (fun _ q => nomatch q)) ?_
  exact ⟨e, kx, rfl, rfl, q1, q2, q3, q4, q5, q6, q7, q8⟩
set_option maxRecDepth 65536 in
set_option maxHeartbeats 4000000 in
theorem c_add3a {l : Launch} {Z : State} {a0 : Array Value} {n0 : Nat} (hB : Base Z a0) {o : Addr} {de : Addr} {ke : ClassId} (hSe : Sta Z Z.heap "java/util/ArrayList" "DEFAULTCAPACITY_EMPTY_ELEMENTDATA" "[Ljava/lang/Object;" (.ref de)) {y : Addr} {h : Heap} (Ae : Arv Z h de ke (.object "java/lang/Object") 0 [] .null) (Y : Exa Z h y "java/util/ArrayList") (Ys : Fld Z h y "java/util/ArrayList" "size" "I" (.int 0)) (Ye : Fld Z h y "java/util/ArrayList" "elementData" "[Ljava/lang/Object;" (.ref de)) {md : Int32} (Ym : Fld Z h y "java/util/AbstractList" "modCount" "I" (.int md)) (Eo : Exa Z h o "com/example/atomic_lock/atomiclock/backend/HeldLock") :
    Con l Z ELc n0 (⟨"java/util/ArrayList", "add", "(Ljava/lang/Object;[Ljava/lang/Object;I)V"⟩ : MethodName) jdk_38_method_24_code 4 (Option.none : Option FieldType) [] ({ frames := 3, cells := 1, slots := 10, locals := 41 } : Room) #[.ref y, .ref o, .ref de, .int 0] h [y] (fun v h' sf' => ∃ e kx, v = none ∧ sf' = [e] ∧ Keep h h' [y] ∧ h.size ≤ e ∧ Arv Z h' e kx (.object "java/lang/Object") 10 [(.ref o), .null, .null, .null, .null, .null, .null, .null, .null, .null] .null ∧ Ovr Z kx "java/lang/Object" ∧ Exa Z h' y "java/util/ArrayList" ∧ Fld Z h' y "java/util/ArrayList" "size" "I" (.int 1) ∧ Fld Z h' y "java/util/ArrayList" "elementData" "[Ljava/lang/Object;" (.ref e) ∧ Fld Z h' y "java/util/AbstractList" "modCount" "I" (.int md)) := by
  refine con_of (a0 := a0) (ls := #[.val (.ref y), .val (.ref o), .val (.ref de), .val (.int 0)]) (plainFor_of_name (by decide +kernel)) hB.2.1 (fun m => by first | (simp [entryFrame, mkF, argsToLocals, Value.category]; done) | (simp [entryFrame, mkF, argsToLocals, Value.category, maxLocals]; done) | rfl) ?_
  show Go l Z a0 ELc n0 ({ frames := 3, cells := 1, slots := 10, locals := 41 } : Room) "java/util/ArrayList" jdk_38_method_24_code 4 (Option.none : Option FieldType) "add" _ h [y] 0 0 0 #[.val (.ref y), .val (.ref o), .val (.ref de), .val (.int 0)] []
  have dne : de ≠ y := arv_ne_exa Ae Y (wd hB 36 rfl)
  refine go_iloadN d_b47_0 rfl rfl ?_
  refine go_aloadN d_b47_1 rfl rfl rfl ?_
  refine go_alen d_b47_2 rfl Ae ?_
  refine go_icmp_ne_f d_b47_3 rfl rfl ?_
  refine go_aloadN d_b47_6 rfl rfl rfl ?_
  refine go_virtual y [] [] 0 d_b47_7 rfl Y (wd hB 264 rfl) (declares_of (wd hB 265 rfl) (wd hB 268 rfl)) (nf_of (wd hB 267 rfl)) (wd hB 267 rfl) (wd hB 265 rfl) (wd hB 37 rfl) (wd hB 268 rfl) (c_gr0 hB hSe Ae Y Ys Ye Ym) (allS (List.Mem.head _) (fun _ q => nomatch q)) (lenOf pd_25 rfl) rfl rfl rfl (by decide) (by decide) (by decide) (by decide) (by decide) (fun v101 h102 s103 q104 => ?_)
  obtain ⟨e, kx, rfl, rfl, q1, q2, q3, q4, q5, q6, q7, q8⟩ := q104
  show Go _ _ _ _ _ _ _ _ _ _ _ _ h102 [e, y] 1 10 10 #[.val (.ref y), .val (.ref o), .val (.ref de), .val (.int 0)] [(.ref e)]
  refine go_astoreN d_b47_10 rfl #[.val (.ref y), .val (.ref o), .val (.ref e), .val (.int 0)] rfl rfl ?_
  refine go_aloadN d_b47_11 rfl rfl rfl ?_
  refine go_iloadN d_b47_12 rfl rfl ?_
  refine go_aloadN d_b47_13 rfl rfl rfl ?_
  have F105 := (Eo.keep q1)
  refine go_aastore 0 d_b47_14 rfl q3 q4 (Ins.of_exa F105 (wd hB 279 rfl)) ⟨by decide, by decide⟩ (by decide) (by show 0 < 10; decide) (List.Mem.head _) ?_
  intro h106 W107 B108
  have B109 : Arv Z h106 e kx (.object "java/lang/Object") 10 [(.ref o), .null, .null, .null, .null, .null, .null, .null, .null, .null] .null := B108
  refine go_aloadN d_b47_15 rfl rfl rfl ?_
  refine go_iloadN d_b47_16 rfl rfl ?_
  refine go_iconst 1 d_b47_17 rfl (by decide) ?_
  refine go_iadd d_b47_18 rfl ?_
  rw [show (0 : Int32) + 1 = 1 from by decide]
  have F110 := (Fld.other W107 q6 (Or.inl (Nat.ne_of_lt (Nat.lt_of_lt_of_le Y.lt q2))))
  have F111 := (Exa.wr W107 q5)
  refine go_putfield (ty := .int) d_b47_19 rfl (wd hB 72 rfl) Via.refl F110 F111 (Or.inl (wd hB 73 rfl)) (wd hB 36 rfl) (by decide) (by decide) (by decide) (List.Mem.tail _ (List.Mem.head _)) ?_
  intro h112 W113
  have F114 := Fld.same W113 F110
  have F115 := (Arv.other B109 W113 (Ne.symm (Nat.ne_of_lt (Nat.lt_of_lt_of_le Y.lt q2))))
  have F116 := (Exa.wr W113 F111)
  have F117 := (Fld.other W113 (Fld.other W107 q7 (Or.inl (Nat.ne_of_lt (Nat.lt_of_lt_of_le Y.lt q2)))) (Or.inr (slot_ne (t := (.array (.object "java/lang/Object"))) (t' := .int) (Or.inl (wd hB 58 rfl) : Laid Z a0 "java/util/ArrayList" "java/util/ArrayList" "elementData" "[Ljava/lang/Object;") (Or.inl (wd hB 73 rfl) : Laid Z a0 "java/util/ArrayList" "java/util/ArrayList" "size" "I") (by decide) (by decide) (by decide))))
  have F118 := (Fld.other W113 (Fld.other W107 q8 (Or.inl (Nat.ne_of_lt (Nat.lt_of_lt_of_le Y.lt q2)))) (Or.inr (slot_ne (t := .int) (t' := .int) (Or.inl (wd hB 55 rfl) : Laid Z a0 "java/util/ArrayList" "java/util/AbstractList" "modCount" "I") (Or.inl (wd hB 73 rfl) : Laid Z a0 "java/util/ArrayList" "java/util/ArrayList" "size" "I") (by decide) (by decide) (by decide))))
  refine go_ret d_b47_22 [e] rfl (by decide) (by decide) (allS (List.Mem.head _) (fun _ q => nomatch q)) ?_
  exact ⟨e, kx, rfl, rfl, ((((Keep.refl h [y]).trans q1 (allS (Or.inl (List.Mem.head _)) all0)).wr W107 (Or.inr q2)).wr W113 (Or.inl (List.Mem.head _))), q2, F115, q4, F116, F114, F117, F118⟩
set_option maxRecDepth 65536 in
set_option maxHeartbeats 4000000 in
theorem c_adda {l : Launch} {Z : State} {a0 : Array Value} {n0 : Nat} (hB : Base Z a0) {o : Addr} {de : Addr} {ke : ClassId} (hSe : Sta Z Z.heap "java/util/ArrayList" "DEFAULTCAPACITY_EMPTY_ELEMENTDATA" "[Ljava/lang/Object;" (.ref de)) {y : Addr} {h : Heap} (Ae : Arv Z h de ke (.object "java/lang/Object") 0 [] .null) (Y : Exa Z h y "java/util/ArrayList") (Ys : Fld Z h y "java/util/ArrayList" "size" "I" (.int 0)) (Ye : Fld Z h y "java/util/ArrayList" "elementData" "[Ljava/lang/Object;" (.ref de)) {md : Int32} (Ym : Fld Z h y "java/util/AbstractList" "modCount" "I" (.int md)) (Eo : Exa Z h o "com/example/atomic_lock/atomiclock/backend/HeldLock") :
    Con l Z ELc n0 (⟨"java/util/ArrayList", "add", "(Ljava/lang/Object;)Z"⟩ : MethodName) jdk_38_method_25_code 2 (Option.some FieldType.boolean) [] ({ frames := 4, cells := 1, slots := 10, locals := 56 } : Room) #[.ref y, .ref o] h [y] (fun v h' sf' => ∃ e kx, v = some (.int 1) ∧ sf' = [e] ∧ Keep h h' [y] ∧ h.size ≤ e ∧ Arv Z h' e kx (.object "java/lang/Object") 10 [(.ref o), .null, .null, .null, .null, .null, .null, .null, .null, .null] .null ∧ Ovr Z kx "java/lang/Object" ∧ Exa Z h' y "java/util/ArrayList" ∧ Fld Z h' y "java/util/ArrayList" "size" "I" (.int 1) ∧ Fld Z h' y "java/util/ArrayList" "elementData" "[Ljava/lang/Object;" (.ref e) ∧ Fld Z h' y "java/util/AbstractList" "modCount" "I" (.int (md + 1))) := by
  refine con_of (a0 := a0) (ls := #[.val (.ref y), .val (.ref o)]) (plainFor_of_name (by decide +kernel)) hB.2.1 (fun m => by first | (simp [entryFrame, mkF, argsToLocals, Value.category]; done) | (simp [entryFrame, mkF, argsToLocals, Value.category, maxLocals]; done) | rfl) ?_
  show Go l Z a0 ELc n0 ({ frames := 4, cells := 1, slots := 10, locals := 56 } : Room) "java/util/ArrayList" jdk_38_method_25_code 2 (Option.some FieldType.boolean) "add" _ h [y] 0 0 0 #[.val (.ref y), .val (.ref o)] []
  have dne : de ≠ y := arv_ne_exa Ae Y (wd hB 36 rfl)
  refine go_aloadN d_b46_0 rfl rfl rfl ?_
  refine go_dup d_b46_1 rfl rfl ?_
  refine go_getfield d_b46_2 rfl (wd hB 257 rfl) (Via.of (wd hB 258 rfl)) Ym ?_
  refine go_iconst 1 d_b46_5 rfl (by decide) ?_
  refine go_iadd d_b46_6 rfl ?_
  refine go_putfield (ty := .int) d_b46_7 rfl (wd hB 257 rfl) (Via.of (wd hB 258 rfl)) Ym Y (Or.inl (wd hB 55 rfl)) (wd hB 36 rfl) (by decide) rfl rfl (List.Mem.head _) ?_
  intro h101 W102
  have F103 := Fld.same W102 Ym
  refine go_aloadN d_b46_10 rfl rfl rfl ?_
  refine go_aloadN d_b46_11 rfl rfl rfl ?_
  refine go_aloadN d_b46_12 rfl rfl rfl ?_
  have F104 := (Fld.other W102 Ye (Or.inr (slot_ne (t := (.array (.object "java/lang/Object"))) (t' := .int) (Or.inl (wd hB 58 rfl) : Laid Z a0 "java/util/ArrayList" "java/util/ArrayList" "elementData" "[Ljava/lang/Object;") (Or.inl (wd hB 55 rfl) : Laid Z a0 "java/util/ArrayList" "java/util/AbstractList" "modCount" "I") (by decide) (by decide) (by decide))))
  refine go_getfield d_b46_13 rfl (wd hB 57 rfl) Via.refl F104 ?_
  refine go_aloadN d_b46_16 rfl rfl rfl ?_
  have F105 := (Fld.other W102 Ys (Or.inr (slot_ne (t := .int) (t' := .int) (Or.inl (wd hB 73 rfl) : Laid Z a0 "java/util/ArrayList" "java/util/ArrayList" "size" "I") (Or.inl (wd hB 55 rfl) : Laid Z a0 "java/util/ArrayList" "java/util/AbstractList" "modCount" "I") (by decide) (by decide) (by decide))))
  refine go_getfield d_b46_17 rfl (wd hB 72 rfl) Via.refl F105 ?_
  have F106 := (Arv.other Ae W102 dne)
  have F107 := (Exa.wr W102 Y)
  have F108 := (Exa.wr W102 Eo)
  refine go_virtual y [(.ref o), (.ref de), (.int 0)] [] 0 d_b46_20 rfl F107 (wd hB 259 rfl) (declares_of (wd hB 260 rfl) (wd hB 263 rfl)) (nf_of (wd hB 262 rfl)) (wd hB 262 rfl) (wd hB 260 rfl) (wd hB 37 rfl) (wd hB 263 rfl) (c_add3a hB hSe F106 F107 F105 F104 F103 F108) (allS (List.Mem.head _) (fun _ q => nomatch q)) (lenOf pd_26 rfl) rfl rfl rfl (by decide) (by decide) (by decide) (by decide) (by decide) (fun v109 h110 s111 q112 => ?_)
  obtain ⟨e, kx, rfl, rfl, q1, q2, q3, q4, q5⟩ := q112
  show Go _ _ _ _ _ _ _ _ _ _ _ _ h110 [e, y] 1 10 23 #[.val (.ref y), .val (.ref o)] []
  refine go_iconst 1 d_b46_23 rfl (by decide) ?_
  refine go_retN (t := .boolean) d_b46_24 [e] rfl (by simp) (by decide) (by decide) (allS (List.Mem.head _) (fun _ q => nomatch q)) ?_
  exact ⟨e, kx, by decide, rfl, (((Keep.refl h [y]).wr W102 (Or.inl (List.Mem.head _))).trans q1 (allS (Or.inl (List.Mem.head _)) all0)), (Nat.le_trans (Nat.le_of_eq W102.size.symm) q2), q3, q4, q5⟩
set_option maxRecDepth 65536 in
set_option maxHeartbeats 4000000 in
theorem c_add3n {l : Launch} {Z : State} {a0 : Array Value} {n0 : Nat} (hB : Base Z a0) {y : Addr} {o e : Addr} {kx : ClassId} (i : Nat) (hi : i < 9) (vs : List Value) (hvl : vs.length = 10) (O : Ovr Z kx "java/lang/Object") (hey : e ≠ y) {h : Heap} (Y : Exa Z h y "java/util/ArrayList") (Ys : Fld Z h y "java/util/ArrayList" "size" "I" (.int (Int32.ofNat i))) (Ye : Fld Z h y "java/util/ArrayList" "elementData" "[Ljava/lang/Object;" (.ref e)) {md : Int32} (Ym : Fld Z h y "java/util/AbstractList" "modCount" "I" (.int md)) (Ax : Arv Z h e kx (.object "java/lang/Object") 10 vs .null) (Eo : Exa Z h o "com/example/atomic_lock/atomiclock/backend/HeldLock") :
    Con l Z ELc n0 (⟨"java/util/ArrayList", "add", "(Ljava/lang/Object;[Ljava/lang/Object;I)V"⟩ : MethodName) jdk_38_method_24_code 4 (Option.none : Option FieldType) [] ({ frames := 0, cells := 0, slots := 0, locals := 0 } : Room) #[.ref y, .ref o, .ref e, .int (Int32.ofNat i)] h [y, e] (fun v h' sf' => v = none ∧ sf' = [] ∧ Keep h h' [y, e] ∧ Arv Z h' e kx (.object "java/lang/Object") 10 (vs.set i (.ref o)) .null ∧ Exa Z h' y "java/util/ArrayList" ∧ Fld Z h' y "java/util/ArrayList" "size" "I" (.int (Int32.ofNat (i + 1))) ∧ Fld Z h' y "java/util/ArrayList" "elementData" "[Ljava/lang/Object;" (.ref e) ∧ Fld Z h' y "java/util/AbstractList" "modCount" "I" (.int md)) := by
  refine con_of (a0 := a0) (ls := #[.val (.ref y), .val (.ref o), .val (.ref e), .val (.int (Int32.ofNat i))]) (plainFor_of_name (by decide +kernel)) hB.2.1 (fun m => by first | (simp [entryFrame, mkF, argsToLocals, Value.category]; done) | (simp [entryFrame, mkF, argsToLocals, Value.category, maxLocals]; done) | rfl) ?_
  show Go l Z a0 ELc n0 ({ frames := 0, cells := 0, slots := 0, locals := 0 } : Room) "java/util/ArrayList" jdk_38_method_24_code 4 (Option.none : Option FieldType) "add" _ h [y, e] 0 0 0 #[.val (.ref y), .val (.ref o), .val (.ref e), .val (.int (Int32.ofNat i))] []
  refine go_iloadN d_b47_0 rfl rfl ?_
  refine go_aloadN d_b47_1 rfl rfl rfl ?_
  refine go_alen d_b47_2 rfl Ax ?_
  refine go_icmp_ne_t (pt := 11) d_b47_3 (by decide) (by decide) (fun q => by have q := congrArg Int32.toInt q; rw [ofN_int (by omega)] at q; have e10 : (10 : Int32).toInt = 10 := rfl; omega) ?_
  refine go_aloadN d_b47_11 rfl rfl rfl ?_
  refine go_iloadN d_b47_12 rfl rfl ?_
  refine go_aloadN d_b47_13 rfl rfl rfl ?_
  refine go_aastore i d_b47_14 rfl Ax O (Ins.of_exa Eo (wd hB 279 rfl)) ⟨ofN_nneg (by omega), ofN_lt (n := 10) (by omega) (by decide)⟩ (ofN_cl (by omega)) (by omega) (List.Mem.tail _ (List.Mem.head _)) ?_
  intro h101 W102 B103
  have B104 : Arv Z h101 e kx (.object "java/lang/Object") 10 (vs.set i (.ref o)) .null := B103
  refine go_aloadN d_b47_15 rfl rfl rfl ?_
  refine go_iloadN d_b47_16 rfl rfl ?_
  refine go_iconst 1 d_b47_17 rfl (by decide) ?_
  refine go_iadd d_b47_18 rfl ?_
  rw [ofN_succ]
  have F105 := (Fld.other W102 Ys (Or.inl (Ne.symm hey)))
  have F106 := (Exa.wr W102 Y)
  refine go_putfield (ty := .int) d_b47_19 rfl (wd hB 72 rfl) Via.refl F105 F106 (Or.inl (wd hB 73 rfl)) (wd hB 36 rfl) (by decide) rfl rfl (List.Mem.head _) ?_
  intro h107 W108
  have F109 := Fld.same W108 F105
  have F110 := (Arv.other B104 W108 hey)
  have F111 := (Exa.wr W108 F106)
  have F112 := (Fld.other W108 (Fld.other W102 Ye (Or.inl (Ne.symm hey))) (Or.inr (slot_ne (t := (.array (.object "java/lang/Object"))) (t' := .int) (Or.inl (wd hB 58 rfl) : Laid Z a0 "java/util/ArrayList" "java/util/ArrayList" "elementData" "[Ljava/lang/Object;") (Or.inl (wd hB 73 rfl) : Laid Z a0 "java/util/ArrayList" "java/util/ArrayList" "size" "I") (by decide) (by decide) (by decide))))
  have F113 := (Fld.other W108 (Fld.other W102 Ym (Or.inl (Ne.symm hey))) (Or.inr (slot_ne (t := .int) (t' := .int) (Or.inl (wd hB 55 rfl) : Laid Z a0 "java/util/ArrayList" "java/util/AbstractList" "modCount" "I") (Or.inl (wd hB 73 rfl) : Laid Z a0 "java/util/ArrayList" "java/util/ArrayList" "size" "I") (by decide) (by decide) (by decide))))
  refine go_ret d_b47_22 [] rfl (by decide) (by decide) (fun _ q => nomatch q) ?_
  exact ⟨rfl, rfl, (((Keep.refl h [y, e]).wr W102 (Or.inl (List.Mem.tail _ (List.Mem.head _)))).wr W108 (Or.inl (List.Mem.head _))), F110, F111, F109, F112, F113⟩
set_option maxRecDepth 65536 in
set_option maxHeartbeats 4000000 in
theorem c_addn {l : Launch} {Z : State} {a0 : Array Value} {n0 : Nat} (hB : Base Z a0) {y : Addr} {o e : Addr} {kx : ClassId} (i : Nat) (hi : i < 9) (vs : List Value) (hvl : vs.length = 10) (O : Ovr Z kx "java/lang/Object") (hey : e ≠ y) {h : Heap} (Y : Exa Z h y "java/util/ArrayList") (Ys : Fld Z h y "java/util/ArrayList" "size" "I" (.int (Int32.ofNat i))) (Ye : Fld Z h y "java/util/ArrayList" "elementData" "[Ljava/lang/Object;" (.ref e)) {md : Int32} (Ym : Fld Z h y "java/util/AbstractList" "modCount" "I" (.int md)) (Ax : Arv Z h e kx (.object "java/lang/Object") 10 vs .null) (Eo : Exa Z h o "com/example/atomic_lock/atomiclock/backend/HeldLock") :
    Con l Z ELc n0 (⟨"java/util/ArrayList", "add", "(Ljava/lang/Object;)Z"⟩ : MethodName) jdk_38_method_25_code 2 (Option.some FieldType.boolean) [] ({ frames := 1, cells := 0, slots := 0, locals := 16 } : Room) #[.ref y, .ref o] h [y, e] (fun v h' sf' => v = some (.int 1) ∧ sf' = [] ∧ Keep h h' [y, e] ∧ Arv Z h' e kx (.object "java/lang/Object") 10 (vs.set i (.ref o)) .null ∧ Exa Z h' y "java/util/ArrayList" ∧ Fld Z h' y "java/util/ArrayList" "size" "I" (.int (Int32.ofNat (i + 1))) ∧ Fld Z h' y "java/util/ArrayList" "elementData" "[Ljava/lang/Object;" (.ref e) ∧ Fld Z h' y "java/util/AbstractList" "modCount" "I" (.int (md + 1))) := by
  refine con_of (a0 := a0) (ls := #[.val (.ref y), .val (.ref o)]) (plainFor_of_name (by decide +kernel)) hB.2.1 (fun m => by first | (simp [entryFrame, mkF, argsToLocals, Value.category]; done) | (simp [entryFrame, mkF, argsToLocals, Value.category, maxLocals]; done) | rfl) ?_
  show Go l Z a0 ELc n0 ({ frames := 1, cells := 0, slots := 0, locals := 16 } : Room) "java/util/ArrayList" jdk_38_method_25_code 2 (Option.some FieldType.boolean) "add" _ h [y, e] 0 0 0 #[.val (.ref y), .val (.ref o)] []
  refine go_aloadN d_b46_0 rfl rfl rfl ?_
  refine go_dup d_b46_1 rfl rfl ?_
  refine go_getfield d_b46_2 rfl (wd hB 257 rfl) (Via.of (wd hB 258 rfl)) Ym ?_
  refine go_iconst 1 d_b46_5 rfl (by decide) ?_
  refine go_iadd d_b46_6 rfl ?_
  refine go_putfield (ty := .int) d_b46_7 rfl (wd hB 257 rfl) (Via.of (wd hB 258 rfl)) Ym Y (Or.inl (wd hB 55 rfl)) (wd hB 36 rfl) (by decide) rfl rfl (List.Mem.head _) ?_
  intro h101 W102
  have F103 := Fld.same W102 Ym
  refine go_aloadN d_b46_10 rfl rfl rfl ?_
  refine go_aloadN d_b46_11 rfl rfl rfl ?_
  refine go_aloadN d_b46_12 rfl rfl rfl ?_
  have F104 := (Fld.other W102 Ye (Or.inr (slot_ne (t := (.array (.object "java/lang/Object"))) (t' := .int) (Or.inl (wd hB 58 rfl) : Laid Z a0 "java/util/ArrayList" "java/util/ArrayList" "elementData" "[Ljava/lang/Object;") (Or.inl (wd hB 55 rfl) : Laid Z a0 "java/util/ArrayList" "java/util/AbstractList" "modCount" "I") (by decide) (by decide) (by decide))))
  refine go_getfield d_b46_13 rfl (wd hB 57 rfl) Via.refl F104 ?_
  refine go_aloadN d_b46_16 rfl rfl rfl ?_
  have F105 := (Fld.other W102 Ys (Or.inr (slot_ne (t := .int) (t' := .int) (Or.inl (wd hB 73 rfl) : Laid Z a0 "java/util/ArrayList" "java/util/ArrayList" "size" "I") (Or.inl (wd hB 55 rfl) : Laid Z a0 "java/util/ArrayList" "java/util/AbstractList" "modCount" "I") (by decide) (by decide) (by decide))))
  refine go_getfield d_b46_17 rfl (wd hB 72 rfl) Via.refl F105 ?_
  have F106 := (Exa.wr W102 Y)
  have F107 := (Arv.other Ax W102 hey)
  have F108 := (Exa.wr W102 Eo)
  refine go_virtual y [(.ref o), (.ref e), (.int (Int32.ofNat i))] [] 0 d_b46_20 rfl F106 (wd hB 259 rfl) (declares_of (wd hB 260 rfl) (wd hB 263 rfl)) (nf_of (wd hB 262 rfl)) (wd hB 262 rfl) (wd hB 260 rfl) (wd hB 37 rfl) (wd hB 263 rfl) (c_add3n hB i hi vs hvl O hey F106 F105 F104 F103 F107 F108) (allS (List.Mem.head _) (allS (List.Mem.tail _ (List.Mem.head _)) (fun _ q => nomatch q))) (lenOf pd_26 rfl) rfl rfl rfl (by decide) (by decide) (by decide) (by decide) (by decide) (fun v109 h110 s111 q112 => ?_)
  obtain ⟨rfl, rfl, q1, q2⟩ := q112
  show Go _ _ _ _ _ _ _ _ _ _ _ _ h110 [y, e] 0 0 23 #[.val (.ref y), .val (.ref o)] []
  refine go_iconst 1 d_b46_23 rfl (by decide) ?_
  refine go_retN (t := .boolean) d_b46_24 [] rfl (by simp) (by decide) (by decide) (fun _ q => nomatch q) ?_
  exact ⟨by decide, rfl, (((Keep.refl h [y, e]).wr W102 (Or.inl (List.Mem.head _))).trans q1 (allS (Or.inl (List.Mem.head _)) (allS (Or.inl (List.Mem.tail _ (List.Mem.head _))) all0))), q2⟩
set_option maxRecDepth 65536 in
set_option maxHeartbeats 4000000 in
theorem c_size {l : Launch} {Z : State} {a0 : Array Value} {n0 : Nat} (hB : Base Z a0) {y : Addr} {z : Int32} {h : Heap} (Ys : Fld Z h y "java/util/ArrayList" "size" "I" (.int z)) :
    Con l Z ELc n0 (⟨"java/util/ArrayList", "size", "()I"⟩ : MethodName) jdk_38_method_8_code 1 (Option.some FieldType.int) [] ({ frames := 0, cells := 0, slots := 0, locals := 0 } : Room) #[.ref y] h [] (fun v h' sf' => v = some (.int z) ∧ sf' = [] ∧ h = h') := by
  refine con_of (a0 := a0) (ls := #[.val (.ref y)]) (plainFor_of_name (by decide +kernel)) hB.2.1 (fun m => by first | (simp [entryFrame, mkF, argsToLocals, Value.category]; done) | (simp [entryFrame, mkF, argsToLocals, Value.category, maxLocals]; done) | rfl) ?_
  show Go l Z a0 ELc n0 ({ frames := 0, cells := 0, slots := 0, locals := 0 } : Room) "java/util/ArrayList" jdk_38_method_8_code 1 (Option.some FieldType.int) "size" _ h [] 0 0 0 #[.val (.ref y)] []
  refine go_aloadN d_b12_0 rfl rfl rfl ?_
  refine go_getfield d_b12_1 rfl (wd hB 72 rfl) Via.refl Ys ?_
  refine go_retI d_b12_4 [] rfl (by decide) (by decide) (fun _ q => nomatch q) ?_
  exact ⟨rfl, rfl, rfl⟩
set_option maxRecDepth 65536 in
set_option maxHeartbeats 4000000 in
theorem c_oci {l : Launch} {Z : State} {a0 : Array Value} {n0 : Nat} (hB : Base Z a0) {h : Heap} :
    Con l Z ELc n0 (⟨"java/util/Objects", "checkIndex", "(II)I"⟩ : MethodName) jdk_31_method_17_code 2 (Option.some FieldType.int) [] ({ frames := 1, cells := 0, slots := 0, locals := 14 } : Room) #[.int 0, .int 1] h [] (fun v h' sf' => v = some (.int 0) ∧ sf' = [] ∧ h = h') := by
  refine con_of (a0 := a0) (ls := #[.val (.int 0), .val (.int 1)]) (plainFor_of_name (by decide +kernel)) hB.2.1 (fun m => by first | (simp [entryFrame, mkF, argsToLocals, Value.category]; done) | (simp [entryFrame, mkF, argsToLocals, Value.category, maxLocals]; done) | rfl) ?_
  show Go l Z a0 ELc n0 ({ frames := 1, cells := 0, slots := 0, locals := 14 } : Room) "java/util/Objects" jdk_31_method_17_code 2 (Option.some FieldType.int) "checkIndex" _ h [] 0 0 0 #[.val (.int 0), .val (.int 1)] []
  refine go_iloadN d_b56_0 rfl rfl ?_
  refine go_iloadN d_b56_1 rfl rfl ?_
  refine go_aconstNull d_b56_2 rfl ?_
  refine go_static [(.int 0), (.int 1), .null] [] 0 d_b56_3 rfl (wd hB 306 rfl) (wd hB 229 rfl) (wd hB 227 rfl) (wd hB 230 rfl) (c_pci hB 0 1 (by omega) (by omega) (fv := .null) rfl) (fun _ q => nomatch q) (lenOf pd_5 rfl) rfl rfl rfl (by decide) (by decide) (by decide) (by decide) (by decide) (fun v1 h2 s3 q4 => ?_)
  obtain ⟨rfl, rfl, rfl⟩ := q4
  show Go _ _ _ _ _ _ _ _ _ _ _ _ h [] 0 0 6 #[.val (.int 0), .val (.int 1)] [(.int 0)]
  refine go_retI d_b56_6 [] rfl (by decide) (by decide) (fun _ q => nomatch q) ?_
  exact ⟨rfl, rfl, rfl⟩
set_option maxRecDepth 65536 in
set_option maxHeartbeats 4000000 in
theorem c_ed {l : Launch} {Z : State} {a0 : Array Value} {n0 : Nat} (hB : Base Z a0) {y e o : Addr} {kx : ClassId} {h : Heap} (Y : Exa Z h y "java/util/ArrayList") (Ys : Fld Z h y "java/util/ArrayList" "size" "I" (.int 1)) (Ye : Fld Z h y "java/util/ArrayList" "elementData" "[Ljava/lang/Object;" (.ref e)) (Ax : Arv Z h e kx (.object "java/lang/Object") 10 [(.ref o), .null, .null, .null, .null, .null, .null, .null, .null, .null] .null) :
    Con l Z ELc n0 (⟨"java/util/ArrayList", "elementData", "(I)Ljava/lang/Object;"⟩ : MethodName) jdk_38_method_18_code 2 (Option.some (FieldType.object "java/lang/Object")) [] ({ frames := 0, cells := 0, slots := 0, locals := 0 } : Room) #[.ref y, .int 0] h [] (fun v h' sf' => v = some (.ref o) ∧ sf' = [] ∧ h = h') := by
  refine con_of (a0 := a0) (ls := #[.val (.ref y), .val (.int 0)]) (plainFor_of_name (by decide +kernel)) hB.2.1 (fun m => by first | (simp [entryFrame, mkF, argsToLocals, Value.category]; done) | (simp [entryFrame, mkF, argsToLocals, Value.category, maxLocals]; done) | rfl) ?_
  show Go l Z a0 ELc n0 ({ frames := 0, cells := 0, slots := 0, locals := 0 } : Room) "java/util/ArrayList" jdk_38_method_18_code 2 (Option.some (FieldType.object "java/lang/Object")) "elementData" _ h [] 0 0 0 #[.val (.ref y), .val (.int 0)] []
  refine go_aloadN d_b57_0 rfl rfl rfl ?_
  refine go_getfield d_b57_1 rfl (wd hB 57 rfl) Via.refl Ye ?_
  refine go_iloadN d_b57_4 rfl rfl ?_
  refine go_aaload (v := (.ref o)) 0 d_b57_5 rfl Ax ⟨by decide, by decide⟩ (by decide) rfl ?_
  refine go_retA d_b57_6 [] rfl rfl rfl rfl (by decide) (by decide) (fun _ q => nomatch q) ?_
  exact ⟨rfl, rfl, rfl⟩
set_option maxRecDepth 65536 in
set_option maxHeartbeats 4000000 in
theorem c_get {l : Launch} {Z : State} {a0 : Array Value} {n0 : Nat} (hB : Base Z a0) {y e o : Addr} {kx : ClassId} {h : Heap} (Y : Exa Z h y "java/util/ArrayList") (Ys : Fld Z h y "java/util/ArrayList" "size" "I" (.int 1)) (Ye : Fld Z h y "java/util/ArrayList" "elementData" "[Ljava/lang/Object;" (.ref e)) (Ax : Arv Z h e kx (.object "java/lang/Object") 10 [(.ref o), .null, .null, .null, .null, .null, .null, .null, .null, .null] .null) :
    Con l Z ELc n0 (⟨"java/util/ArrayList", "get", "(I)Ljava/lang/Object;"⟩ : MethodName) jdk_38_method_20_code 2 (Option.some (FieldType.object "java/lang/Object")) [] ({ frames := 2, cells := 0, slots := 0, locals := 27 } : Room) #[.ref y, .int 0] h [] (fun v h' sf' => v = some (.ref o) ∧ sf' = [] ∧ h = h') := by
  refine con_of (a0 := a0) (ls := #[.val (.ref y), .val (.int 0)]) (plainFor_of_name (by decide +kernel)) hB.2.1 (fun m => by first | (simp [entryFrame, mkF, argsToLocals, Value.category]; done) | (simp [entryFrame, mkF, argsToLocals, Value.category, maxLocals]; done) | rfl) ?_
  show Go l Z a0 ELc n0 ({ frames := 2, cells := 0, slots := 0, locals := 27 } : Room) "java/util/ArrayList" jdk_38_method_20_code 2 (Option.some (FieldType.object "java/lang/Object")) "get" _ h [] 0 0 0 #[.val (.ref y), .val (.int 0)] []
  refine go_iloadN d_b55_0 rfl rfl ?_
  refine go_aloadN d_b55_1 rfl rfl rfl ?_
  refine go_getfield d_b55_2 rfl (wd hB 72 rfl) Via.refl Ys ?_
  refine go_static [(.int 0), (.int 1)] [] 0 d_b55_5 rfl (wd hB 302 rfl) (wd hB 303 rfl) (wd hB 304 rfl) (wd hB 305 rfl) (c_oci hB) (fun _ q => nomatch q) (lenOf pd_9 rfl) rfl rfl rfl (by decide) (by decide) (by decide) (by decide) (by decide) (fun v101 h102 s103 q104 => ?_)
  obtain ⟨rfl, rfl, rfl⟩ := q104
  show Go _ _ _ _ _ _ _ _ _ _ _ _ h [] 0 0 8 #[.val (.ref y), .val (.int 0)] [(.int 0)]
  refine go_pop d_b55_8 rfl rfl ?_
  refine go_aloadN d_b55_9 rfl rfl rfl ?_
  refine go_iloadN d_b55_10 rfl rfl ?_
  refine go_virtual y [(.int 0)] [] 0 d_b55_11 rfl Y (wd hB 307 rfl) (wd hB 308 rfl) (nf_of (wd hB 310 rfl)) (wd hB 310 rfl) (wd hB 309 rfl) (wd hB 37 rfl) (wd hB 311 rfl) (c_ed hB Y Ys Ye Ax) (fun _ q => nomatch q) (lenOf pd_27 rfl) rfl rfl rfl (by decide) (by decide) (by decide) (by decide) (by decide) (fun v105 h106 s107 q108 => ?_)
  obtain ⟨rfl, rfl, rfl⟩ := q108
  show Go _ _ _ _ _ _ _ _ _ _ _ _ h [] 0 0 14 #[.val (.ref y), .val (.int 0)] [(.ref o)]
  refine go_retA d_b55_14 [] rfl rfl rfl rfl (by decide) (by decide) (fun _ q => nomatch q) ?_
  exact ⟨rfl, rfl, rfl⟩
set_option maxRecDepth 65536 in
set_option maxHeartbeats 4000000 in
theorem c_rec {l : Launch} {Z : State} {a0 : Array Value} {n0 : Nat} (hB : Base Z a0) {y : Addr} {h : Heap} :
    Con l Z ELc n0 (⟨"java/lang/Record", "<init>", "()V"⟩ : MethodName) jdk_30_method_1_code 1 (Option.none : Option FieldType) [] ({ frames := 1, cells := 0, slots := 0, locals := 12 } : Room) #[.ref y] h [] (fun v h' sf' => v = none ∧ sf' = [] ∧ h = h') := by
  refine con_of (a0 := a0) (ls := #[.val (.ref y)]) (plainFor_of_name (by decide +kernel)) hB.2.1 (fun m => by first | (simp [entryFrame, mkF, argsToLocals, Value.category]; done) | (simp [entryFrame, mkF, argsToLocals, Value.category, maxLocals]; done) | rfl) ?_
  show Go l Z a0 ELc n0 ({ frames := 1, cells := 0, slots := 0, locals := 12 } : Room) "java/lang/Record" jdk_30_method_1_code 1 (Option.none : Option FieldType) "<init>" _ h [] 0 0 0 #[.val (.ref y)] []
  refine go_aloadN d_b45_0 rfl rfl rfl ?_
  refine go_initO d_b45_1 rfl (wd hB 242 rfl) (wd hB 17 rfl) (wd hB 18 rfl) rfl (by decide) 0 rfl (by decide) ?_
  refine go_ret d_b45_4 [] rfl (by decide) (by decide) (fun _ q => nomatch q) ?_
  exact ⟨rfl, rfl, rfl⟩
set_option maxRecDepth 65536 in
set_option maxHeartbeats 4000000 in
theorem c_hli {l : Launch} {Z : State} {a0 : Array Value} {n0 : Nat} (hB : Base Z a0) {o s : Addr} {h : Heap} (Eo : Exa Z h o "com/example/atomic_lock/atomiclock/backend/HeldLock") (G1 : Fld Z h o "com/example/atomic_lock/atomiclock/backend/HeldLock" "name" "Ljava/lang/String;" .null) (G2 : Fld Z h o "com/example/atomic_lock/atomiclock/backend/HeldLock" "ownerToken" "Ljava/lang/String;" .null) (G3 : Fld Z h o "com/example/atomic_lock/atomiclock/backend/HeldLock" "fencingToken" "Ljava/util/OptionalLong;" .null) :
    Con l Z ELc n0 (⟨"com/example/atomic_lock/atomiclock/backend/HeldLock", "<init>", "(Ljava/lang/String;Ljava/lang/String;Ljava/util/OptionalLong;)V"⟩ : MethodName) prog_11_method_1_code 4 (Option.none : Option FieldType) [] ({ frames := 2, cells := 0, slots := 0, locals := 24 } : Room) #[.ref o, .ref s, .null, .null] h [o] (fun v h' sf' => v = none ∧ sf' = [] ∧ Keep h h' [o] ∧ Exa Z h' o "com/example/atomic_lock/atomiclock/backend/HeldLock" ∧ Fld Z h' o "com/example/atomic_lock/atomiclock/backend/HeldLock" "name" "Ljava/lang/String;" (.ref s)) := by
  refine con_of (a0 := a0) (ls := #[.val (.ref o), .val (.ref s), .val .null, .val .null]) (plainFor_of_name (by decide +kernel)) hB.2.1 (fun m => by first | (simp [entryFrame, mkF, argsToLocals, Value.category]; done) | (simp [entryFrame, mkF, argsToLocals, Value.category, maxLocals]; done) | rfl) ?_
  show Go l Z a0 ELc n0 ({ frames := 2, cells := 0, slots := 0, locals := 24 } : Room) "com/example/atomic_lock/atomiclock/backend/HeldLock" prog_11_method_1_code 4 (Option.none : Option FieldType) "<init>" _ h [o] 0 0 0 #[.val (.ref o), .val (.ref s), .val .null, .val .null] []
  refine go_aloadN d_b44_0 rfl rfl rfl ?_
  refine go_special o [] [] 0 d_b44_1 rfl rfl (wd hB 237 rfl) (wd hB 238 rfl) (wd hB 240 rfl) (wd hB 241 rfl) (c_rec hB) (fun _ q => nomatch q) (lenOf pd_23 rfl) rfl rfl rfl (by decide) (by decide) (by decide) (by decide) (by decide) (fun v101 h102 s103 q104 => ?_)
  obtain ⟨rfl, rfl, rfl⟩ := q104
  show Go _ _ _ _ _ _ _ _ _ _ _ _ h [o] 0 0 4 #[.val (.ref o), .val (.ref s), .val .null, .val .null] []
  refine go_aloadN d_b44_4 rfl rfl rfl ?_
  refine go_aloadN d_b44_5 rfl rfl rfl ?_
  refine go_putfield (ty := (.object "java/lang/String")) d_b44_6 rfl (wd hB 243 rfl) Via.refl G1 Eo (Or.inr ⟨(wd hB 244 rfl), rfl, rfl⟩) (wd hB 233 rfl) (by decide) rfl rfl (List.Mem.head _) ?_
  intro h105 W106
  have F107 := Fld.same W106 G1
  refine go_aloadN d_b44_9 rfl rfl rfl ?_
  refine go_aloadN d_b44_10 rfl rfl rfl ?_
  have F108 := (Fld.other W106 G2 (Or.inr (slot_ne (t := (.object "java/lang/String")) (t' := (.object "java/lang/String")) (Or.inr (wd hB 246 rfl) : Laid Z a0 "com/example/atomic_lock/atomiclock/backend/HeldLock" "com/example/atomic_lock/atomiclock/backend/HeldLock" "ownerToken" "Ljava/lang/String;") (Or.inr (wd hB 244 rfl) : Laid Z a0 "com/example/atomic_lock/atomiclock/backend/HeldLock" "com/example/atomic_lock/atomiclock/backend/HeldLock" "name" "Ljava/lang/String;") (by decide) (by decide) (by decide))))
  have F109 := (Exa.wr W106 Eo)
  refine go_putfield (ty := (.object "java/lang/String")) d_b44_11 rfl (wd hB 245 rfl) Via.refl F108 F109 (Or.inr ⟨(wd hB 246 rfl), rfl, rfl⟩) (wd hB 233 rfl) (by decide) rfl rfl (List.Mem.head _) ?_
  intro h110 W111
  have F112 := Fld.same W111 F108
  refine go_aloadN d_b44_14 rfl rfl rfl ?_
  refine go_aloadN d_b44_15 rfl rfl rfl ?_
  have F113 := (Fld.other W111 (Fld.other W106 G3 (Or.inr (slot_ne (t := (.object "java/util/OptionalLong")) (t' := (.object "java/lang/String")) (Or.inr (wd hB 248 rfl) : Laid Z a0 "com/example/atomic_lock/atomiclock/backend/HeldLock" "com/example/atomic_lock/atomiclock/backend/HeldLock" "fencingToken" "Ljava/util/OptionalLong;") (Or.inr (wd hB 244 rfl) : Laid Z a0 "com/example/atomic_lock/atomiclock/backend/HeldLock" "com/example/atomic_lock/atomiclock/backend/HeldLock" "name" "Ljava/lang/String;") (by decide) (by decide) (by decide)))) (Or.inr (slot_ne (t := (.object "java/util/OptionalLong")) (t' := (.object "java/lang/String")) (Or.inr (wd hB 248 rfl) : Laid Z a0 "com/example/atomic_lock/atomiclock/backend/HeldLock" "com/example/atomic_lock/atomiclock/backend/HeldLock" "fencingToken" "Ljava/util/OptionalLong;") (Or.inr (wd hB 246 rfl) : Laid Z a0 "com/example/atomic_lock/atomiclock/backend/HeldLock" "com/example/atomic_lock/atomiclock/backend/HeldLock" "ownerToken" "Ljava/lang/String;") (by decide) (by decide) (by decide))))
  have F114 := (Exa.wr W111 F109)
  refine go_putfield (ty := (.object "java/util/OptionalLong")) d_b44_16 rfl (wd hB 247 rfl) Via.refl F113 F114 (Or.inr ⟨(wd hB 248 rfl), rfl, rfl⟩) (wd hB 233 rfl) (by decide) rfl rfl (List.Mem.head _) ?_
  intro h115 W116
  have F117 := Fld.same W116 F113
  have F118 := (Exa.wr W116 F114)
  have F119 := (Fld.other W116 (Fld.other W111 F107 (Or.inr (slot_ne (t := (.object "java/lang/String")) (t' := (.object "java/lang/String")) (Or.inr (wd hB 244 rfl) : Laid Z a0 "com/example/atomic_lock/atomiclock/backend/HeldLock" "com/example/atomic_lock/atomiclock/backend/HeldLock" "name" "Ljava/lang/String;") (Or.inr (wd hB 246 rfl) : Laid Z a0 "com/example/atomic_lock/atomiclock/backend/HeldLock" "com/example/atomic_lock/atomiclock/backend/HeldLock" "ownerToken" "Ljava/lang/String;") (by decide) (by decide) (by decide)))) (Or.inr (slot_ne (t := (.object "java/lang/String")) (t' := (.object "java/util/OptionalLong")) (Or.inr (wd hB 244 rfl) : Laid Z a0 "com/example/atomic_lock/atomiclock/backend/HeldLock" "com/example/atomic_lock/atomiclock/backend/HeldLock" "name" "Ljava/lang/String;") (Or.inr (wd hB 248 rfl) : Laid Z a0 "com/example/atomic_lock/atomiclock/backend/HeldLock" "com/example/atomic_lock/atomiclock/backend/HeldLock" "fencingToken" "Ljava/util/OptionalLong;") (by decide) (by decide) (by decide))))
  refine go_ret d_b44_19 [] rfl (by decide) (by decide) (fun _ q => nomatch q) ?_
  exact ⟨rfl, rfl, ((((Keep.refl h [o]).wr W106 (Or.inl (List.Mem.head _))).wr W111 (Or.inl (List.Mem.head _))).wr W116 (Or.inl (List.Mem.head _))), F118, F119⟩
set_option maxRecDepth 65536 in
set_option maxHeartbeats 4000000 in
theorem c_hln {l : Launch} {Z : State} {a0 : Array Value} {n0 : Nat} (hB : Base Z a0) {o s : Addr} {h : Heap} (G1 : Fld Z h o "com/example/atomic_lock/atomiclock/backend/HeldLock" "name" "Ljava/lang/String;" (.ref s)) :
    Con l Z ELc n0 (⟨"com/example/atomic_lock/atomiclock/backend/HeldLock", "name", "()Ljava/lang/String;"⟩ : MethodName) prog_11_method_6_code 1 (Option.some (FieldType.object "java/lang/String")) [] ({ frames := 0, cells := 0, slots := 0, locals := 0 } : Room) #[.ref o] h [] (fun v h' sf' => v = some (.ref s) ∧ sf' = [] ∧ h = h') := by
  refine con_of (a0 := a0) (ls := #[.val (.ref o)]) (plainFor_of_name (by decide +kernel)) hB.2.1 (fun m => by first | (simp [entryFrame, mkF, argsToLocals, Value.category]; done) | (simp [entryFrame, mkF, argsToLocals, Value.category, maxLocals]; done) | rfl) ?_
  show Go l Z a0 ELc n0 ({ frames := 0, cells := 0, slots := 0, locals := 0 } : Room) "com/example/atomic_lock/atomiclock/backend/HeldLock" prog_11_method_6_code 1 (Option.some (FieldType.object "java/lang/String")) "name" _ h [] 0 0 0 #[.val (.ref o)] []
  refine go_aloadN d_b58_0 rfl rfl rfl ?_
  refine go_getfield d_b58_1 rfl (wd hB 243 rfl) Via.refl G1 ?_
  refine go_retA d_b58_4 [] rfl rfl rfl rfl (by decide) (by decide) (fun _ q => nomatch q) ?_
  exact ⟨rfl, rfl, rfl⟩
set_option maxRecDepth 65536 in
set_option maxHeartbeats 4000000 in
theorem c_ce {l : Launch} {Z : State} {a0 : Array Value} {n0 : Nat} (hB : Base Z a0) (c : Int32) (hc : isC c) {h : Heap} :
    Con l Z ELc n0 (⟨"java/lang/StringLatin1", "canEncode", "(C)Z"⟩ : MethodName) jdk_43_method_3_code 1 (Option.some FieldType.boolean) [] ({ frames := 0, cells := 0, slots := 0, locals := 0 } : Room) #[.int c] h [] (fun v h' sf' => v = some (.int 1) ∧ sf' = [] ∧ h = h') := by
  refine con_of (a0 := a0) (ls := #[.val (.int c)]) (plainFor_of_name (by decide +kernel)) hB.2.1 (fun m => by first | (simp [entryFrame, mkF, argsToLocals, Value.category]; done) | (simp [entryFrame, mkF, argsToLocals, Value.category, maxLocals]; done) | rfl) ?_
  show Go l Z a0 ELc n0 ({ frames := 0, cells := 0, slots := 0, locals := 0 } : Room) "java/lang/StringLatin1" jdk_43_method_3_code 1 (Option.some FieldType.boolean) "canEncode" _ h [] 0 0 0 #[.val (.int c)] []
  refine go_iloadN d_b52_0 rfl rfl ?_
  refine go_sipush 255 d_b52_1 rfl (by decide) ?_
  refine go_icmp_gt_f d_b52_4 rfl hc.le ?_
  refine go_iconst 1 d_b52_7 rfl (by decide) ?_
  refine go_goto (pt := 12) d_b52_8 (by decide) (by decide) ?_
  refine go_retN (t := .boolean) d_b52_12 [] rfl (by simp) (by decide) (by decide) (fun _ q => nomatch q) ?_
  exact ⟨by decide, rfl, rfl⟩
set_option maxRecDepth 65536 in
set_option maxHeartbeats 4000000 in
theorem c_tbc {l : Launch} {Z : State} {a0 : Array Value} {n0 : Nat} (hB : Base Z a0) (c : Int32) {h : Heap} :
    Con l Z ELc n0 (⟨"java/lang/StringLatin1", "toBytes", "(C)[B"⟩ : MethodName) jdk_43_method_46_code 1 (Option.some (FieldType.array FieldType.byte)) [] ({ frames := 0, cells := 1, slots := 1, locals := 0 } : Room) #[.int c] h [] (fun v h' sf' => ∃ d, v = some (.ref d) ∧ sf' = [] ∧ Ext h h') := by
  refine con_of (a0 := a0) (ls := #[.val (.int c)]) (plainFor_of_name (by decide +kernel)) hB.2.1 (fun m => by first | (simp [entryFrame, mkF, argsToLocals, Value.category]; done) | (simp [entryFrame, mkF, argsToLocals, Value.category, maxLocals]; done) | rfl) ?_
  show Go l Z a0 ELc n0 ({ frames := 0, cells := 1, slots := 1, locals := 0 } : Room) "java/lang/StringLatin1" jdk_43_method_46_code 1 (Option.some (FieldType.array FieldType.byte)) "toBytes" _ h [] 0 0 0 #[.val (.int c)] []
  refine go_iconst 1 d_b53_0 rfl (by decide) ?_
  refine go_newarr (ty := .byte) (ad := "[B") 1 d_b53_1 rfl rfl (wd hB 24 rfl) (by decide) (by decide) (by decide) (by decide) (by decide) (by decide) ?_
  intro h106 x101 hx102 E103 ⟨A104, k105, B107⟩
  have B108 : Arv Z h106 x101 k105 .byte 1 [(.int 0)] (.int 0) := B107.pad (pad_rep [] (.int 0) 1)
  refine go_dup d_b53_3 rfl rfl ?_
  refine go_iconst 0 d_b53_4 rfl (by decide) ?_
  refine go_iloadN d_b53_5 rfl rfl ?_
  refine go_i2b d_b53_6 rfl ?_
  refine go_bastore 0 d_b53_7 rfl B108 ⟨by decide, by decide⟩ (by decide) (by show 0 < 1; decide) (List.Mem.head _) ?_
  intro h109 W110 B111
  have B112 : Arv Z h109 x101 k105 .byte 1 [(.int c.toInt8.toInt32.toInt8.toInt32)] (.int 0) := B111
  refine go_retA d_b53_8 [] rfl rfl rfl rfl (by decide) (by decide) (fun _ q => nomatch q) ?_
  exact ⟨_, rfl, rfl, (ext_of_keep (((Keep.refl h []).ext E103).wr W110 (Or.inr (Nat.le_of_eq hx102.symm))))⟩
set_option maxRecDepth 65536 in
set_option maxHeartbeats 4000000 in
theorem c_bb {l : Launch} {Z : State} {a0 : Array Value} {n0 : Nat} (hB : Base Z a0) {x d : Addr} {h : Heap} (E : Exa Z h x "java/lang/String") (F1 : Fld Z h x "java/lang/String" "value" "[B" .null) (F2 : Fld Z h x "java/lang/String" "coder" "B" (.int 0)) :
    Con l Z ELc n0 (⟨"java/lang/String", "<init>", "([BB)V"⟩ : MethodName) jdk_42_method_151_code 3 (Option.none : Option FieldType) [] ({ frames := 1, cells := 0, slots := 0, locals := 12 } : Room) #[.ref x, .ref d, .int 0] h [x] (fun v h' sf' => v = none ∧ sf' = [] ∧ Keep h h' [x] ∧ Exa Z h' x "java/lang/String" ∧ Fld Z h' x "java/lang/String" "coder" "B" (.int 0) ∧ Fld Z h' x "java/lang/String" "value" "[B" (.ref d)) := by
  refine con_of (a0 := a0) (ls := #[.val (.ref x), .val (.ref d), .val (.int 0)]) (plainFor_of_name (by decide +kernel)) hB.2.1 (fun m => by first | (simp [entryFrame, mkF, argsToLocals, Value.category]; done) | (simp [entryFrame, mkF, argsToLocals, Value.category, maxLocals]; done) | rfl) ?_
  show Go l Z a0 ELc n0 ({ frames := 1, cells := 0, slots := 0, locals := 12 } : Room) "java/lang/String" jdk_42_method_151_code 3 (Option.none : Option FieldType) "<init>" _ h [x] 0 0 0 #[.val (.ref x), .val (.ref d), .val (.int 0)] []
  refine go_aloadN d_b54_0 rfl rfl rfl ?_
  refine go_initO d_b54_1 rfl (wd hB 16 rfl) (wd hB 17 rfl) (wd hB 18 rfl) rfl (by decide) 0 rfl (by decide) ?_
  refine go_aloadN d_b54_4 rfl rfl rfl ?_
  refine go_aloadN d_b54_5 rfl rfl rfl ?_
  refine go_putfield (ty := (.array .byte)) d_b54_6 rfl (wd hB 33 rfl) Via.refl F1 E (Or.inr ⟨(wd hB 34 rfl), rfl, rfl⟩) (wd hB 6 rfl) (by decide) rfl rfl (List.Mem.head _) ?_
  intro h101 W102
  have F103 := Fld.same W102 F1
  refine go_aloadN d_b54_9 rfl rfl rfl ?_
  refine go_iloadN d_b54_10 rfl rfl ?_
  have F104 := (Fld.other W102 F2 (Or.inr (slot_ne (t := .byte) (t' := (.array .byte)) (Or.inr (wd hB 32 rfl) : Laid Z a0 "java/lang/String" "java/lang/String" "coder" "B") (Or.inr (wd hB 34 rfl) : Laid Z a0 "java/lang/String" "java/lang/String" "value" "[B") (by decide) (by decide) (by decide))))
  have F105 := (Exa.wr W102 E)
  refine go_putfield (ty := .byte) d_b54_11 rfl (wd hB 31 rfl) Via.refl F104 F105 (Or.inr ⟨(wd hB 32 rfl), rfl, rfl⟩) (wd hB 6 rfl) (by decide) (by decide) (by decide) (List.Mem.head _) ?_
  intro h106 W107
  have F108 := Fld.same W107 F104
  have F109 := (Exa.wr W107 F105)
  have F110 := (Fld.other W107 F103 (Or.inr (slot_ne (t := (.array .byte)) (t' := .byte) (Or.inr (wd hB 34 rfl) : Laid Z a0 "java/lang/String" "java/lang/String" "value" "[B") (Or.inr (wd hB 32 rfl) : Laid Z a0 "java/lang/String" "java/lang/String" "coder" "B") (by decide) (by decide) (by decide))))
  refine go_ret d_b54_14 [] rfl (by decide) (by decide) (fun _ q => nomatch q) ?_
  exact ⟨rfl, rfl, (((Keep.refl h [x]).wr W102 (Or.inl (List.Mem.head _))).wr W107 (Or.inl (List.Mem.head _))), F109, F108, F110⟩
set_option maxRecDepth 65536 in
set_option maxHeartbeats 4000000 in
theorem c_vc {l : Launch} {Z : State} {a0 : Array Value} {n0 : Nat} (hB : Base Z a0) (c : Int32) (hc : isC c) {h : Heap} :
    Con l Z ELc n0 (⟨"java/lang/String", "valueOf", "(C)Ljava/lang/String;"⟩ : MethodName) jdk_42_method_139_code 1 (Option.some (FieldType.object "java/lang/String")) [] ({ frames := 2, cells := 2, slots := 5, locals := 27 } : Room) #[.int c] h [] (fun v h' sf' => ∃ s, v = some (.ref s) ∧ sf' = [] ∧ Ext h h') := by
  refine con_of (a0 := a0) (ls := #[.val (.int c)]) (plainFor_of_name (by decide +kernel)) hB.2.1 (fun m => by first | (simp [entryFrame, mkF, argsToLocals, Value.category]; done) | (simp [entryFrame, mkF, argsToLocals, Value.category, maxLocals]; done) | rfl) ?_
  show Go l Z a0 ELc n0 ({ frames := 2, cells := 2, slots := 5, locals := 27 } : Room) "java/lang/String" jdk_42_method_139_code 1 (Option.some (FieldType.object "java/lang/String")) "valueOf" _ h [] 0 0 0 #[.val (.int c)] []
  obtain ⟨cz, hS, hcz⟩ := hB.2.2.1
  refine go_getstatic d_b51_0 rfl (wd hB 19 rfl) Via.refl hS ?_
  refine go_if_eq_f d_b51_3 rfl hcz ?_
  refine go_iloadN d_b51_6 rfl rfl ?_
  refine go_static [(.int c)] [] 0 d_b51_7 rfl (wd hB 283 rfl) (wd hB 284 rfl) (wd hB 221 rfl) (wd hB 285 rfl) (c_ce hB c hc) (fun _ q => nomatch q) (lenOf pd_28 rfl) rfl rfl rfl (by decide) (by decide) (by decide) (by decide) (by decide) (fun v101 h102 s103 q104 => ?_)
  obtain ⟨rfl, rfl, rfl⟩ := q104
  show Go _ _ _ _ _ _ _ _ _ _ _ _ h [] 0 0 10 #[.val (.int c)] [(.int 1)]
  refine go_if_eq_f d_b51_10 rfl (by decide) ?_
  refine go_new d_b51_13 rfl (wd hB 286 rfl) (wd hB 6 rfl) (wd hB 7 rfl) (by decide) (by decide) ?_
  intro h110 x105 hx106 E107 ⟨A108, D109⟩
  have F111 : Fld Z h110 x105 "java/lang/String" "coder" "B" (.int 0) := D109 (Or.inr (wd hB 32 rfl)) (ty := .byte) (by decide)
  have F112 : Fld Z h110 x105 "java/lang/String" "value" "[B" .null := D109 (Or.inr (wd hB 34 rfl)) (ty := (.array .byte)) (by decide)
  refine go_dup d_b51_16 rfl rfl ?_
  refine go_iloadN d_b51_17 rfl rfl ?_
  refine go_static [(.int c)] [(.ref x105), (.ref x105)] 2 d_b51_18 rfl (wd hB 287 rfl) (wd hB 288 rfl) (wd hB 221 rfl) (wd hB 289 rfl) (c_tbc hB c) (fun _ q => nomatch q) (lenOf pd_29 rfl) rfl rfl rfl (by decide) (by decide) (by decide) (by decide) (by decide) (fun v113 h114 s115 q116 => ?_)
  obtain ⟨dd, rfl, rfl, q1⟩ := q116
  show Go _ _ _ _ _ _ _ _ _ _ _ _ h114 [x105] 2 5 21 #[.val (.int c)] [(.ref dd), (.ref x105), (.ref x105)]
  refine go_iconst 0 d_b51_21 rfl (by decide) ?_
  have F117 := (Exa.ext q1 A108)
  have F118 := (Fld.ext q1 F112)
  have F119 := (Fld.ext q1 F111)
  refine go_special x105 [(.ref dd), (.int 0)] [(.ref x105)] 1 d_b51_22 rfl rfl (wd hB 290 rfl) (wd hB 291 rfl) (wd hB 7 rfl) (wd hB 292 rfl) (c_bb hB F117 F118 F119) (allS (List.Mem.head _) (fun _ q => nomatch q)) (lenOf pd_30 rfl) rfl rfl rfl (by decide) (by decide) (by decide) (by decide) (by decide) (fun v120 h121 s122 q123 => ?_)
  obtain ⟨rfl, rfl, q2, -⟩ := q123
  show Go _ _ _ _ _ _ _ _ _ _ _ _ h121 [x105] 2 5 25 #[.val (.int c)] [(.ref x105)]
  refine go_retA d_b51_25 [] rfl rfl rfl rfl (by decide) (by decide) (fun _ q => nomatch q) ?_
  exact ⟨_, rfl, rfl, (ext_of_keep ((((Keep.refl h []).ext E107).ext q1).trans q2 (allS (Or.inr (Nat.le_of_eq hx106.symm)) all0)))⟩
set_option maxRecDepth 65536 in
set_option maxHeartbeats 4000000 in
theorem c_desc1 {l : Launch} {Z : State} {a0 : Array Value} {n0 : Nat} (hB : Base Z a0) {y e o : Addr} {kx : ClassId} {s ds : Addr} {ks : ClassId} (cs : List Int32) (hcs : cs.length ≤ 3) {h : Heap} (Y : Exa Z h y "java/util/ArrayList") (Ys : Fld Z h y "java/util/ArrayList" "size" "I" (.int 1)) (Ye : Fld Z h y "java/util/ArrayList" "elementData" "[Ljava/lang/Object;" (.ref e)) (Ax : Arv Z h e kx (.object "java/lang/Object") 10 [(.ref o), .null, .null, .null, .null, .null, .null, .null, .null, .null] .null) (Eo : Exa Z h o "com/example/atomic_lock/atomiclock/backend/HeldLock") (G1 : Fld Z h o "com/example/atomic_lock/atomiclock/backend/HeldLock" "name" "Ljava/lang/String;" (.ref s)) (E : Exa Z h s "java/lang/String") (C : Fld Z h s "java/lang/String" "coder" "B" (.int 0)) (V : Fld Z h s "java/lang/String" "value" "[B" (.ref ds)) (A : Arv Z h ds ks .byte (Int32.ofNat cs.length) (lo8s cs) (.int 0)) :
    Con l Z ELc n0 (⟨"com/example/atomic_lock/atomiclock/backend/HeldLock", "describe", "(Ljava/util/List;)Ljava/lang/String;"⟩ : MethodName) prog_11_method_2_code 1 (Option.some (FieldType.object "java/lang/String")) [] ({ frames := 6, cells := 8, slots := 76, locals := 118 } : Room) #[.ref y] h [] (fun v h' sf' => ∃ r d' k', v = some (.ref r) ∧ sf' = [] ∧ Ext h h' ∧ h.size ≤ r ∧ h.size ≤ d' ∧ Exa Z h' r "java/lang/String" ∧ Fld Z h' r "java/lang/String" "coder" "B" (.int 0) ∧ Fld Z h' r "java/lang/String" "value" "[B" (.ref d') ∧ Arv Z h' d' k' .byte (Int32.ofNat ([108, 111, 99, 107, 32, 39] ++ cs ++ [39]).length) (lo8s ([108, 111, 99, 107, 32, 39] ++ cs ++ [39])) (.int 0)) := by
  refine con_of (a0 := a0) (ls := #[.val (.ref y)]) (plainFor_of_name (by decide +kernel)) hB.2.1 (fun m => by first | (simp [entryFrame, mkF, argsToLocals, Value.category]; done) | (simp [entryFrame, mkF, argsToLocals, Value.category, maxLocals]; done) | rfl) ?_
  show Go l Z a0 ELc n0 ({ frames := 6, cells := 8, slots := 76, locals := 118 } : Room) "com/example/atomic_lock/atomiclock/backend/HeldLock" prog_11_method_2_code 1 (Option.some (FieldType.object "java/lang/String")) "describe" _ h [] 0 0 0 #[.val (.ref y)] []
  refine go_aloadN d_b11_0 rfl rfl rfl ?_
  refine go_iface y [] [] 0 d_b11_1 rfl Y (wd hB 63 rfl) (wd hB 64 rfl) (wd hB 65 rfl) rfl (wd hB 66 rfl) (wd hB 67 rfl) (wd hB 68 rfl) (wd hB 69 rfl) (wd hB 70 rfl) (wd hB 37 rfl) (wd hB 71 rfl) (c_size hB Ys) (fun _ q => nomatch q) (lenOf pd_14 rfl) rfl rfl rfl (by decide) (by decide) (by decide) (by decide) (by decide) (fun v101 h102 s103 q104 => ?_)
  obtain ⟨rfl, rfl, rfl⟩ := q104
  show Go _ _ _ _ _ _ _ _ _ _ _ _ h [] 0 0 6 #[.val (.ref y)] [(.int 1)]
  refine go_iconst 1 d_b11_6 rfl (by decide) ?_
  refine go_icmp_ne_f d_b11_7 rfl (by decide) ?_
  refine go_new d_b11_10 rfl (wd hB 74 rfl) (wd hB 75 rfl) (wd hB 76 rfl) (by decide) (by decide) ?_
  intro h110 x105 hx106 E107 ⟨A108, D109⟩
  have F111 : Fld Z h110 x105 "java/lang/AbstractStringBuilder" "value" "[B" .null := D109 (Or.inl (wd hB 89 rfl)) (ty := (.array .byte)) (by decide)
  have F112 : Fld Z h110 x105 "java/lang/AbstractStringBuilder" "coder" "B" (.int 0) := D109 (Or.inl (wd hB 91 rfl)) (ty := .byte) (by decide)
  have F113 : Fld Z h110 x105 "java/lang/AbstractStringBuilder" "count" "I" (.int 0) := D109 (Or.inl (wd hB 103 rfl)) (ty := .int) (by decide)
  refine go_dup d_b11_13 rfl rfl ?_
  refine go_special x105 [] [(.ref x105)] 1 d_b11_14 rfl rfl (wd hB 77 rfl) (wd hB 78 rfl) (wd hB 76 rfl) (wd hB 79 rfl) (c_sbi hB A108 F111 F112 F113) (allS (List.Mem.head _) (fun _ q => nomatch q)) (lenOf pd_23 rfl) rfl rfl rfl (by decide) (by decide) (by decide) (by decide) (by decide) (fun v114 h115 s116 q117 => ?_)
  obtain ⟨d118, k119, rfl, rfl, K120, g121, F122, F123, F124, F125, F126⟩ := q117
  obtain ⟨bs127, ebs127⟩ : ∃ z : List Int32, z = List.replicate 16 0 := ⟨_, rfl⟩
  rw [← ebs127] at F126
  have lbs127 : bs127.length = 16 := by rw [ebs127]; rfl
  have tbs127 : bs127.take 0 = [] := rfl
  show Go _ _ _ _ _ _ _ _ _ _ _ _ h115 [d118, x105] 2 20 17 #[.val (.ref y)] [(.ref x105)]
  refine go_ldcT (text := "lock '") 24 6 [(.int 108), (.int 111), (.int 99), (.int 107), (.int 32), (.int 39)] d_b11_17 rfl (wd hB 293 rfl) (stA hB) (by decide) ⟨by decide, by decide⟩ (by decide) (by decide) (by decide) (by decide) (by decide) (by decide) ?_
  intro h128 a129 b131 k132 E130 F133 F134 F135 F136 F137
  have F139 := (Exa.ext E130 F122)
  have F140 := (Fld.ext E130 F123)
  have F141 := (Fld.ext E130 F124)
  have F142 := (Fld.ext E130 F125)
  have F143 := (F126.ext E130)
  refine go_virtual x105 [(.ref a129)] [] 0 d_b11_19 rfl F139 (wd hB 125 rfl) (wd hB 126 rfl) (nf_of (wd hB 128 rfl)) (wd hB 128 rfl) (wd hB 127 rfl) (wd hB 76 rfl) (wd hB 129 rfl) (c_sbs hB bs127 lbs127 0 ([108, 111, 99, 107, 32, 39]) (by show 0 + 6 ≤ 16; omega) (Ne.symm (Nat.ne_of_lt (Nat.lt_of_lt_of_le A108.lt g121))) (Ne.symm (F137 d118 (List.Mem.head _)).2) F139 F140 F141 F142 F143 F133 F134 F135 F136) (allS (List.Mem.tail _ (List.Mem.head _)) (allS (List.Mem.head _) (fun _ q => nomatch q))) (lenOf pd_31 rfl) rfl rfl rfl (by decide) (by decide) (by decide) (by decide) (by decide) (fun v144 h145 s146 q147 => ?_)
  obtain ⟨rfl, rfl, K148, F149, F150, F151, F152, F153⟩ := q147
  obtain ⟨bs154, ebs154⟩ : ∃ z : List Int32, z = put bs127 ([108, 111, 99, 107, 32, 39]) 0 := ⟨_, rfl⟩
  rw [← ebs154] at F153
  have lbs154 : bs154.length = 16 := by rw [ebs154, put_len (by show 0 + 6 ≤ _; omega)]; exact lbs127
  have tbs154 : bs154.take (6) = [108, 111, 99, 107, 32, 39] := by rw [ebs154]; show (put bs127 ([108, 111, 99, 107, 32, 39]) 0).take (0 + ([108, 111, 99, 107, 32, 39] : List Int32).length) = _; rw [put_take (by show 0 + 6 ≤ _; omega), tbs127]; rfl
  have F152n : Fld Z h145 x105 "java/lang/AbstractStringBuilder" "count" "I" (.int (Int32.ofNat (6))) := F152
  show Go _ _ _ _ _ _ _ _ _ _ _ _ h145 [d118, x105] 4 48 22 #[.val (.ref y)] [(.ref x105)]
  refine go_aloadN d_b11_22 rfl rfl rfl ?_
  refine go_iconst 0 d_b11_23 rfl (by decide) ?_
  have F155 := ((Exa.ext E130 ((Exa.ext E107 Y).keep K120)).keep K148)
  have F156 := ((Fld.ext E130 ((Fld.ext E107 Ys).keep K120 (ninS (Nat.ne_of_lt (Nat.lt_of_lt_of_le Y.lt (Nat.le_of_eq hx106.symm))) nin0))).keep K148 (ninS (Nat.ne_of_lt (Nat.lt_of_lt_of_le Y.lt (Nat.le_of_eq hx106.symm))) (ninS (Nat.ne_of_lt (Nat.lt_of_lt_of_le (Nat.lt_of_lt_of_le Y.lt E107.1) g121)) nin0)))
  have F157 := ((Fld.ext E130 ((Fld.ext E107 Ye).keep K120 (ninS (Nat.ne_of_lt (Nat.lt_of_lt_of_le Y.lt (Nat.le_of_eq hx106.symm))) nin0))).keep K148 (ninS (Nat.ne_of_lt (Nat.lt_of_lt_of_le Y.lt (Nat.le_of_eq hx106.symm))) (ninS (Nat.ne_of_lt (Nat.lt_of_lt_of_le (Nat.lt_of_lt_of_le Y.lt E107.1) g121)) nin0)))
  have F158 := ((((Ax.ext E107).keep K120 (ninS (Nat.ne_of_lt (Nat.lt_of_lt_of_le Ax.lt (Nat.le_of_eq hx106.symm))) nin0)).ext E130).keep K148 (ninS (Nat.ne_of_lt (Nat.lt_of_lt_of_le Ax.lt (Nat.le_of_eq hx106.symm))) (ninS (Nat.ne_of_lt (Nat.lt_of_lt_of_le (Nat.lt_of_lt_of_le Ax.lt E107.1) g121)) nin0)))
  refine go_iface y [(.int 0)] [(.ref x105)] 1 d_b11_24 rfl F155 (wd hB 294 rfl) (wd hB 295 rfl) (wd hB 296 rfl) rfl (wd hB 297 rfl) (wd hB 298 rfl) (wd hB 299 rfl) (wd hB 300 rfl) (wd hB 70 rfl) (wd hB 37 rfl) (wd hB 301 rfl) (c_get hB F155 F156 F157 F158) (fun _ q => nomatch q) (lenOf pd_27 rfl) rfl rfl rfl (by decide) (by decide) (by decide) (by decide) (by decide) (fun v159 h160 s161 q162 => ?_)
  obtain ⟨rfl, rfl, rfl⟩ := q162
  show Go _ _ _ _ _ _ _ _ _ _ _ _ h145 [d118, x105] 4 48 29 #[.val (.ref y)] [(.ref o), (.ref x105)]
  have F163 := ((Exa.ext E130 ((Exa.ext E107 Eo).keep K120)).keep K148)
  refine go_checkcast d_b11_29 rfl (wd hB 312 rfl) (Ins.self F163) ?_
  have F164 := ((Fld.ext E130 ((Fld.ext E107 G1).keep K120 (ninS (Nat.ne_of_lt (Nat.lt_of_lt_of_le Eo.lt (Nat.le_of_eq hx106.symm))) nin0))).keep K148 (ninS (Nat.ne_of_lt (Nat.lt_of_lt_of_le Eo.lt (Nat.le_of_eq hx106.symm))) (ninS (Nat.ne_of_lt (Nat.lt_of_lt_of_le (Nat.lt_of_lt_of_le Eo.lt E107.1) g121)) nin0)))
  refine go_virtual o [] [(.ref x105)] 1 d_b11_32 rfl F163 (wd hB 314 rfl) (wd hB 315 rfl) (nf_of (wd hB 317 rfl)) (wd hB 317 rfl) (wd hB 316 rfl) (wd hB 61 rfl) (wd hB 318 rfl) (c_hln hB F164) (fun _ q => nomatch q) (lenOf pd_32 rfl) rfl rfl rfl (by decide) (by decide) (by decide) (by decide) (by decide) (fun v165 h166 s167 q168 => ?_)
  obtain ⟨rfl, rfl, rfl⟩ := q168
  show Go _ _ _ _ _ _ _ _ _ _ _ _ h145 [d118, x105] 4 48 35 #[.val (.ref y)] [(.ref s), (.ref x105)]
  have F169 := ((Exa.ext E130 ((Exa.ext E107 E).keep K120)).keep K148)
  have F170 := ((Fld.ext E130 ((Fld.ext E107 C).keep K120 (ninS (Nat.ne_of_lt (Nat.lt_of_lt_of_le E.lt (Nat.le_of_eq hx106.symm))) nin0))).keep K148 (ninS (Nat.ne_of_lt (Nat.lt_of_lt_of_le E.lt (Nat.le_of_eq hx106.symm))) (ninS (Nat.ne_of_lt (Nat.lt_of_lt_of_le (Nat.lt_of_lt_of_le E.lt E107.1) g121)) nin0)))
  have F171 := ((Fld.ext E130 ((Fld.ext E107 V).keep K120 (ninS (Nat.ne_of_lt (Nat.lt_of_lt_of_le E.lt (Nat.le_of_eq hx106.symm))) nin0))).keep K148 (ninS (Nat.ne_of_lt (Nat.lt_of_lt_of_le E.lt (Nat.le_of_eq hx106.symm))) (ninS (Nat.ne_of_lt (Nat.lt_of_lt_of_le (Nat.lt_of_lt_of_le E.lt E107.1) g121)) nin0)))
  have F172 := ((((A.ext E107).keep K120 (ninS (Nat.ne_of_lt (Nat.lt_of_lt_of_le A.lt (Nat.le_of_eq hx106.symm))) nin0)).ext E130).keep K148 (ninS (Nat.ne_of_lt (Nat.lt_of_lt_of_le A.lt (Nat.le_of_eq hx106.symm))) (ninS (Nat.ne_of_lt (Nat.lt_of_lt_of_le (Nat.lt_of_lt_of_le A.lt E107.1) g121)) nin0)))
  refine go_virtual x105 [(.ref s)] [] 0 d_b11_35 rfl F149 (wd hB 125 rfl) (wd hB 126 rfl) (nf_of (wd hB 128 rfl)) (wd hB 128 rfl) (wd hB 127 rfl) (wd hB 76 rfl) (wd hB 129 rfl) (c_sbs hB bs154 lbs154 6 cs (by omega) (Ne.symm (Nat.ne_of_lt (Nat.lt_of_lt_of_le A108.lt g121))) (Nat.ne_of_lt (Nat.lt_of_lt_of_le (Nat.lt_of_lt_of_le A.lt E107.1) g121)) F149 F150 F151 F152n F153 F169 F170 F171 F172) (allS (List.Mem.tail _ (List.Mem.head _)) (allS (List.Mem.head _) (fun _ q => nomatch q))) (lenOf pd_31 rfl) rfl rfl rfl (by decide) (by decide) (by decide) (by decide) (by decide) (fun v173 h174 s175 q176 => ?_)
  obtain ⟨rfl, rfl, K177, F178, F179, F180, F181, F182⟩ := q176
  obtain ⟨bs183, ebs183⟩ : ∃ z : List Int32, z = put bs154 cs 6 := ⟨_, rfl⟩
  rw [← ebs183] at F182
  have lbs183 : bs183.length = 16 := by rw [ebs183, put_len (by omega)]; exact lbs154
  have tbs183 : bs183.take (6 + cs.length) = [108, 111, 99, 107, 32, 39] ++ cs := by rw [ebs183]; show (put bs154 cs 6).take (6 + (cs : List Int32).length) = _; rw [put_take (by omega), tbs154]
  have F181n : Fld Z h174 x105 "java/lang/AbstractStringBuilder" "count" "I" (.int (Int32.ofNat (6 + cs.length))) := F181
  show Go _ _ _ _ _ _ _ _ _ _ _ _ h174 [d118, x105] 4 48 38 #[.val (.ref y)] [(.ref x105)]
  refine go_ldcT (text := "'") 4 1 [(.int 39)] d_b11_38 rfl (wd hB 319 rfl) (stA hB) (by decide) ⟨by decide, by decide⟩ (by decide) (by decide) (by decide) (by decide) (by decide) (by decide) ?_
  intro h184 a185 b187 k188 E186 F189 F190 F191 F192 F193
  have F195 := (Exa.ext E186 F178)
  have F196 := (Fld.ext E186 F179)
  have F197 := (Fld.ext E186 F180)
  have F198 := (Fld.ext E186 F181n)
  have F199 := (F182.ext E186)
  refine go_virtual x105 [(.ref a185)] [] 0 d_b11_40 rfl F195 (wd hB 125 rfl) (wd hB 126 rfl) (nf_of (wd hB 128 rfl)) (wd hB 128 rfl) (wd hB 127 rfl) (wd hB 76 rfl) (wd hB 129 rfl) (c_sbs hB bs183 lbs183 (6 + cs.length) ([39]) (by show 6 + cs.length + 1 ≤ _; omega) (Ne.symm (Nat.ne_of_lt (Nat.lt_of_lt_of_le A108.lt g121))) (Ne.symm (F193 d118 (List.Mem.head _)).2) F195 F196 F197 F198 F199 F189 F190 F191 F192) (allS (List.Mem.tail _ (List.Mem.head _)) (allS (List.Mem.head _) (fun _ q => nomatch q))) (lenOf pd_31 rfl) rfl rfl rfl (by decide) (by decide) (by decide) (by decide) (by decide) (fun v200 h201 s202 q203 => ?_)
  obtain ⟨rfl, rfl, K204, F205, F206, F207, F208, F209⟩ := q203
  obtain ⟨bs210, ebs210⟩ : ∃ z : List Int32, z = put bs183 ([39]) (6 + cs.length) := ⟨_, rfl⟩
  rw [← ebs210] at F209
  have lbs210 : bs210.length = 16 := by rw [ebs210, put_len (by show 6 + cs.length + 1 ≤ _; omega)]; exact lbs183
  have tbs210 : bs210.take (6 + cs.length + 1) = [108, 111, 99, 107, 32, 39] ++ cs ++ [39] := by rw [ebs210]; show (put bs183 ([39]) (6 + cs.length)).take (6 + cs.length + ([39] : List Int32).length) = _; rw [put_take (by show 6 + cs.length + 1 ≤ _; omega), tbs183]
  have F208n : Fld Z h201 x105 "java/lang/AbstractStringBuilder" "count" "I" (.int (Int32.ofNat (6 + cs.length + 1))) := F208
  show Go _ _ _ _ _ _ _ _ _ _ _ _ h201 [d118, x105] 6 56 43 #[.val (.ref y)] [(.ref x105)]
  refine go_virtual x105 [] [] 0 d_b11_43 rfl F205 (wd hB 164 rfl) (wd hB 165 rfl) (nf_of (wd hB 167 rfl)) (wd hB 167 rfl) (wd hB 166 rfl) (wd hB 76 rfl) (wd hB 168 rfl) (c_tos hB bs210 lbs210 (6 + cs.length + 1) (by omega) F205 F206 F207 F208n F209) (fun _ q => nomatch q) (lenOf pd_32 rfl) rfl rfl rfl (by decide) (by decide) (by decide) (by decide) (by decide) (fun v211 h212 s213 q214 => ?_)
  obtain ⟨r, d', k', rfl, rfl, q1, q2, q3, q4, q5, q6, q7⟩ := q214
  rw [tbs210] at q7
  show Go _ _ _ _ _ _ _ _ _ _ _ _ h212 [d118, x105] 8 76 46 #[.val (.ref y)] [(.ref r)]
  refine go_goto (pt := 73) d_b11_46 (by decide) (by decide) ?_
  refine go_retA d_b11_73 [] rfl rfl rfl rfl (by decide) (by decide) (fun _ q => nomatch q) ?_
  exact ⟨r, d', k', rfl, rfl, (ext_of_keep (((((((((Keep.refl h []).ext E107).trans K120 (allS (Or.inr (Nat.le_of_eq hx106.symm)) all0)).ext E130).trans K148 (allS (Or.inr (Nat.le_of_eq hx106.symm)) (allS (Or.inr (Nat.le_trans E107.1 g121)) all0))).trans K177 (allS (Or.inr (Nat.le_of_eq hx106.symm)) (allS (Or.inr (Nat.le_trans E107.1 g121)) all0))).ext E186).trans K204 (allS (Or.inr (Nat.le_of_eq hx106.symm)) (allS (Or.inr (Nat.le_trans E107.1 g121)) all0))).ext q1)), (Nat.le_trans (Nat.le_trans (Nat.le_trans (Nat.le_trans (Nat.le_trans (Nat.le_trans (Nat.le_trans E107.1 K120.1) E130.1) K148.1) K177.1) E186.1) K204.1) q2), (Nat.le_trans (Nat.le_trans (Nat.le_trans (Nat.le_trans (Nat.le_trans (Nat.le_trans (Nat.le_trans E107.1 K120.1) E130.1) K148.1) K177.1) E186.1) K204.1) q3), q4, q5, q6, q7⟩
theorem take1_set {b : List Int32} {c : Int32} (h : b.length = 16) : (b.set 0 c).take 1 = [c] := by
  cases b with
  | nil => cases h
  | cons a r => rfl
set_option maxRecDepth 65536 in
set_option maxHeartbeats 4000000 in
theorem c_descn {l : Launch} {Z : State} {a0 : Array Value} {n0 : Nat} (hB : Base Z a0) {y : Addr} (kk : Nat) (hk : kk < 10) (hk1 : kk ≠ 1) {h : Heap} (Y : Exa Z h y "java/util/ArrayList") (Ys : Fld Z h y "java/util/ArrayList" "size" "I" (.int (Int32.ofNat kk))) :
    Con l Z ELc n0 (⟨"com/example/atomic_lock/atomiclock/backend/HeldLock", "describe", "(Ljava/util/List;)Ljava/lang/String;"⟩ : MethodName) prog_11_method_2_code 1 (Option.some (FieldType.object "java/lang/String")) [] ({ frames := 6, cells := 6, slots := 68, locals := 118 } : Room) #[.ref y] h [] (fun v h' sf' => ∃ r d' k', v = some (.ref r) ∧ sf' = [] ∧ Ext h h' ∧ h.size ≤ r ∧ h.size ≤ d' ∧ Exa Z h' r "java/lang/String" ∧ Fld Z h' r "java/lang/String" "coder" "B" (.int 0) ∧ Fld Z h' r "java/lang/String" "value" "[B" (.ref d') ∧ Arv Z h' d' k' .byte (Int32.ofNat ([Int32.ofNat (48 + kk)] ++ [32, 108, 111, 99, 107, 115]).length) (lo8s ([Int32.ofNat (48 + kk)] ++ [32, 108, 111, 99, 107, 115])) (.int 0)) := by
  refine con_of (a0 := a0) (ls := #[.val (.ref y)]) (plainFor_of_name (by decide +kernel)) hB.2.1 (fun m => by first | (simp [entryFrame, mkF, argsToLocals, Value.category]; done) | (simp [entryFrame, mkF, argsToLocals, Value.category, maxLocals]; done) | rfl) ?_
  show Go l Z a0 ELc n0 ({ frames := 6, cells := 6, slots := 68, locals := 118 } : Room) "com/example/atomic_lock/atomiclock/backend/HeldLock" prog_11_method_2_code 1 (Option.some (FieldType.object "java/lang/String")) "describe" _ h [] 0 0 0 #[.val (.ref y)] []
  refine go_aloadN d_b11_0 rfl rfl rfl ?_
  refine go_iface y [] [] 0 d_b11_1 rfl Y (wd hB 63 rfl) (wd hB 64 rfl) (wd hB 65 rfl) rfl (wd hB 66 rfl) (wd hB 67 rfl) (wd hB 68 rfl) (wd hB 69 rfl) (wd hB 70 rfl) (wd hB 37 rfl) (wd hB 71 rfl) (c_size hB Ys) (fun _ q => nomatch q) (lenOf pd_14 rfl) rfl rfl rfl (by decide) (by decide) (by decide) (by decide) (by decide) (fun v101 h102 s103 q104 => ?_)
  obtain ⟨rfl, rfl, rfl⟩ := q104
  show Go _ _ _ _ _ _ _ _ _ _ _ _ h [] 0 0 6 #[.val (.ref y)] [(.int (Int32.ofNat kk))]
  refine go_iconst 1 d_b11_6 rfl (by decide) ?_
  refine go_icmp_ne_t (pt := 49) d_b11_7 (by decide) (by decide) (fun q => by have q := congrArg Int32.toInt q; rw [ofN_int (by omega)] at q; have e1 : (1 : Int32).toInt = 1 := rfl; omega) ?_
  refine go_new d_b11_49 rfl (wd hB 74 rfl) (wd hB 75 rfl) (wd hB 76 rfl) (by decide) (by decide) ?_
  intro h110 x105 hx106 E107 ⟨A108, D109⟩
  have F111 : Fld Z h110 x105 "java/lang/AbstractStringBuilder" "value" "[B" .null := D109 (Or.inl (wd hB 89 rfl)) (ty := (.array .byte)) (by decide)
  have F112 : Fld Z h110 x105 "java/lang/AbstractStringBuilder" "coder" "B" (.int 0) := D109 (Or.inl (wd hB 91 rfl)) (ty := .byte) (by decide)
  have F113 : Fld Z h110 x105 "java/lang/AbstractStringBuilder" "count" "I" (.int 0) := D109 (Or.inl (wd hB 103 rfl)) (ty := .int) (by decide)
  refine go_dup d_b11_52 rfl rfl ?_
  refine go_special x105 [] [(.ref x105)] 1 d_b11_53 rfl rfl (wd hB 77 rfl) (wd hB 78 rfl) (wd hB 76 rfl) (wd hB 79 rfl) (c_sbi hB A108 F111 F112 F113) (allS (List.Mem.head _) (fun _ q => nomatch q)) (lenOf pd_23 rfl) rfl rfl rfl (by decide) (by decide) (by decide) (by decide) (by decide) (fun v114 h115 s116 q117 => ?_)
  obtain ⟨d118, k119, rfl, rfl, K120, g121, F122, F123, F124, F125, F126⟩ := q117
  obtain ⟨bs127, ebs127⟩ : ∃ z : List Int32, z = List.replicate 16 0 := ⟨_, rfl⟩
  rw [← ebs127] at F126
  have lbs127 : bs127.length = 16 := by rw [ebs127]; rfl
  have tbs127 : bs127.take 0 = [] := rfl
  show Go _ _ _ _ _ _ _ _ _ _ _ _ h115 [d118, x105] 2 20 56 #[.val (.ref y)] [(.ref x105)]
  refine go_aloadN d_b11_56 rfl rfl rfl ?_
  have F128 := ((Fld.ext E107 Ys).keep K120 (ninS (Nat.ne_of_lt (Nat.lt_of_lt_of_le Y.lt (Nat.le_of_eq hx106.symm))) nin0))
  have F133 := ((Exa.ext E107 Y).keep K120)
  refine go_iface y [] [(.ref x105)] 1 d_b11_57 rfl F133 (wd hB 63 rfl) (wd hB 64 rfl) (wd hB 65 rfl) rfl (wd hB 66 rfl) (wd hB 67 rfl) (wd hB 68 rfl) (wd hB 69 rfl) (wd hB 70 rfl) (wd hB 37 rfl) (wd hB 71 rfl) (c_size hB F128) (fun _ q => nomatch q) (lenOf pd_14 rfl) rfl rfl rfl (by decide) (by decide) (by decide) (by decide) (by decide) (fun v129 h130 s131 q132 => ?_)
  obtain ⟨rfl, rfl, rfl⟩ := q132
  show Go _ _ _ _ _ _ _ _ _ _ _ _ h115 [d118, x105] 2 20 62 #[.val (.ref y)] [(.int (Int32.ofNat kk)), (.ref x105)]
  refine go_virtual x105 [(.int (Int32.ofNat kk))] [] 0 d_b11_62 rfl F122 (wd hB 92 rfl) (wd hB 93 rfl) (nf_of (wd hB 95 rfl)) (wd hB 95 rfl) (wd hB 94 rfl) (wd hB 76 rfl) (wd hB 96 rfl) (c_sbn hB bs127 lbs127 kk hk (Ne.symm (Nat.ne_of_lt (Nat.lt_of_lt_of_le A108.lt g121))) F122 F123 F124 F125 F126) (allS (List.Mem.tail _ (List.Mem.head _)) (allS (List.Mem.head _) (fun _ q => nomatch q))) (lenOf pd_33 rfl) rfl rfl rfl (by decide) (by decide) (by decide) (by decide) (by decide) (fun v134 h135 s136 q137 => ?_)
  obtain ⟨rfl, rfl, K138, F139, F140, F141, F142, F143⟩ := q137
  obtain ⟨bs144, ebs144⟩ : ∃ z : List Int32, z = bs127.set 0 (Int32.ofNat (48 + kk)) := ⟨_, rfl⟩
  rw [← ebs144] at F143
  have lbs144 : bs144.length = 16 := by rw [ebs144, List.length_set]; exact lbs127
  have tbs144 : bs144.take 1 = [Int32.ofNat (48 + kk)] := by rw [ebs144]; exact take1_set lbs127
  show Go _ _ _ _ _ _ _ _ _ _ _ _ h135 [d118, x105] 2 20 65 #[.val (.ref y)] [(.ref x105)]
  refine go_ldcT (text := " locks") 24 6 [(.int 32), (.int 108), (.int 111), (.int 99), (.int 107), (.int 115)] d_b11_65 rfl (wd hB 122 rfl) (stA hB) (by decide) ⟨by decide, by decide⟩ (by decide) (by decide) (by decide) (by decide) (by decide) (by decide) ?_
  intro h145 a146 b148 k149 E147 F150 F151 F152 F153 F154
  have F156 := (Exa.ext E147 F139)
  have F157 := (Fld.ext E147 F140)
  have F158 := (Fld.ext E147 F141)
  have F159 := (Fld.ext E147 F142)
  have F160 := (F143.ext E147)
  refine go_virtual x105 [(.ref a146)] [] 0 d_b11_67 rfl F156 (wd hB 125 rfl) (wd hB 126 rfl) (nf_of (wd hB 128 rfl)) (wd hB 128 rfl) (wd hB 127 rfl) (wd hB 76 rfl) (wd hB 129 rfl) (c_sbs hB bs144 lbs144 1 ([32, 108, 111, 99, 107, 115]) (by show 1 + 6 ≤ _; omega) (Ne.symm (Nat.ne_of_lt (Nat.lt_of_lt_of_le A108.lt g121))) (Ne.symm (F154 d118 (List.Mem.head _)).2) F156 F157 F158 F159 F160 F150 F151 F152 F153) (allS (List.Mem.tail _ (List.Mem.head _)) (allS (List.Mem.head _) (fun _ q => nomatch q))) (lenOf pd_31 rfl) rfl rfl rfl (by decide) (by decide) (by decide) (by decide) (by decide) (fun v161 h162 s163 q164 => ?_)
  obtain ⟨rfl, rfl, K165, F166, F167, F168, F169, F170⟩ := q164
  obtain ⟨bs171, ebs171⟩ : ∃ z : List Int32, z = put bs144 ([32, 108, 111, 99, 107, 115]) 1 := ⟨_, rfl⟩
  rw [← ebs171] at F170
  have lbs171 : bs171.length = 16 := by rw [ebs171, put_len (by show 1 + 6 ≤ _; omega)]; exact lbs144
  have tbs171 : bs171.take (7) = [Int32.ofNat (48 + kk)] ++ [32, 108, 111, 99, 107, 115] := by rw [ebs171]; show (put bs144 ([32, 108, 111, 99, 107, 115]) 1).take (1 + ([32, 108, 111, 99, 107, 115] : List Int32).length) = _; rw [put_take (by show 1 + 6 ≤ _; omega), tbs144]
  have F169n : Fld Z h162 x105 "java/lang/AbstractStringBuilder" "count" "I" (.int (Int32.ofNat (7))) := F169
  show Go _ _ _ _ _ _ _ _ _ _ _ _ h162 [d118, x105] 4 48 70 #[.val (.ref y)] [(.ref x105)]
  refine go_virtual x105 [] [] 0 d_b11_70 rfl F166 (wd hB 164 rfl) (wd hB 165 rfl) (nf_of (wd hB 167 rfl)) (wd hB 167 rfl) (wd hB 166 rfl) (wd hB 76 rfl) (wd hB 168 rfl) (c_tos hB bs171 lbs171 (7) (by omega) F166 F167 F168 F169n F170) (fun _ q => nomatch q) (lenOf pd_32 rfl) rfl rfl rfl (by decide) (by decide) (by decide) (by decide) (by decide) (fun v172 h173 s174 q175 => ?_)
  obtain ⟨r, d', k', rfl, rfl, q1, q2, q3, q4, q5, q6, q7⟩ := q175
  rw [tbs171] at q7
  show Go _ _ _ _ _ _ _ _ _ _ _ _ h173 [d118, x105] 6 68 73 #[.val (.ref y)] [(.ref r)]
  refine go_retA d_b11_73 [] rfl rfl rfl rfl (by decide) (by decide) (fun _ q => nomatch q) ?_
  exact ⟨r, d', k', rfl, rfl, (ext_of_keep (((((((Keep.refl h []).ext E107).trans K120 (allS (Or.inr (Nat.le_of_eq hx106.symm)) all0)).trans K138 (allS (Or.inr (Nat.le_of_eq hx106.symm)) (allS (Or.inr (Nat.le_trans E107.1 g121)) all0))).ext E147).trans K165 (allS (Or.inr (Nat.le_of_eq hx106.symm)) (allS (Or.inr (Nat.le_trans E107.1 g121)) all0))).ext q1)), (Nat.le_trans (Nat.le_trans (Nat.le_trans (Nat.le_trans (Nat.le_trans E107.1 K120.1) K138.1) E147.1) K165.1) q2), (Nat.le_trans (Nat.le_trans (Nat.le_trans (Nat.le_trans (Nat.le_trans E107.1 K120.1) K138.1) E147.1) K165.1) q3), q4, q5, q6, q7⟩
theorem is3 {k : Int32} (hk : 0 ≤ k.toInt ∧ k.toInt < 4) (h0 : ¬ k = 0) (h1 : ¬ k = 1) (h2 : ¬ k = 2) : k = 3 := by
  have e : ∀ {m : Int32}, ¬ k = m → k.toInt ≠ m.toInt := fun q r => q (Int32.toInt_inj.mp r)
  have a0 : k.toInt ≠ 0 := e h0
  have a1 : k.toInt ≠ 1 := e h1
  have a2 : k.toInt ≠ 2 := e h2
  exact Int32.toInt_inj.mp (show k.toInt = 3 by omega)
theorem in4 {k : Int32} (hk : 0 ≤ k.toInt ∧ k.toInt < 4) : k = 0 ∨ k = 1 ∨ k = 2 ∨ k = 3 := by
  by_cases h0 : k = 0
  · exact Or.inl h0
  by_cases h1 : k = 1
  · exact Or.inr (Or.inl h1)
  by_cases h2 : k = 2
  · exact Or.inr (Or.inr (Or.inl h2))
  exact Or.inr (Or.inr (Or.inr (is3 hk h0 h1 h2)))
set_option maxRecDepth 65536 in
set_option maxHeartbeats 4000000 in
theorem c_name {l : Launch} {Z : State} {a0 : Array Value} {n0 : Nat} (hB : Base Z a0) (len : Int32) (hl : 0 ≤ len.toInt ∧ len.toInt < 4) (a b c : Int32) (ia : isC a) (ib : isC b) (ic : isC c) {h : Heap} :
    Con l Z ELc n0 (⟨"com/example/atomic_lock/atomiclock/backend/HeldLockDescribePinLaw", "name", "(ICCC)Ljava/lang/String;"⟩ : MethodName) method_3_code 4 (Option.some (FieldType.object "java/lang/String")) [] ({ frames := 4, cells := 6, slots := 23, locals := 68 } : Room) #[.int len, .int a, .int b, .int c] h [] (fun v h' sf' => ∃ m r d' k', len = Int32.ofNat m ∧ m ≤ 3 ∧ v = some (.ref r) ∧ sf' = [] ∧ Ext h h' ∧ h.size ≤ r ∧ Exa Z h' r "java/lang/String" ∧ Fld Z h' r "java/lang/String" "coder" "B" (.int 0) ∧ Fld Z h' r "java/lang/String" "value" "[B" (.ref d') ∧ Arv Z h' d' k' .byte (Int32.ofNat ([a, b, c].take m).length) (lo8s ([a, b, c].take m)) (.int 0)) := by
  refine con_of (a0 := a0) (ls := #[.val (.int len), .val (.int a), .val (.int b), .val (.int c)]) (plainFor_of_name (by decide +kernel)) hB.2.1 (fun m => by first | (simp [entryFrame, mkF, argsToLocals, Value.category]; done) | (simp [entryFrame, mkF, argsToLocals, Value.category, maxLocals]; done) | rfl) ?_
  show Go l Z a0 ELc n0 ({ frames := 4, cells := 6, slots := 23, locals := 68 } : Room) "com/example/atomic_lock/atomiclock/backend/HeldLockDescribePinLaw" method_3_code 4 (Option.some (FieldType.object "java/lang/String")) "name" _ h [] 0 0 0 #[.val (.int len), .val (.int a), .val (.int b), .val (.int c)] []
  refine go_iloadN d_b1_0 rfl rfl ?_
  by_cases hl0 : (len = 0 : Prop)
  · refine go_if_ne_f d_b1_1 rfl hl0 ?_
    refine go_new d_b1_4 rfl (wd hB 5 rfl) (wd hB 6 rfl) (wd hB 7 rfl) (by decide) (by decide) ?_
    intro h106 x101 hx102 E103 ⟨A104, D105⟩
    have F107 : Fld Z h106 x101 "java/lang/String" "coder" "B" (.int 0) := D105 (Or.inr (wd hB 32 rfl)) (ty := .byte) (by decide)
    have F108 : Fld Z h106 x101 "java/lang/String" "value" "[B" .null := D105 (Or.inr (wd hB 34 rfl)) (ty := (.array .byte)) (by decide)
    refine go_dup d_b1_7 rfl rfl ?_
    refine go_iconst 0 d_b1_8 rfl (by decide) ?_
    refine go_newarr (ty := .char) (ad := "[C") 0 d_b1_9 rfl rfl (wd hB 8 rfl) (by decide) (by decide) (by decide) (by decide) (by decide) (by decide) ?_
    intro h114 x109 hx110 E111 ⟨A112, k113, B115⟩
    have B116 : Arv Z h114 x109 k113 .char 0 [] (.int 0) := B115.pad (pad_rep [] (.int 0) 0)
    refine Go.owned (fun hgeN0 => ?_)
    have hgeN := fun y q => (hgeN0 y q).2
    have F117 := (Exa.ext E111 A104)
    have F118 := (Fld.ext E111 F108)
    have F119 := (Fld.ext E111 F107)
    refine go_special x101 [(.ref x109)] [(.ref x101)] 1 d_b1_11 rfl rfl (wd hB 9 rfl) (wd hB 10 rfl) (wd hB 7 rfl) (wd hB 11 rfl) (c_sinite hB B116 F117 F118 F119) (allS (List.Mem.tail _ (List.Mem.head _)) (fun _ q => nomatch q)) (lenOf pd_34 rfl) rfl rfl rfl (by decide) (by decide) (by decide) (by decide) (by decide) (fun v120 h121 s122 q123 => ?_)
    obtain ⟨rfl, rfl, K124, E125, F126, d127, k128, F129, A130⟩ := q123
    show Go _ _ _ _ _ _ _ _ _ _ _ _ h121 [x109, x101] 6 12 14 #[.val (.int len), .val (.int a), .val (.int b), .val (.int c)] [(.ref x101)]
    refine go_retA d_b1_14 [] rfl rfl rfl rfl (by decide) (by decide) (fun _ q => nomatch q) ?_
    exact ⟨0, x101, _, _, hl0, by omega, rfl, rfl, (ext_of_keep ((((Keep.refl h []).ext E103).ext E111).trans K124 (allS (Or.inr (Nat.le_of_eq hx102.symm)) all0))), (Nat.le_of_eq hx102.symm), E125, F126, F129, A130⟩
  · refine go_if_ne_t (pt := 15) d_b1_1 (by decide) (by decide) hl0 ?_
    refine go_iloadN d_b1_15 rfl rfl ?_
    refine go_iconst 1 d_b1_16 rfl (by decide) ?_
    by_cases hl1 : (len = 1 : Prop)
    · refine go_icmp_ne_f d_b1_17 rfl hl1 ?_
      refine go_new d_b1_20 rfl (wd hB 5 rfl) (wd hB 6 rfl) (wd hB 7 rfl) (by decide) (by decide) ?_
      intro h136 x131 hx132 E133 ⟨A134, D135⟩
      have F137 : Fld Z h136 x131 "java/lang/String" "coder" "B" (.int 0) := D135 (Or.inr (wd hB 32 rfl)) (ty := .byte) (by decide)
      have F138 : Fld Z h136 x131 "java/lang/String" "value" "[B" .null := D135 (Or.inr (wd hB 34 rfl)) (ty := (.array .byte)) (by decide)
      refine go_dup d_b1_23 rfl rfl ?_
      refine go_iconst 1 d_b1_24 rfl (by decide) ?_
      refine go_newarr (ty := .char) (ad := "[C") 1 d_b1_25 rfl rfl (wd hB 8 rfl) (by decide) (by decide) (by decide) (by decide) (by decide) (by decide) ?_
      intro h144 x139 hx140 E141 ⟨A142, k143, B145⟩
      have B146 : Arv Z h144 x139 k143 .char 1 [(.int 0)] (.int 0) := B145.pad (pad_rep [] (.int 0) 1)
      refine go_dup d_b1_27 rfl rfl ?_
      refine go_iconst 0 d_b1_28 rfl (by decide) ?_
      refine go_iloadN d_b1_29 rfl rfl ?_
      refine go_castore 0 a d_b1_30 rfl ia.nar B146 ⟨by decide, by decide⟩ (by decide) (by show 0 < 1; decide) (List.Mem.head _) ?_
      intro h147 W148 B149
      have B150 : Arv Z h147 x139 k143 .char 1 [(.int a)] (.int 0) := B149
      refine Go.owned (fun hgeN0 => ?_)
      have hgeN := fun y q => (hgeN0 y q).2
      have F151 := (Exa.wr W148 (Exa.ext E141 A134))
      have F152 := (Fld.other W148 (Fld.ext E141 F138) (Or.inl (Nat.ne_of_lt (Nat.lt_of_lt_of_le A134.lt (Nat.le_of_eq hx140.symm)))))
      have F153 := (Fld.other W148 (Fld.ext E141 F137) (Or.inl (Nat.ne_of_lt (Nat.lt_of_lt_of_le A134.lt (Nat.le_of_eq hx140.symm)))))
      refine go_special x131 [(.ref x139)] [(.ref x131)] 1 d_b1_31 rfl rfl (wd hB 9 rfl) (wd hB 10 rfl) (wd hB 7 rfl) (wd hB 11 rfl) (c_sinit hB [a] (by simp) (by simp) (List.forall_mem_cons.mpr ⟨ia.le, (fun _ q => nomatch q)⟩) B150 F151 F152 F153 (hgeN x131 (List.Mem.tail _ (List.Mem.head _)))) (allS (List.Mem.tail _ (List.Mem.head _)) (fun _ q => nomatch q)) (lenOf pd_34 rfl) rfl rfl rfl (by decide) (by decide) (by decide) (by decide) (by decide) (fun v154 h155 s156 q157 => ?_)
      obtain ⟨rfl, rfl, K158, E159, F160, d161, k162, g163, F164, A165⟩ := q157
      show Go _ _ _ _ _ _ _ _ _ _ _ _ h155 [x139, x131] 3 21 34 #[.val (.int len), .val (.int a), .val (.int b), .val (.int c)] [(.ref x131)]
      refine go_retA d_b1_34 [] rfl rfl rfl rfl (by decide) (by decide) (fun _ q => nomatch q) ?_
      exact ⟨1, x131, _, _, hl1, by omega, rfl, rfl, (ext_of_keep (((((Keep.refl h []).ext E133).ext E141).wr W148 (Or.inr (Nat.le_trans E133.1 (Nat.le_of_eq hx140.symm)))).trans K158 (allS (Or.inr (Nat.le_of_eq hx132.symm)) all0))), (Nat.le_of_eq hx132.symm), E159, F160, F164, A165⟩
    · refine go_icmp_ne_t (pt := 35) d_b1_17 (by decide) (by decide) hl1 ?_
      refine go_iloadN d_b1_35 rfl rfl ?_
      refine go_iconst 2 d_b1_36 rfl (by decide) ?_
      by_cases hl2 : (len = 2 : Prop)
      · refine go_icmp_ne_f d_b1_37 rfl hl2 ?_
        refine go_new d_b1_40 rfl (wd hB 5 rfl) (wd hB 6 rfl) (wd hB 7 rfl) (by decide) (by decide) ?_
        intro h171 x166 hx167 E168 ⟨A169, D170⟩
        have F172 : Fld Z h171 x166 "java/lang/String" "coder" "B" (.int 0) := D170 (Or.inr (wd hB 32 rfl)) (ty := .byte) (by decide)
        have F173 : Fld Z h171 x166 "java/lang/String" "value" "[B" .null := D170 (Or.inr (wd hB 34 rfl)) (ty := (.array .byte)) (by decide)
        refine go_dup d_b1_43 rfl rfl ?_
        refine go_iconst 2 d_b1_44 rfl (by decide) ?_
        refine go_newarr (ty := .char) (ad := "[C") 2 d_b1_45 rfl rfl (wd hB 8 rfl) (by decide) (by decide) (by decide) (by decide) (by decide) (by decide) ?_
        intro h179 x174 hx175 E176 ⟨A177, k178, B180⟩
        have B181 : Arv Z h179 x174 k178 .char 2 [(.int 0), (.int 0)] (.int 0) := B180.pad (pad_rep [] (.int 0) 2)
        refine go_dup d_b1_47 rfl rfl ?_
        refine go_iconst 0 d_b1_48 rfl (by decide) ?_
        refine go_iloadN d_b1_49 rfl rfl ?_
        refine go_castore 0 a d_b1_50 rfl ia.nar B181 ⟨by decide, by decide⟩ (by decide) (by show 0 < 2; decide) (List.Mem.head _) ?_
        intro h182 W183 B184
        have B185 : Arv Z h182 x174 k178 .char 2 [(.int a), (.int 0)] (.int 0) := B184
        refine go_dup d_b1_51 rfl rfl ?_
        refine go_iconst 1 d_b1_52 rfl (by decide) ?_
        refine go_iloadN d_b1_53 rfl rfl ?_
        refine go_castore 1 b d_b1_54 rfl ib.nar B185 ⟨by decide, by decide⟩ (by decide) (by show 1 < 2; decide) (List.Mem.head _) ?_
        intro h186 W187 B188
        have B189 : Arv Z h186 x174 k178 .char 2 [(.int a), (.int b)] (.int 0) := B188
        refine Go.owned (fun hgeN0 => ?_)
        have hgeN := fun y q => (hgeN0 y q).2
        have F190 := (Exa.wr W187 (Exa.wr W183 (Exa.ext E176 A169)))
        have F191 := (Fld.other W187 (Fld.other W183 (Fld.ext E176 F173) (Or.inl (Nat.ne_of_lt (Nat.lt_of_lt_of_le A169.lt (Nat.le_of_eq hx175.symm))))) (Or.inl (Nat.ne_of_lt (Nat.lt_of_lt_of_le A169.lt (Nat.le_of_eq hx175.symm)))))
        have F192 := (Fld.other W187 (Fld.other W183 (Fld.ext E176 F172) (Or.inl (Nat.ne_of_lt (Nat.lt_of_lt_of_le A169.lt (Nat.le_of_eq hx175.symm))))) (Or.inl (Nat.ne_of_lt (Nat.lt_of_lt_of_le A169.lt (Nat.le_of_eq hx175.symm)))))
        refine go_special x166 [(.ref x174)] [(.ref x166)] 1 d_b1_55 rfl rfl (wd hB 9 rfl) (wd hB 10 rfl) (wd hB 7 rfl) (wd hB 11 rfl) (c_sinit hB [a, b] (by simp) (by simp) (List.forall_mem_cons.mpr ⟨ia.le, (List.forall_mem_cons.mpr ⟨ib.le, (fun _ q => nomatch q)⟩)⟩) B189 F190 F191 F192 (hgeN x166 (List.Mem.tail _ (List.Mem.head _)))) (allS (List.Mem.tail _ (List.Mem.head _)) (fun _ q => nomatch q)) (lenOf pd_34 rfl) rfl rfl rfl (by decide) (by decide) (by decide) (by decide) (by decide) (fun v193 h194 s195 q196 => ?_)
        obtain ⟨rfl, rfl, K197, E198, F199, d200, k201, g202, F203, A204⟩ := q196
        show Go _ _ _ _ _ _ _ _ _ _ _ _ h194 [x174, x166] 3 22 58 #[.val (.int len), .val (.int a), .val (.int b), .val (.int c)] [(.ref x166)]
        refine go_retA d_b1_58 [] rfl rfl rfl rfl (by decide) (by decide) (fun _ q => nomatch q) ?_
        exact ⟨2, x166, _, _, hl2, by omega, rfl, rfl, (ext_of_keep ((((((Keep.refl h []).ext E168).ext E176).wr W183 (Or.inr (Nat.le_trans E168.1 (Nat.le_of_eq hx175.symm)))).wr W187 (Or.inr (Nat.le_trans E168.1 (Nat.le_of_eq hx175.symm)))).trans K197 (allS (Or.inr (Nat.le_of_eq hx167.symm)) all0))), (Nat.le_of_eq hx167.symm), E198, F199, F203, A204⟩
      · refine go_icmp_ne_t (pt := 59) d_b1_37 (by decide) (by decide) hl2 ?_
        refine go_new d_b1_59 rfl (wd hB 5 rfl) (wd hB 6 rfl) (wd hB 7 rfl) (by decide) (by decide) ?_
        intro h210 x205 hx206 E207 ⟨A208, D209⟩
        have F211 : Fld Z h210 x205 "java/lang/String" "coder" "B" (.int 0) := D209 (Or.inr (wd hB 32 rfl)) (ty := .byte) (by decide)
        have F212 : Fld Z h210 x205 "java/lang/String" "value" "[B" .null := D209 (Or.inr (wd hB 34 rfl)) (ty := (.array .byte)) (by decide)
        refine go_dup d_b1_62 rfl rfl ?_
        refine go_iconst 3 d_b1_63 rfl (by decide) ?_
        refine go_newarr (ty := .char) (ad := "[C") 3 d_b1_64 rfl rfl (wd hB 8 rfl) (by decide) (by decide) (by decide) (by decide) (by decide) (by decide) ?_
        intro h218 x213 hx214 E215 ⟨A216, k217, B219⟩
        have B220 : Arv Z h218 x213 k217 .char 3 [(.int 0), (.int 0), (.int 0)] (.int 0) := B219.pad (pad_rep [] (.int 0) 3)
        refine go_dup d_b1_66 rfl rfl ?_
        refine go_iconst 0 d_b1_67 rfl (by decide) ?_
        refine go_iloadN d_b1_68 rfl rfl ?_
        refine go_castore 0 a d_b1_69 rfl ia.nar B220 ⟨by decide, by decide⟩ (by decide) (by show 0 < 3; decide) (List.Mem.head _) ?_
        intro h221 W222 B223
        have B224 : Arv Z h221 x213 k217 .char 3 [(.int a), (.int 0), (.int 0)] (.int 0) := B223
        refine go_dup d_b1_70 rfl rfl ?_
        refine go_iconst 1 d_b1_71 rfl (by decide) ?_
        refine go_iloadN d_b1_72 rfl rfl ?_
        refine go_castore 1 b d_b1_73 rfl ib.nar B224 ⟨by decide, by decide⟩ (by decide) (by show 1 < 3; decide) (List.Mem.head _) ?_
        intro h225 W226 B227
        have B228 : Arv Z h225 x213 k217 .char 3 [(.int a), (.int b), (.int 0)] (.int 0) := B227
        refine go_dup d_b1_74 rfl rfl ?_
        refine go_iconst 2 d_b1_75 rfl (by decide) ?_
        refine go_iloadN d_b1_76 rfl rfl ?_
        refine go_castore 2 c d_b1_77 rfl ic.nar B228 ⟨by decide, by decide⟩ (by decide) (by show 2 < 3; decide) (List.Mem.head _) ?_
        intro h229 W230 B231
        have B232 : Arv Z h229 x213 k217 .char 3 [(.int a), (.int b), (.int c)] (.int 0) := B231
        refine Go.owned (fun hgeN0 => ?_)
        have hgeN := fun y q => (hgeN0 y q).2
        have F233 := (Exa.wr W230 (Exa.wr W226 (Exa.wr W222 (Exa.ext E215 A208))))
        have F234 := (Fld.other W230 (Fld.other W226 (Fld.other W222 (Fld.ext E215 F212) (Or.inl (Nat.ne_of_lt (Nat.lt_of_lt_of_le A208.lt (Nat.le_of_eq hx214.symm))))) (Or.inl (Nat.ne_of_lt (Nat.lt_of_lt_of_le A208.lt (Nat.le_of_eq hx214.symm))))) (Or.inl (Nat.ne_of_lt (Nat.lt_of_lt_of_le A208.lt (Nat.le_of_eq hx214.symm)))))
        have F235 := (Fld.other W230 (Fld.other W226 (Fld.other W222 (Fld.ext E215 F211) (Or.inl (Nat.ne_of_lt (Nat.lt_of_lt_of_le A208.lt (Nat.le_of_eq hx214.symm))))) (Or.inl (Nat.ne_of_lt (Nat.lt_of_lt_of_le A208.lt (Nat.le_of_eq hx214.symm))))) (Or.inl (Nat.ne_of_lt (Nat.lt_of_lt_of_le A208.lt (Nat.le_of_eq hx214.symm)))))
        refine go_special x205 [(.ref x213)] [(.ref x205)] 1 d_b1_78 rfl rfl (wd hB 9 rfl) (wd hB 10 rfl) (wd hB 7 rfl) (wd hB 11 rfl) (c_sinit hB [a, b, c] (by simp) (by simp) (List.forall_mem_cons.mpr ⟨ia.le, (List.forall_mem_cons.mpr ⟨ib.le, (List.forall_mem_cons.mpr ⟨ic.le, (fun _ q => nomatch q)⟩)⟩)⟩) B232 F233 F234 F235 (hgeN x205 (List.Mem.tail _ (List.Mem.head _)))) (allS (List.Mem.tail _ (List.Mem.head _)) (fun _ q => nomatch q)) (lenOf pd_34 rfl) rfl rfl rfl (by decide) (by decide) (by decide) (by decide) (by decide) (fun v236 h237 s238 q239 => ?_)
        obtain ⟨rfl, rfl, K240, E241, F242, d243, k244, g245, F246, A247⟩ := q239
        show Go _ _ _ _ _ _ _ _ _ _ _ _ h237 [x213, x205] 3 23 81 #[.val (.int len), .val (.int a), .val (.int b), .val (.int c)] [(.ref x205)]
        refine go_retA d_b1_81 [] rfl rfl rfl rfl (by decide) (by decide) (fun _ q => nomatch q) ?_
        exact ⟨3, x205, _, _, (is3 hl hl0 hl1 hl2), by omega, rfl, rfl, (ext_of_keep (((((((Keep.refl h []).ext E207).ext E215).wr W222 (Or.inr (Nat.le_trans E207.1 (Nat.le_of_eq hx214.symm)))).wr W226 (Or.inr (Nat.le_trans E207.1 (Nat.le_of_eq hx214.symm)))).wr W230 (Or.inr (Nat.le_trans E207.1 (Nat.le_of_eq hx214.symm)))).trans K240 (allS (Or.inr (Nat.le_of_eq hx206.symm)) all0))), (Nat.le_of_eq hx206.symm), E241, F242, F246, A247⟩
set_option maxRecDepth 65536 in
set_option maxHeartbeats 4000000 in
theorem c_at {l : Launch} {Z : State} {a0 : Array Value} {n0 : Nat} (hB : Base Z a0) {s d : Addr} {k : ClassId} (cs : List Int32) (hn : cs.length ≤ 4000) (i : Nat) (c : Int32) (hc : cs[i]? = some c) (hC : isC c) {h : Heap} (E : Exa Z h s "java/lang/String") (C : Fld Z h s "java/lang/String" "coder" "B" (.int 0)) (V : Fld Z h s "java/lang/String" "value" "[B" (.ref d)) (A : Arv Z h d k .byte (Int32.ofNat cs.length) (lo8s cs) (.int 0)) :
    Con l Z ELc n0 (⟨"com/example/atomic_lock/atomiclock/backend/HeldLockDescribePinLaw", "at", "(Ljava/lang/String;IC)Z"⟩ : MethodName) method_2_code 3 (Option.some FieldType.boolean) [] ({ frames := 4, cells := 0, slots := 0, locals := 53 } : Room) #[.ref s, .int (Int32.ofNat i), .int c] h [] (fun v h' sf' => v = some (.int 1) ∧ sf' = [] ∧ h = h') := by
  refine con_of (a0 := a0) (ls := #[.val (.ref s), .val (.int (Int32.ofNat i)), .val (.int c)]) (plainFor_of_name (by decide +kernel)) hB.2.1 (fun m => by first | (simp [entryFrame, mkF, argsToLocals, Value.category]; done) | (simp [entryFrame, mkF, argsToLocals, Value.category, maxLocals]; done) | rfl) ?_
  show Go l Z a0 ELc n0 ({ frames := 4, cells := 0, slots := 0, locals := 53 } : Room) "com/example/atomic_lock/atomiclock/backend/HeldLockDescribePinLaw" method_2_code 3 (Option.some FieldType.boolean) "at" _ h [] 0 0 0 #[.val (.ref s), .val (.int (Int32.ofNat i)), .val (.int c)] []
  have hi : i < cs.length := (List.getElem?_eq_some_iff.mp hc).1
  refine go_iloadN d_b38_0 rfl rfl ?_
  refine go_if_lt_f d_b38_1 rfl (ofN_nneg (by omega)) ?_
  refine go_iloadN d_b38_4 rfl rfl ?_
  refine go_aloadN d_b38_5 rfl rfl rfl ?_
  refine go_virtual s [] [(.int (Int32.ofNat i))] 1 d_b38_6 rfl E (wd hB 205 rfl) (wd hB 135 rfl) (nf_of (wd hB 137 rfl)) (wd hB 137 rfl) (wd hB 136 rfl) (wd hB 7 rfl) (wd hB 138 rfl) (c_len hB cs hn E C V A) (fun _ q => nomatch q) (lenOf pd_14 rfl) rfl rfl rfl (by decide) (by decide) (by decide) (by decide) (by decide) (fun v101 h102 s103 q104 => ?_)
  obtain ⟨rfl, rfl, rfl⟩ := q104
  show Go _ _ _ _ _ _ _ _ _ _ _ _ h [] 0 0 9 #[.val (.ref s), .val (.int (Int32.ofNat i)), .val (.int c)] [(.int (Int32.ofNat cs.length)), (.int (Int32.ofNat i))]
  refine go_icmp_ge_f d_b38_9 rfl (ofN_lt hi (by omega)) ?_
  refine go_aloadN d_b38_12 rfl rfl rfl ?_
  refine go_iloadN d_b38_13 rfl rfl ?_
  refine go_virtual s [(.int (Int32.ofNat i))] [] 0 d_b38_14 rfl E (wd hB 209 rfl) (wd hB 210 rfl) (nf_of (wd hB 212 rfl)) (wd hB 212 rfl) (wd hB 211 rfl) (wd hB 7 rfl) (wd hB 213 rfl) (c_char hB cs hn i c hc hC E C V A) (fun _ q => nomatch q) (lenOf pd_35 rfl) rfl rfl rfl (by decide) (by decide) (by decide) (by decide) (by decide) (fun v105 h106 s107 q108 => ?_)
  obtain ⟨rfl, rfl, rfl⟩ := q108
  show Go _ _ _ _ _ _ _ _ _ _ _ _ h [] 0 0 17 #[.val (.ref s), .val (.int (Int32.ofNat i)), .val (.int c)] [(.int c)]
  refine go_iloadN d_b38_17 rfl rfl ?_
  refine go_icmp_ne_f d_b38_18 rfl rfl ?_
  refine go_iconst 1 d_b38_21 rfl (by decide) ?_
  refine go_goto (pt := 26) d_b38_22 (by decide) (by decide) ?_
  refine go_retN (t := .boolean) d_b38_26 [] rfl (by simp) (by decide) (by decide) (fun _ q => nomatch q) ?_
  exact ⟨by decide, rfl, rfl⟩
set_option maxRecDepth 65536 in
set_option maxHeartbeats 4000000 in
theorem c_law {l : Launch} {Z : State} {a0 : Array Value} {n0 : Nat} (hB : Base Z a0) (ws : List Jvm.Cond) (p0 p1 p2 p3 p4 : Int32) {h : Heap} :
    Con l Z ELc n0 x code maxLocals ret ws room_1 #[.int p0, .int p1, .int p2, .int p3, .int p4] h [] (fun v h' sf' => v = some (.int 1)) := by
  refine con_of (a0 := a0) (ls := #[.val (.int p0), .val (.int p1), .val (.int p2), .val (.int p3), .val (.int p4), .unset, .unset, .unset, .unset, .unset, .unset, .unset, .unset, .unset, .unset]) (plainFor_of_name (by decide +kernel)) hB.2.1 (fun m => by first | (simp [entryFrame, mkF, argsToLocals, Value.category]; done) | (simp [entryFrame, mkF, argsToLocals, Value.category, maxLocals]; done) | rfl) ?_
  show Go l Z a0 ELc n0 room_1 "com/example/atomic_lock/atomiclock/backend/HeldLockDescribePinLaw" code maxLocals ret "law" (fun v h' sf' => v = some (.int 1)) h [] 0 0 0 #[.val (.int p0), .val (.int p1), .val (.int p2), .val (.int p3), .val (.int p4), .unset, .unset, .unset, .unset, .unset, .unset, .unset, .unset, .unset, .unset] []
  refine go_iloadN at_0 rfl rfl ?_
  refine go_iconst 3 at_1 rfl (by decide) ?_
  refine go_iand at_2 rfl ?_
  obtain ⟨k, ek⟩ : ∃ z : Int32, z = p0 &&& 3 := ⟨_, rfl⟩
  rw [← ek]
  have hk4 : 0 ≤ k.toInt ∧ k.toInt < 4 := by rw [ek]; have := and_rng p0 (m := 3) (by decide); exact ⟨this.1, Int.lt_of_le_of_lt this.2 (by decide)⟩
  refine go_istore at_3 rfl #[.val (.int p0), .val (.int p1), .val (.int p2), .val (.int p3), .val (.int p4), .val (.int k), .unset, .unset, .unset, .unset, .unset, .unset, .unset, .unset, .unset] rfl ?_
  refine go_iloadN at_5 rfl rfl ?_
  refine go_ldcI at_6 rfl (wd hB 0 rfl) ?_
  refine go_iand at_8 rfl ?_
  refine go_iconst 4 at_9 rfl (by decide) ?_
  refine go_irem at_10 rfl (by decide) ?_
  obtain ⟨len, el⟩ : ∃ z : Int32, z = (p1 &&& 2147483647) % 4 := ⟨_, rfl⟩
  rw [← el]
  have hl4 : 0 ≤ len.toInt ∧ len.toInt < 4 := by rw [el]; exact rem_rng (and_rng _ (by decide)).1 (by decide)
  refine go_istore at_11 rfl #[.val (.int p0), .val (.int p1), .val (.int p2), .val (.int p3), .val (.int p4), .val (.int k), .val (.int len), .unset, .unset, .unset, .unset, .unset, .unset, .unset, .unset] rfl ?_
  refine go_iloadN at_13 rfl rfl ?_
  refine go_sipush 255 at_14 rfl (by decide) ?_
  refine go_iand at_17 rfl ?_
  refine go_i2c at_18 rfl ?_
  rw [i2c_mask]
  obtain ⟨a, ea⟩ : ∃ z : Int32, z = p2 &&& 255 := ⟨_, rfl⟩
  rw [← ea]
  have ia : isC a := by rw [ea]; exact isC_and _
  refine go_istore at_19 rfl #[.val (.int p0), .val (.int p1), .val (.int p2), .val (.int p3), .val (.int p4), .val (.int k), .val (.int len), .val (.int a), .unset, .unset, .unset, .unset, .unset, .unset, .unset] rfl ?_
  refine go_iloadN at_21 rfl rfl ?_
  refine go_sipush 255 at_22 rfl (by decide) ?_
  refine go_iand at_25 rfl ?_
  refine go_i2c at_26 rfl ?_
  rw [i2c_mask]
  obtain ⟨b, eb⟩ : ∃ z : Int32, z = p3 &&& 255 := ⟨_, rfl⟩
  rw [← eb]
  have ib : isC b := by rw [eb]; exact isC_and _
  refine go_istore at_27 rfl #[.val (.int p0), .val (.int p1), .val (.int p2), .val (.int p3), .val (.int p4), .val (.int k), .val (.int len), .val (.int a), .val (.int b), .unset, .unset, .unset, .unset, .unset, .unset] rfl ?_
  refine go_iload at_29 rfl rfl ?_
  refine go_sipush 255 at_31 rfl (by decide) ?_
  refine go_iand at_34 rfl ?_
  refine go_i2c at_35 rfl ?_
  rw [i2c_mask]
  obtain ⟨c, ec⟩ : ∃ z : Int32, z = p4 &&& 255 := ⟨_, rfl⟩
  rw [← ec]
  have ic : isC c := by rw [ec]; exact isC_and _
  refine go_istore at_36 rfl #[.val (.int p0), .val (.int p1), .val (.int p2), .val (.int p3), .val (.int p4), .val (.int k), .val (.int len), .val (.int a), .val (.int b), .val (.int c), .unset, .unset, .unset, .unset, .unset] rfl ?_
  refine go_iload at_38 rfl rfl ?_
  refine go_iload at_40 rfl rfl ?_
  refine go_iload at_42 rfl rfl ?_
  refine go_iload at_44 rfl rfl ?_
  refine go_static [(.int len), (.int a), (.int b), (.int c)] [] 0 at_46 rfl (wd hB 1 rfl) (wd hB 2 rfl) (wd hB 3 rfl) (wd hB 4 rfl) (c_name hB len hl4 a b c ia ib ic) (fun _ q => nomatch q) (lenOf pd_36 rfl) rfl rfl rfl (by decide) (by decide) (by decide) (by decide) (by decide) (fun v101 h102 s103 q104 => ?_)
  obtain ⟨m, s, d, ks, em, hm, rfl, rfl, E1, g1, N1, N2, N3, N4⟩ := q104
  show Go _ _ _ _ _ _ _ _ _ _ _ _ h102 [] 6 23 49 #[.val (.int p0), .val (.int p1), .val (.int p2), .val (.int p3), .val (.int p4), .val (.int k), .val (.int len), .val (.int a), .val (.int b), .val (.int c), .unset, .unset, .unset, .unset, .unset] [(.ref s)]
  refine go_astore at_49 rfl #[.val (.int p0), .val (.int p1), .val (.int p2), .val (.int p3), .val (.int p4), .val (.int k), .val (.int len), .val (.int a), .val (.int b), .val (.int c), .val (.ref s), .unset, .unset, .unset, .unset] rfl rfl ?_
  refine go_new at_51 rfl (wd hB 35 rfl) (wd hB 36 rfl) (wd hB 37 rfl) (by decide) (by decide) ?_
  intro h110 x105 hx106 E107 ⟨A108, D109⟩
  have F111 : Fld Z h110 x105 "java/util/AbstractList" "modCount" "I" (.int 0) := D109 (Or.inl (wd hB 55 rfl)) (ty := .int) (by decide)
  have F112 : Fld Z h110 x105 "java/util/ArrayList" "elementData" "[Ljava/lang/Object;" .null := D109 (Or.inl (wd hB 58 rfl)) (ty := (.array (.object "java/lang/Object"))) (by decide)
  have F113 : Fld Z h110 x105 "java/util/ArrayList" "size" "I" (.int 0) := D109 (Or.inl (wd hB 73 rfl)) (ty := .int) (by decide)
  refine go_dup at_54 rfl rfl ?_
  refine go_special x105 [] [(.ref x105)] 1 at_55 rfl rfl (wd hB 38 rfl) (wd hB 39 rfl) (wd hB 37 rfl) (wd hB 40 rfl) (c_ali hB A108 F111 F113 F112) (allS (List.Mem.head _) (fun _ q => nomatch q)) (lenOf pd_23 rfl) rfl rfl rfl (by decide) (by decide) (by decide) (by decide) (by decide) (fun v114 h115 s116 q117 => ?_)
  obtain ⟨de, ke, rfl, rfl, K1, hSe, Ae, Y1, Y2, Y3, Y4⟩ := q117
  show Go _ _ _ _ _ _ _ _ _ _ _ _ h115 [x105] 7 26 58 #[.val (.int p0), .val (.int p1), .val (.int p2), .val (.int p3), .val (.int p4), .val (.int k), .val (.int len), .val (.int a), .val (.int b), .val (.int c), .val (.ref s), .unset, .unset, .unset, .unset] [(.ref x105)]
  refine go_astore at_58 rfl #[.val (.int p0), .val (.int p1), .val (.int p2), .val (.int p3), .val (.int p4), .val (.int k), .val (.int len), .val (.int a), .val (.int b), .val (.int c), .val (.ref s), .val (.ref x105), .unset, .unset, .unset] rfl rfl ?_
  rcases in4 hk4 with e4 | e4 | e4 | e4
  · subst e4
    show Go _ _ _ _ _ _ _ _ _ _ _ _ h115 [x105] 7 26 60 #[.val (.int p0), .val (.int p1), .val (.int p2), .val (.int p3), .val (.int p4), .val (.int 0), .val (.int len), .val (.int a), .val (.int b), .val (.int c), .val (.ref s), .val (.ref x105), .unset, .unset, .unset] []
    refine go_iload at_60 rfl rfl ?_
    refine go_iconst 1 at_62 rfl (by decide) ?_
    refine go_icmp_lt_t (pt := 85) at_63 (by decide) (by decide) (by decide) ?_
    refine go_iload at_85 rfl rfl ?_
    refine go_iconst 2 at_87 rfl (by decide) ?_
    refine go_icmp_lt_t (pt := 113) at_88 (by decide) (by decide) (by decide) ?_
    refine go_iload at_113 rfl rfl ?_
    refine go_iconst 3 at_115 rfl (by decide) ?_
    refine go_icmp_lt_t (pt := 141) at_116 (by decide) (by decide) (by decide) ?_
    refine go_aload at_141 rfl rfl rfl ?_
    refine go_static [(.ref x105)] [] 0 at_143 rfl (wd hB 59 rfl) (wd hB 60 rfl) (wd hB 61 rfl) (wd hB 62 rfl) (c_descn hB 0 (by omega) (by omega) Y1 Y3) (fun _ q => nomatch q) (lenOf pd_37 rfl) rfl rfl rfl (by decide) (by decide) (by decide) (by decide) (by decide) (fun v118 h119 s120 q121 => ?_)
    obtain ⟨r, d2, k2, rfl, rfl, E2, g3, g4, R1, R2, R3, R4⟩ := q121
    show Go _ _ _ _ _ _ _ _ _ _ _ _ h119 [x105] 13 94 146 #[.val (.int p0), .val (.int p1), .val (.int p2), .val (.int p3), .val (.int p4), .val (.int 0), .val (.int len), .val (.int a), .val (.int b), .val (.int c), .val (.ref s), .val (.ref x105), .unset, .unset, .unset] [(.ref r)]
    refine go_astore at_146 rfl #[.val (.int p0), .val (.int p1), .val (.int p2), .val (.int p3), .val (.int p4), .val (.int 0), .val (.int len), .val (.int a), .val (.int b), .val (.int c), .val (.ref s), .val (.ref x105), .val (.ref r), .unset, .unset] rfl rfl ?_
    refine go_aload at_148 rfl rfl rfl ?_
    refine go_ifnonnull_t (pt := 155) at_150 (by decide) (by decide) ?_
    refine go_iload at_155 rfl rfl ?_
    refine go_iconst 1 at_157 rfl (by decide) ?_
    refine go_icmp_ne_t (pt := 384) at_158 (by decide) (by decide) (by decide) ?_
    refine go_aload at_384 rfl rfl rfl ?_
    refine go_virtual r [] [] 0 at_386 rfl R1 (wd hB 205 rfl) (wd hB 135 rfl) (nf_of (wd hB 137 rfl)) (wd hB 137 rfl) (wd hB 136 rfl) (wd hB 7 rfl) (wd hB 138 rfl) (c_len hB ([Int32.ofNat (48 + 0)] ++ [32, 108, 111, 99, 107, 115]) (by show 7 ≤ 4000; decide) R1 R2 R3 R4) (fun _ q => nomatch q) (lenOf pd_14 rfl) rfl rfl rfl (by decide) (by decide) (by decide) (by decide) (by decide) (fun v122 h123 s124 q125 => ?_)
    obtain ⟨rfl, rfl, rfl⟩ := q125
    show Go _ _ _ _ _ _ _ _ _ _ _ _ h119 [x105] 13 94 389 #[.val (.int p0), .val (.int p1), .val (.int p2), .val (.int p3), .val (.int p4), .val (.int 0), .val (.int len), .val (.int a), .val (.int b), .val (.int c), .val (.ref s), .val (.ref x105), .val (.ref r), .unset, .unset] [(.int 7)]
    refine go_bipush 7 at_389 rfl (by decide) ?_
    refine go_icmp_eq_t (pt := 396) at_391 (by decide) (by decide) (by decide) ?_
    refine go_aload at_396 rfl rfl rfl ?_
    refine go_iconst 0 at_398 rfl (by decide) ?_
    refine go_bipush 48 at_399 rfl (by decide) ?_
    refine go_iload at_401 rfl rfl ?_
    refine go_iadd at_403 rfl ?_
    refine go_i2c at_404 rfl ?_
    rw [show ((48 : Int32) + 0).toUInt32.toUInt16.toUInt32.toInt32 = 48 from by decide]
    refine go_static [(.ref r), (.int 0), (.int 48)] [] 0 at_405 rfl (wd hB 206 rfl) (wd hB 207 rfl) (wd hB 3 rfl) (wd hB 208 rfl) (c_at hB ([Int32.ofNat (48 + 0)] ++ [32, 108, 111, 99, 107, 115]) (by show 7 ≤ 4000; decide) 0 48 rfl ⟨by decide, by decide⟩ R1 R2 R3 R4) (fun _ q => nomatch q) (lenOf pd_38 rfl) rfl rfl rfl (by decide) (by decide) (by decide) (by decide) (by decide) (fun v126 h127 s128 q129 => ?_)
    obtain ⟨rfl, rfl, rfl⟩ := q129
    show Go _ _ _ _ _ _ _ _ _ _ _ _ h119 [x105] 13 94 408 #[.val (.int p0), .val (.int p1), .val (.int p2), .val (.int p3), .val (.int p4), .val (.int 0), .val (.int len), .val (.int a), .val (.int b), .val (.int c), .val (.ref s), .val (.ref x105), .val (.ref r), .unset, .unset] [(.int 1)]
    refine go_if_eq_f at_408 rfl (by decide) ?_
    refine go_aload at_411 rfl rfl rfl ?_
    refine go_iconst 1 at_413 rfl (by decide) ?_
    refine go_bipush 32 at_414 rfl (by decide) ?_
    refine go_static [(.ref r), (.int 1), (.int 32)] [] 0 at_416 rfl (wd hB 206 rfl) (wd hB 207 rfl) (wd hB 3 rfl) (wd hB 208 rfl) (c_at hB ([Int32.ofNat (48 + 0)] ++ [32, 108, 111, 99, 107, 115]) (by show 7 ≤ 4000; decide) 1 32 rfl ⟨by decide, by decide⟩ R1 R2 R3 R4) (fun _ q => nomatch q) (lenOf pd_38 rfl) rfl rfl rfl (by decide) (by decide) (by decide) (by decide) (by decide) (fun v130 h131 s132 q133 => ?_)
    obtain ⟨rfl, rfl, rfl⟩ := q133
    show Go _ _ _ _ _ _ _ _ _ _ _ _ h119 [x105] 13 94 419 #[.val (.int p0), .val (.int p1), .val (.int p2), .val (.int p3), .val (.int p4), .val (.int 0), .val (.int len), .val (.int a), .val (.int b), .val (.int c), .val (.ref s), .val (.ref x105), .val (.ref r), .unset, .unset] [(.int 1)]
    refine go_if_eq_f at_419 rfl (by decide) ?_
    refine go_aload at_422 rfl rfl rfl ?_
    refine go_iconst 2 at_424 rfl (by decide) ?_
    refine go_bipush 108 at_425 rfl (by decide) ?_
    refine go_static [(.ref r), (.int 2), (.int 108)] [] 0 at_427 rfl (wd hB 206 rfl) (wd hB 207 rfl) (wd hB 3 rfl) (wd hB 208 rfl) (c_at hB ([Int32.ofNat (48 + 0)] ++ [32, 108, 111, 99, 107, 115]) (by show 7 ≤ 4000; decide) 2 108 rfl ⟨by decide, by decide⟩ R1 R2 R3 R4) (fun _ q => nomatch q) (lenOf pd_38 rfl) rfl rfl rfl (by decide) (by decide) (by decide) (by decide) (by decide) (fun v134 h135 s136 q137 => ?_)
    obtain ⟨rfl, rfl, rfl⟩ := q137
    show Go _ _ _ _ _ _ _ _ _ _ _ _ h119 [x105] 13 94 430 #[.val (.int p0), .val (.int p1), .val (.int p2), .val (.int p3), .val (.int p4), .val (.int 0), .val (.int len), .val (.int a), .val (.int b), .val (.int c), .val (.ref s), .val (.ref x105), .val (.ref r), .unset, .unset] [(.int 1)]
    refine go_if_eq_f at_430 rfl (by decide) ?_
    refine go_aload at_433 rfl rfl rfl ?_
    refine go_iconst 3 at_435 rfl (by decide) ?_
    refine go_bipush 111 at_436 rfl (by decide) ?_
    refine go_static [(.ref r), (.int 3), (.int 111)] [] 0 at_438 rfl (wd hB 206 rfl) (wd hB 207 rfl) (wd hB 3 rfl) (wd hB 208 rfl) (c_at hB ([Int32.ofNat (48 + 0)] ++ [32, 108, 111, 99, 107, 115]) (by show 7 ≤ 4000; decide) 3 111 rfl ⟨by decide, by decide⟩ R1 R2 R3 R4) (fun _ q => nomatch q) (lenOf pd_38 rfl) rfl rfl rfl (by decide) (by decide) (by decide) (by decide) (by decide) (fun v138 h139 s140 q141 => ?_)
    obtain ⟨rfl, rfl, rfl⟩ := q141
    show Go _ _ _ _ _ _ _ _ _ _ _ _ h119 [x105] 13 94 441 #[.val (.int p0), .val (.int p1), .val (.int p2), .val (.int p3), .val (.int p4), .val (.int 0), .val (.int len), .val (.int a), .val (.int b), .val (.int c), .val (.ref s), .val (.ref x105), .val (.ref r), .unset, .unset] [(.int 1)]
    refine go_if_eq_f at_441 rfl (by decide) ?_
    refine go_aload at_444 rfl rfl rfl ?_
    refine go_iconst 4 at_446 rfl (by decide) ?_
    refine go_bipush 99 at_447 rfl (by decide) ?_
    refine go_static [(.ref r), (.int 4), (.int 99)] [] 0 at_449 rfl (wd hB 206 rfl) (wd hB 207 rfl) (wd hB 3 rfl) (wd hB 208 rfl) (c_at hB ([Int32.ofNat (48 + 0)] ++ [32, 108, 111, 99, 107, 115]) (by show 7 ≤ 4000; decide) 4 99 rfl ⟨by decide, by decide⟩ R1 R2 R3 R4) (fun _ q => nomatch q) (lenOf pd_38 rfl) rfl rfl rfl (by decide) (by decide) (by decide) (by decide) (by decide) (fun v142 h143 s144 q145 => ?_)
    obtain ⟨rfl, rfl, rfl⟩ := q145
    show Go _ _ _ _ _ _ _ _ _ _ _ _ h119 [x105] 13 94 452 #[.val (.int p0), .val (.int p1), .val (.int p2), .val (.int p3), .val (.int p4), .val (.int 0), .val (.int len), .val (.int a), .val (.int b), .val (.int c), .val (.ref s), .val (.ref x105), .val (.ref r), .unset, .unset] [(.int 1)]
    refine go_if_eq_f at_452 rfl (by decide) ?_
    refine go_aload at_455 rfl rfl rfl ?_
    refine go_iconst 5 at_457 rfl (by decide) ?_
    refine go_bipush 107 at_458 rfl (by decide) ?_
    refine go_static [(.ref r), (.int 5), (.int 107)] [] 0 at_460 rfl (wd hB 206 rfl) (wd hB 207 rfl) (wd hB 3 rfl) (wd hB 208 rfl) (c_at hB ([Int32.ofNat (48 + 0)] ++ [32, 108, 111, 99, 107, 115]) (by show 7 ≤ 4000; decide) 5 107 rfl ⟨by decide, by decide⟩ R1 R2 R3 R4) (fun _ q => nomatch q) (lenOf pd_38 rfl) rfl rfl rfl (by decide) (by decide) (by decide) (by decide) (by decide) (fun v146 h147 s148 q149 => ?_)
    obtain ⟨rfl, rfl, rfl⟩ := q149
    show Go _ _ _ _ _ _ _ _ _ _ _ _ h119 [x105] 13 94 463 #[.val (.int p0), .val (.int p1), .val (.int p2), .val (.int p3), .val (.int p4), .val (.int 0), .val (.int len), .val (.int a), .val (.int b), .val (.int c), .val (.ref s), .val (.ref x105), .val (.ref r), .unset, .unset] [(.int 1)]
    refine go_if_eq_f at_463 rfl (by decide) ?_
    refine go_aload at_466 rfl rfl rfl ?_
    refine go_bipush 6 at_468 rfl (by decide) ?_
    refine go_bipush 115 at_470 rfl (by decide) ?_
    refine go_static [(.ref r), (.int 6), (.int 115)] [] 0 at_472 rfl (wd hB 206 rfl) (wd hB 207 rfl) (wd hB 3 rfl) (wd hB 208 rfl) (c_at hB ([Int32.ofNat (48 + 0)] ++ [32, 108, 111, 99, 107, 115]) (by show 7 ≤ 4000; decide) 6 115 rfl ⟨by decide, by decide⟩ R1 R2 R3 R4) (fun _ q => nomatch q) (lenOf pd_38 rfl) rfl rfl rfl (by decide) (by decide) (by decide) (by decide) (by decide) (fun v150 h151 s152 q153 => ?_)
    obtain ⟨rfl, rfl, rfl⟩ := q153
    show Go _ _ _ _ _ _ _ _ _ _ _ _ h119 [x105] 13 94 475 #[.val (.int p0), .val (.int p1), .val (.int p2), .val (.int p3), .val (.int p4), .val (.int 0), .val (.int len), .val (.int a), .val (.int b), .val (.int c), .val (.ref s), .val (.ref x105), .val (.ref r), .unset, .unset] [(.int 1)]
    refine go_if_eq_f at_475 rfl (by decide) ?_
    refine go_iconst 1 at_478 rfl (by decide) ?_
    refine go_goto (pt := 483) at_479 (by decide) (by decide) ?_
    refine go_retN (t := .boolean) at_483 [] rfl (by simp) (by decide) (by decide) (fun _ q => nomatch q) ?_
    decide
  · subst e4
    show Go _ _ _ _ _ _ _ _ _ _ _ _ h115 [x105] 7 26 60 #[.val (.int p0), .val (.int p1), .val (.int p2), .val (.int p3), .val (.int p4), .val (.int 1), .val (.int len), .val (.int a), .val (.int b), .val (.int c), .val (.ref s), .val (.ref x105), .unset, .unset, .unset] []
    refine go_iload at_60 rfl rfl ?_
    refine go_iconst 1 at_62 rfl (by decide) ?_
    refine go_icmp_lt_f at_63 rfl (by decide) ?_
    refine go_aload at_66 rfl rfl rfl ?_
    refine go_new at_68 rfl (wd hB 232 rfl) (wd hB 233 rfl) (wd hB 61 rfl) (by decide) (by decide) ?_
    intro h159 x154 hx155 E156 ⟨A157, D158⟩
    have F160 : Fld Z h159 x154 "com/example/atomic_lock/atomiclock/backend/HeldLock" "name" "Ljava/lang/String;" .null := D158 (Or.inr (wd hB 244 rfl)) (ty := (.object "java/lang/String")) (by decide)
    have F161 : Fld Z h159 x154 "com/example/atomic_lock/atomiclock/backend/HeldLock" "ownerToken" "Ljava/lang/String;" .null := D158 (Or.inr (wd hB 246 rfl)) (ty := (.object "java/lang/String")) (by decide)
    have F162 : Fld Z h159 x154 "com/example/atomic_lock/atomiclock/backend/HeldLock" "fencingToken" "Ljava/util/OptionalLong;" .null := D158 (Or.inr (wd hB 248 rfl)) (ty := (.object "java/util/OptionalLong")) (by decide)
    refine go_dup at_71 rfl rfl ?_
    refine go_aload at_72 rfl rfl rfl ?_
    refine go_aconstNull at_74 rfl ?_
    refine go_aconstNull at_75 rfl ?_
    refine go_special x154 [(.ref s), .null, .null] [(.ref x154), (.ref x105)] 2 at_76 rfl rfl (wd hB 234 rfl) (wd hB 235 rfl) (wd hB 61 rfl) (wd hB 236 rfl) (c_hli hB A157 F160 F161 F162) (allS (List.Mem.head _) (fun _ q => nomatch q)) (lenOf pd_39 rfl) rfl rfl rfl (by decide) (by decide) (by decide) (by decide) (by decide) (fun v163 h164 s165 q166 => ?_)
    obtain ⟨rfl, rfl, K167, E168, F169⟩ := q166
    show Go _ _ _ _ _ _ _ _ _ _ _ _ h164 [x154, x105] 8 29 79 #[.val (.int p0), .val (.int p1), .val (.int p2), .val (.int p3), .val (.int p4), .val (.int 1), .val (.int len), .val (.int a), .val (.int b), .val (.int c), .val (.ref s), .val (.ref x105), .unset, .unset, .unset] [(.ref x154), (.ref x105)]
    have F170 := ((Ae.ext E156).keep K167 (ninS (Nat.ne_of_lt (Nat.lt_of_lt_of_le Ae.lt (Nat.le_of_eq hx155.symm))) nin0))
    have F171 := ((Exa.ext E156 Y1).keep K167)
    have F172 := ((Fld.ext E156 Y3).keep K167 (ninS (Nat.ne_of_lt (Nat.lt_of_lt_of_le Y1.lt (Nat.le_of_eq hx155.symm))) nin0))
    have F173 := ((Fld.ext E156 Y4).keep K167 (ninS (Nat.ne_of_lt (Nat.lt_of_lt_of_le Y1.lt (Nat.le_of_eq hx155.symm))) nin0))
    have F174 := ((Fld.ext E156 Y2).keep K167 (ninS (Nat.ne_of_lt (Nat.lt_of_lt_of_le Y1.lt (Nat.le_of_eq hx155.symm))) nin0))
    refine go_iface x105 [(.ref x154)] [] 0 at_79 rfl F171 (wd hB 249 rfl) (wd hB 250 rfl) (wd hB 251 rfl) rfl (wd hB 252 rfl) (wd hB 253 rfl) (wd hB 254 rfl) (wd hB 255 rfl) (wd hB 70 rfl) (wd hB 37 rfl) (wd hB 256 rfl) (c_adda hB hSe F170 F171 F172 F173 F174 E168) (allS (List.Mem.tail _ (List.Mem.head _)) (fun _ q => nomatch q)) (lenOf pd_40 rfl) rfl rfl rfl (by decide) (by decide) (by decide) (by decide) (by decide) (fun v175 h176 s177 q178 => ?_)
    obtain ⟨e, kx, rfl, rfl, K2, g2, A2, O2, Z1, Z2, Z3, Z4⟩ := q178
    show Go _ _ _ _ _ _ _ _ _ _ _ _ h176 [e, x154, x105] 9 39 84 #[.val (.int p0), .val (.int p1), .val (.int p2), .val (.int p3), .val (.int p4), .val (.int 1), .val (.int len), .val (.int a), .val (.int b), .val (.int c), .val (.ref s), .val (.ref x105), .unset, .unset, .unset] [(.int 1)]
    refine go_pop at_84 rfl rfl ?_
    refine go_iload at_85 rfl rfl ?_
    refine go_iconst 2 at_87 rfl (by decide) ?_
    refine go_icmp_lt_t (pt := 113) at_88 (by decide) (by decide) (by decide) ?_
    refine go_iload at_113 rfl rfl ?_
    refine go_iconst 3 at_115 rfl (by decide) ?_
    refine go_icmp_lt_t (pt := 141) at_116 (by decide) (by decide) (by decide) ?_
    refine go_aload at_141 rfl rfl rfl ?_
    have F179 := (E168.keep K2)
    have F180 := (F169.keep K2 (ninS (Ne.symm (Nat.ne_of_lt (Nat.lt_of_lt_of_le Y1.lt (Nat.le_of_eq hx155.symm)))) nin0))
    have F181 := (((Exa.ext E156 ((Exa.ext E107 N1).keep K1)).keep K167).keep K2)
    have F182 := (((Fld.ext E156 ((Fld.ext E107 N2).keep K1 (ninS (Nat.ne_of_lt (Nat.lt_of_lt_of_le N1.lt (Nat.le_of_eq hx106.symm))) nin0))).keep K167 (ninS (Nat.ne_of_lt (Nat.lt_of_lt_of_le (Nat.lt_of_lt_of_le (Nat.lt_of_lt_of_le N1.lt E107.1) K1.1) (Nat.le_of_eq hx155.symm))) nin0)).keep K2 (ninS (Nat.ne_of_lt (Nat.lt_of_lt_of_le N1.lt (Nat.le_of_eq hx106.symm))) nin0))
    have F183 := (((Fld.ext E156 ((Fld.ext E107 N3).keep K1 (ninS (Nat.ne_of_lt (Nat.lt_of_lt_of_le N1.lt (Nat.le_of_eq hx106.symm))) nin0))).keep K167 (ninS (Nat.ne_of_lt (Nat.lt_of_lt_of_le (Nat.lt_of_lt_of_le (Nat.lt_of_lt_of_le N1.lt E107.1) K1.1) (Nat.le_of_eq hx155.symm))) nin0)).keep K2 (ninS (Nat.ne_of_lt (Nat.lt_of_lt_of_le N1.lt (Nat.le_of_eq hx106.symm))) nin0))
    have F184 := (((((N4.ext E107).keep K1 (ninS (Nat.ne_of_lt (Nat.lt_of_lt_of_le N4.lt (Nat.le_of_eq hx106.symm))) nin0)).ext E156).keep K167 (ninS (Nat.ne_of_lt (Nat.lt_of_lt_of_le (Nat.lt_of_lt_of_le (Nat.lt_of_lt_of_le N4.lt E107.1) K1.1) (Nat.le_of_eq hx155.symm))) nin0)).keep K2 (ninS (Nat.ne_of_lt (Nat.lt_of_lt_of_le N4.lt (Nat.le_of_eq hx106.symm))) nin0))
    refine go_static [(.ref x105)] [] 0 at_143 rfl (wd hB 59 rfl) (wd hB 60 rfl) (wd hB 61 rfl) (wd hB 62 rfl) (c_desc1 hB ([a, b, c].take m) (by rw [List.length_take]; exact Nat.min_le_right m 3) Z1 Z2 Z3 A2 F179 F180 F181 F182 F183 F184) (fun _ q => nomatch q) (lenOf pd_37 rfl) rfl rfl rfl (by decide) (by decide) (by decide) (by decide) (by decide) (fun v185 h186 s187 q188 => ?_)
    obtain ⟨r, d2, k2, rfl, rfl, E2, g3, g4, R1, R2, R3, R4⟩ := q188
    show Go _ _ _ _ _ _ _ _ _ _ _ _ h186 [e, x154, x105] 17 115 146 #[.val (.int p0), .val (.int p1), .val (.int p2), .val (.int p3), .val (.int p4), .val (.int 1), .val (.int len), .val (.int a), .val (.int b), .val (.int c), .val (.ref s), .val (.ref x105), .unset, .unset, .unset] [(.ref r)]
    refine go_astore at_146 rfl #[.val (.int p0), .val (.int p1), .val (.int p2), .val (.int p3), .val (.int p4), .val (.int 1), .val (.int len), .val (.int a), .val (.int b), .val (.int c), .val (.ref s), .val (.ref x105), .val (.ref r), .unset, .unset] rfl rfl ?_
    refine go_aload at_148 rfl rfl rfl ?_
    refine go_ifnonnull_t (pt := 155) at_150 (by decide) (by decide) ?_
    refine go_iload at_155 rfl rfl ?_
    refine go_iconst 1 at_157 rfl (by decide) ?_
    refine go_icmp_ne_f at_158 rfl (by decide) ?_
    rcases (by omega : m = 0 ∨ m = 1 ∨ m = 2 ∨ m = 3) with e5 | e5 | e5 | e5
    · subst e5
      show Go _ _ _ _ _ _ _ _ _ _ _ _ h186 [e, x154, x105] 17 115 161 #[.val (.int p0), .val (.int p1), .val (.int p2), .val (.int p3), .val (.int p4), .val (.int 1), .val (.int len), .val (.int a), .val (.int b), .val (.int c), .val (.ref s), .val (.ref x105), .val (.ref r), .unset, .unset] []
      refine go_aload at_161 rfl rfl rfl ?_
      have F189 := (Exa.ext E2 F181)
      have F190 := (Fld.ext E2 F182)
      have F191 := (Fld.ext E2 F183)
      have F192 := (F184.ext E2)
      refine go_virtual s [] [] 0 at_163 rfl F189 (wd hB 205 rfl) (wd hB 135 rfl) (nf_of (wd hB 137 rfl)) (wd hB 137 rfl) (wd hB 136 rfl) (wd hB 7 rfl) (wd hB 138 rfl) (c_len hB (([] : List Int32)) (by show 0 ≤ 4000; decide) F189 F190 F191 F192) (fun _ q => nomatch q) (lenOf pd_14 rfl) rfl rfl rfl (by decide) (by decide) (by decide) (by decide) (by decide) (fun v193 h194 s195 q196 => ?_)
      obtain ⟨rfl, rfl, rfl⟩ := q196
      show Go _ _ _ _ _ _ _ _ _ _ _ _ h186 [e, x154, x105] 17 115 166 #[.val (.int p0), .val (.int p1), .val (.int p2), .val (.int p3), .val (.int p4), .val (.int 1), .val (.int len), .val (.int a), .val (.int b), .val (.int c), .val (.ref s), .val (.ref x105), .val (.ref r), .unset, .unset] [(.int 0)]
      refine go_istore at_166 rfl #[.val (.int p0), .val (.int p1), .val (.int p2), .val (.int p3), .val (.int p4), .val (.int 1), .val (.int len), .val (.int a), .val (.int b), .val (.int c), .val (.ref s), .val (.ref x105), .val (.ref r), .val (.int 0), .unset] rfl ?_
      refine go_aload at_168 rfl rfl rfl ?_
      refine go_virtual r [] [] 0 at_170 rfl R1 (wd hB 205 rfl) (wd hB 135 rfl) (nf_of (wd hB 137 rfl)) (wd hB 137 rfl) (wd hB 136 rfl) (wd hB 7 rfl) (wd hB 138 rfl) (c_len hB ([108, 111, 99, 107, 32, 39] ++ ([] : List Int32) ++ [39]) (by show 7 ≤ 4000; decide) R1 R2 R3 R4) (fun _ q => nomatch q) (lenOf pd_14 rfl) rfl rfl rfl (by decide) (by decide) (by decide) (by decide) (by decide) (fun v197 h198 s199 q200 => ?_)
      obtain ⟨rfl, rfl, rfl⟩ := q200
      show Go _ _ _ _ _ _ _ _ _ _ _ _ h186 [e, x154, x105] 17 115 173 #[.val (.int p0), .val (.int p1), .val (.int p2), .val (.int p3), .val (.int p4), .val (.int 1), .val (.int len), .val (.int a), .val (.int b), .val (.int c), .val (.ref s), .val (.ref x105), .val (.ref r), .val (.int 0), .unset] [(.int 7)]
      refine go_iload at_173 rfl rfl ?_
      refine go_bipush 7 at_175 rfl (by decide) ?_
      refine go_iadd at_177 rfl ?_
      rw [show (0 : Int32) + 7 = 7 from by decide]
      refine go_icmp_eq_t (pt := 183) at_178 (by decide) (by decide) (by decide) ?_
      refine go_aload at_183 rfl rfl rfl ?_
      refine go_iconst 0 at_185 rfl (by decide) ?_
      refine go_bipush 108 at_186 rfl (by decide) ?_
      refine go_static [(.ref r), (.int 0), (.int 108)] [] 0 at_188 rfl (wd hB 206 rfl) (wd hB 207 rfl) (wd hB 3 rfl) (wd hB 208 rfl) (c_at hB ([108, 111, 99, 107, 32, 39] ++ ([] : List Int32) ++ [39]) (by show 7 ≤ 4000; decide) 0 108 rfl ⟨by decide, by decide⟩ R1 R2 R3 R4) (fun _ q => nomatch q) (lenOf pd_38 rfl) rfl rfl rfl (by decide) (by decide) (by decide) (by decide) (by decide) (fun v201 h202 s203 q204 => ?_)
      obtain ⟨rfl, rfl, rfl⟩ := q204
      show Go _ _ _ _ _ _ _ _ _ _ _ _ h186 [e, x154, x105] 17 115 191 #[.val (.int p0), .val (.int p1), .val (.int p2), .val (.int p3), .val (.int p4), .val (.int 1), .val (.int len), .val (.int a), .val (.int b), .val (.int c), .val (.ref s), .val (.ref x105), .val (.ref r), .val (.int 0), .unset] [(.int 1)]
      refine go_if_eq_f at_191 rfl (by decide) ?_
      refine go_aload at_194 rfl rfl rfl ?_
      refine go_iconst 1 at_196 rfl (by decide) ?_
      refine go_bipush 111 at_197 rfl (by decide) ?_
      refine go_static [(.ref r), (.int 1), (.int 111)] [] 0 at_199 rfl (wd hB 206 rfl) (wd hB 207 rfl) (wd hB 3 rfl) (wd hB 208 rfl) (c_at hB ([108, 111, 99, 107, 32, 39] ++ ([] : List Int32) ++ [39]) (by show 7 ≤ 4000; decide) 1 111 rfl ⟨by decide, by decide⟩ R1 R2 R3 R4) (fun _ q => nomatch q) (lenOf pd_38 rfl) rfl rfl rfl (by decide) (by decide) (by decide) (by decide) (by decide) (fun v205 h206 s207 q208 => ?_)
      obtain ⟨rfl, rfl, rfl⟩ := q208
      show Go _ _ _ _ _ _ _ _ _ _ _ _ h186 [e, x154, x105] 17 115 202 #[.val (.int p0), .val (.int p1), .val (.int p2), .val (.int p3), .val (.int p4), .val (.int 1), .val (.int len), .val (.int a), .val (.int b), .val (.int c), .val (.ref s), .val (.ref x105), .val (.ref r), .val (.int 0), .unset] [(.int 1)]
      refine go_if_eq_f at_202 rfl (by decide) ?_
      refine go_aload at_205 rfl rfl rfl ?_
      refine go_iconst 2 at_207 rfl (by decide) ?_
      refine go_bipush 99 at_208 rfl (by decide) ?_
      refine go_static [(.ref r), (.int 2), (.int 99)] [] 0 at_210 rfl (wd hB 206 rfl) (wd hB 207 rfl) (wd hB 3 rfl) (wd hB 208 rfl) (c_at hB ([108, 111, 99, 107, 32, 39] ++ ([] : List Int32) ++ [39]) (by show 7 ≤ 4000; decide) 2 99 rfl ⟨by decide, by decide⟩ R1 R2 R3 R4) (fun _ q => nomatch q) (lenOf pd_38 rfl) rfl rfl rfl (by decide) (by decide) (by decide) (by decide) (by decide) (fun v209 h210 s211 q212 => ?_)
      obtain ⟨rfl, rfl, rfl⟩ := q212
      show Go _ _ _ _ _ _ _ _ _ _ _ _ h186 [e, x154, x105] 17 115 213 #[.val (.int p0), .val (.int p1), .val (.int p2), .val (.int p3), .val (.int p4), .val (.int 1), .val (.int len), .val (.int a), .val (.int b), .val (.int c), .val (.ref s), .val (.ref x105), .val (.ref r), .val (.int 0), .unset] [(.int 1)]
      refine go_if_eq_f at_213 rfl (by decide) ?_
      refine go_aload at_216 rfl rfl rfl ?_
      refine go_iconst 3 at_218 rfl (by decide) ?_
      refine go_bipush 107 at_219 rfl (by decide) ?_
      refine go_static [(.ref r), (.int 3), (.int 107)] [] 0 at_221 rfl (wd hB 206 rfl) (wd hB 207 rfl) (wd hB 3 rfl) (wd hB 208 rfl) (c_at hB ([108, 111, 99, 107, 32, 39] ++ ([] : List Int32) ++ [39]) (by show 7 ≤ 4000; decide) 3 107 rfl ⟨by decide, by decide⟩ R1 R2 R3 R4) (fun _ q => nomatch q) (lenOf pd_38 rfl) rfl rfl rfl (by decide) (by decide) (by decide) (by decide) (by decide) (fun v213 h214 s215 q216 => ?_)
      obtain ⟨rfl, rfl, rfl⟩ := q216
      show Go _ _ _ _ _ _ _ _ _ _ _ _ h186 [e, x154, x105] 17 115 224 #[.val (.int p0), .val (.int p1), .val (.int p2), .val (.int p3), .val (.int p4), .val (.int 1), .val (.int len), .val (.int a), .val (.int b), .val (.int c), .val (.ref s), .val (.ref x105), .val (.ref r), .val (.int 0), .unset] [(.int 1)]
      refine go_if_eq_f at_224 rfl (by decide) ?_
      refine go_aload at_227 rfl rfl rfl ?_
      refine go_iconst 4 at_229 rfl (by decide) ?_
      refine go_bipush 32 at_230 rfl (by decide) ?_
      refine go_static [(.ref r), (.int 4), (.int 32)] [] 0 at_232 rfl (wd hB 206 rfl) (wd hB 207 rfl) (wd hB 3 rfl) (wd hB 208 rfl) (c_at hB ([108, 111, 99, 107, 32, 39] ++ ([] : List Int32) ++ [39]) (by show 7 ≤ 4000; decide) 4 32 rfl ⟨by decide, by decide⟩ R1 R2 R3 R4) (fun _ q => nomatch q) (lenOf pd_38 rfl) rfl rfl rfl (by decide) (by decide) (by decide) (by decide) (by decide) (fun v217 h218 s219 q220 => ?_)
      obtain ⟨rfl, rfl, rfl⟩ := q220
      show Go _ _ _ _ _ _ _ _ _ _ _ _ h186 [e, x154, x105] 17 115 235 #[.val (.int p0), .val (.int p1), .val (.int p2), .val (.int p3), .val (.int p4), .val (.int 1), .val (.int len), .val (.int a), .val (.int b), .val (.int c), .val (.ref s), .val (.ref x105), .val (.ref r), .val (.int 0), .unset] [(.int 1)]
      refine go_if_eq_f at_235 rfl (by decide) ?_
      refine go_aload at_238 rfl rfl rfl ?_
      refine go_iconst 5 at_240 rfl (by decide) ?_
      refine go_bipush 39 at_241 rfl (by decide) ?_
      refine go_static [(.ref r), (.int 5), (.int 39)] [] 0 at_243 rfl (wd hB 206 rfl) (wd hB 207 rfl) (wd hB 3 rfl) (wd hB 208 rfl) (c_at hB ([108, 111, 99, 107, 32, 39] ++ ([] : List Int32) ++ [39]) (by show 7 ≤ 4000; decide) 5 39 rfl ⟨by decide, by decide⟩ R1 R2 R3 R4) (fun _ q => nomatch q) (lenOf pd_38 rfl) rfl rfl rfl (by decide) (by decide) (by decide) (by decide) (by decide) (fun v221 h222 s223 q224 => ?_)
      obtain ⟨rfl, rfl, rfl⟩ := q224
      show Go _ _ _ _ _ _ _ _ _ _ _ _ h186 [e, x154, x105] 17 115 246 #[.val (.int p0), .val (.int p1), .val (.int p2), .val (.int p3), .val (.int p4), .val (.int 1), .val (.int len), .val (.int a), .val (.int b), .val (.int c), .val (.ref s), .val (.ref x105), .val (.ref r), .val (.int 0), .unset] [(.int 1)]
      refine go_if_eq_f at_246 rfl (by decide) ?_
      refine go_iconst 1 at_249 rfl (by decide) ?_
      refine go_goto (pt := 254) at_250 (by decide) (by decide) ?_
      refine go_istore at_254 rfl #[.val (.int p0), .val (.int p1), .val (.int p2), .val (.int p3), .val (.int p4), .val (.int 1), .val (.int len), .val (.int a), .val (.int b), .val (.int c), .val (.ref s), .val (.ref x105), .val (.ref r), .val (.int 0), .val (.int 1)] rfl ?_
      refine go_iload at_256 rfl rfl ?_
      refine go_iconst 1 at_258 rfl (by decide) ?_
      refine go_icmp_lt_t (pt := 290) at_259 (by decide) (by decide) (by decide) ?_
      refine go_iload at_290 rfl rfl ?_
      refine go_iconst 2 at_292 rfl (by decide) ?_
      refine go_icmp_lt_t (pt := 324) at_293 (by decide) (by decide) (by decide) ?_
      refine go_iload at_324 rfl rfl ?_
      refine go_iconst 3 at_326 rfl (by decide) ?_
      refine go_icmp_lt_t (pt := 358) at_327 (by decide) (by decide) (by decide) ?_
      refine go_iload at_358 rfl rfl ?_
      refine go_if_eq_f at_360 rfl (by decide) ?_
      refine go_aload at_363 rfl rfl rfl ?_
      refine go_bipush 6 at_365 rfl (by decide) ?_
      refine go_iload at_367 rfl rfl ?_
      refine go_iadd at_369 rfl ?_
      rw [show (6 : Int32) + 0 = 6 from by decide]
      refine go_bipush 39 at_370 rfl (by decide) ?_
      refine go_static [(.ref r), (.int 6), (.int 39)] [] 0 at_372 rfl (wd hB 206 rfl) (wd hB 207 rfl) (wd hB 3 rfl) (wd hB 208 rfl) (c_at hB ([108, 111, 99, 107, 32, 39] ++ ([] : List Int32) ++ [39]) (by show 7 ≤ 4000; decide) 6 39 rfl ⟨by decide, by decide⟩ R1 R2 R3 R4) (fun _ q => nomatch q) (lenOf pd_38 rfl) rfl rfl rfl (by decide) (by decide) (by decide) (by decide) (by decide) (fun v225 h226 s227 q228 => ?_)
      obtain ⟨rfl, rfl, rfl⟩ := q228
      show Go _ _ _ _ _ _ _ _ _ _ _ _ h186 [e, x154, x105] 17 115 375 #[.val (.int p0), .val (.int p1), .val (.int p2), .val (.int p3), .val (.int p4), .val (.int 1), .val (.int len), .val (.int a), .val (.int b), .val (.int c), .val (.ref s), .val (.ref x105), .val (.ref r), .val (.int 0), .val (.int 1)] [(.int 1)]
      refine go_if_eq_f at_375 rfl (by decide) ?_
      refine go_iconst 1 at_378 rfl (by decide) ?_
      refine go_goto (pt := 383) at_379 (by decide) (by decide) ?_
      refine go_retN (t := .boolean) at_383 [] rfl (by simp) (by decide) (by decide) (fun _ q => nomatch q) ?_
      decide
    · subst e5
      show Go _ _ _ _ _ _ _ _ _ _ _ _ h186 [e, x154, x105] 17 115 161 #[.val (.int p0), .val (.int p1), .val (.int p2), .val (.int p3), .val (.int p4), .val (.int 1), .val (.int len), .val (.int a), .val (.int b), .val (.int c), .val (.ref s), .val (.ref x105), .val (.ref r), .unset, .unset] []
      refine go_aload at_161 rfl rfl rfl ?_
      have F229 := (Exa.ext E2 F181)
      have F230 := (Fld.ext E2 F182)
      have F231 := (Fld.ext E2 F183)
      have F232 := (F184.ext E2)
      refine go_virtual s [] [] 0 at_163 rfl F229 (wd hB 205 rfl) (wd hB 135 rfl) (nf_of (wd hB 137 rfl)) (wd hB 137 rfl) (wd hB 136 rfl) (wd hB 7 rfl) (wd hB 138 rfl) (c_len hB (([a] : List Int32)) (by show 1 ≤ 4000; decide) F229 F230 F231 F232) (fun _ q => nomatch q) (lenOf pd_14 rfl) rfl rfl rfl (by decide) (by decide) (by decide) (by decide) (by decide) (fun v233 h234 s235 q236 => ?_)
      obtain ⟨rfl, rfl, rfl⟩ := q236
      show Go _ _ _ _ _ _ _ _ _ _ _ _ h186 [e, x154, x105] 17 115 166 #[.val (.int p0), .val (.int p1), .val (.int p2), .val (.int p3), .val (.int p4), .val (.int 1), .val (.int len), .val (.int a), .val (.int b), .val (.int c), .val (.ref s), .val (.ref x105), .val (.ref r), .unset, .unset] [(.int 1)]
      refine go_istore at_166 rfl #[.val (.int p0), .val (.int p1), .val (.int p2), .val (.int p3), .val (.int p4), .val (.int 1), .val (.int len), .val (.int a), .val (.int b), .val (.int c), .val (.ref s), .val (.ref x105), .val (.ref r), .val (.int 1), .unset] rfl ?_
      refine go_aload at_168 rfl rfl rfl ?_
      refine go_virtual r [] [] 0 at_170 rfl R1 (wd hB 205 rfl) (wd hB 135 rfl) (nf_of (wd hB 137 rfl)) (wd hB 137 rfl) (wd hB 136 rfl) (wd hB 7 rfl) (wd hB 138 rfl) (c_len hB ([108, 111, 99, 107, 32, 39] ++ ([a] : List Int32) ++ [39]) (by show 8 ≤ 4000; decide) R1 R2 R3 R4) (fun _ q => nomatch q) (lenOf pd_14 rfl) rfl rfl rfl (by decide) (by decide) (by decide) (by decide) (by decide) (fun v237 h238 s239 q240 => ?_)
      obtain ⟨rfl, rfl, rfl⟩ := q240
      show Go _ _ _ _ _ _ _ _ _ _ _ _ h186 [e, x154, x105] 17 115 173 #[.val (.int p0), .val (.int p1), .val (.int p2), .val (.int p3), .val (.int p4), .val (.int 1), .val (.int len), .val (.int a), .val (.int b), .val (.int c), .val (.ref s), .val (.ref x105), .val (.ref r), .val (.int 1), .unset] [(.int 8)]
      refine go_iload at_173 rfl rfl ?_
      refine go_bipush 7 at_175 rfl (by decide) ?_
      refine go_iadd at_177 rfl ?_
      rw [show (1 : Int32) + 7 = 8 from by decide]
      refine go_icmp_eq_t (pt := 183) at_178 (by decide) (by decide) (by decide) ?_
      refine go_aload at_183 rfl rfl rfl ?_
      refine go_iconst 0 at_185 rfl (by decide) ?_
      refine go_bipush 108 at_186 rfl (by decide) ?_
      refine go_static [(.ref r), (.int 0), (.int 108)] [] 0 at_188 rfl (wd hB 206 rfl) (wd hB 207 rfl) (wd hB 3 rfl) (wd hB 208 rfl) (c_at hB ([108, 111, 99, 107, 32, 39] ++ ([a] : List Int32) ++ [39]) (by show 8 ≤ 4000; decide) 0 108 rfl ⟨by decide, by decide⟩ R1 R2 R3 R4) (fun _ q => nomatch q) (lenOf pd_38 rfl) rfl rfl rfl (by decide) (by decide) (by decide) (by decide) (by decide) (fun v241 h242 s243 q244 => ?_)
      obtain ⟨rfl, rfl, rfl⟩ := q244
      show Go _ _ _ _ _ _ _ _ _ _ _ _ h186 [e, x154, x105] 17 115 191 #[.val (.int p0), .val (.int p1), .val (.int p2), .val (.int p3), .val (.int p4), .val (.int 1), .val (.int len), .val (.int a), .val (.int b), .val (.int c), .val (.ref s), .val (.ref x105), .val (.ref r), .val (.int 1), .unset] [(.int 1)]
      refine go_if_eq_f at_191 rfl (by decide) ?_
      refine go_aload at_194 rfl rfl rfl ?_
      refine go_iconst 1 at_196 rfl (by decide) ?_
      refine go_bipush 111 at_197 rfl (by decide) ?_
      refine go_static [(.ref r), (.int 1), (.int 111)] [] 0 at_199 rfl (wd hB 206 rfl) (wd hB 207 rfl) (wd hB 3 rfl) (wd hB 208 rfl) (c_at hB ([108, 111, 99, 107, 32, 39] ++ ([a] : List Int32) ++ [39]) (by show 8 ≤ 4000; decide) 1 111 rfl ⟨by decide, by decide⟩ R1 R2 R3 R4) (fun _ q => nomatch q) (lenOf pd_38 rfl) rfl rfl rfl (by decide) (by decide) (by decide) (by decide) (by decide) (fun v245 h246 s247 q248 => ?_)
      obtain ⟨rfl, rfl, rfl⟩ := q248
      show Go _ _ _ _ _ _ _ _ _ _ _ _ h186 [e, x154, x105] 17 115 202 #[.val (.int p0), .val (.int p1), .val (.int p2), .val (.int p3), .val (.int p4), .val (.int 1), .val (.int len), .val (.int a), .val (.int b), .val (.int c), .val (.ref s), .val (.ref x105), .val (.ref r), .val (.int 1), .unset] [(.int 1)]
      refine go_if_eq_f at_202 rfl (by decide) ?_
      refine go_aload at_205 rfl rfl rfl ?_
      refine go_iconst 2 at_207 rfl (by decide) ?_
      refine go_bipush 99 at_208 rfl (by decide) ?_
      refine go_static [(.ref r), (.int 2), (.int 99)] [] 0 at_210 rfl (wd hB 206 rfl) (wd hB 207 rfl) (wd hB 3 rfl) (wd hB 208 rfl) (c_at hB ([108, 111, 99, 107, 32, 39] ++ ([a] : List Int32) ++ [39]) (by show 8 ≤ 4000; decide) 2 99 rfl ⟨by decide, by decide⟩ R1 R2 R3 R4) (fun _ q => nomatch q) (lenOf pd_38 rfl) rfl rfl rfl (by decide) (by decide) (by decide) (by decide) (by decide) (fun v249 h250 s251 q252 => ?_)
      obtain ⟨rfl, rfl, rfl⟩ := q252
      show Go _ _ _ _ _ _ _ _ _ _ _ _ h186 [e, x154, x105] 17 115 213 #[.val (.int p0), .val (.int p1), .val (.int p2), .val (.int p3), .val (.int p4), .val (.int 1), .val (.int len), .val (.int a), .val (.int b), .val (.int c), .val (.ref s), .val (.ref x105), .val (.ref r), .val (.int 1), .unset] [(.int 1)]
      refine go_if_eq_f at_213 rfl (by decide) ?_
      refine go_aload at_216 rfl rfl rfl ?_
      refine go_iconst 3 at_218 rfl (by decide) ?_
      refine go_bipush 107 at_219 rfl (by decide) ?_
      refine go_static [(.ref r), (.int 3), (.int 107)] [] 0 at_221 rfl (wd hB 206 rfl) (wd hB 207 rfl) (wd hB 3 rfl) (wd hB 208 rfl) (c_at hB ([108, 111, 99, 107, 32, 39] ++ ([a] : List Int32) ++ [39]) (by show 8 ≤ 4000; decide) 3 107 rfl ⟨by decide, by decide⟩ R1 R2 R3 R4) (fun _ q => nomatch q) (lenOf pd_38 rfl) rfl rfl rfl (by decide) (by decide) (by decide) (by decide) (by decide) (fun v253 h254 s255 q256 => ?_)
      obtain ⟨rfl, rfl, rfl⟩ := q256
      show Go _ _ _ _ _ _ _ _ _ _ _ _ h186 [e, x154, x105] 17 115 224 #[.val (.int p0), .val (.int p1), .val (.int p2), .val (.int p3), .val (.int p4), .val (.int 1), .val (.int len), .val (.int a), .val (.int b), .val (.int c), .val (.ref s), .val (.ref x105), .val (.ref r), .val (.int 1), .unset] [(.int 1)]
      refine go_if_eq_f at_224 rfl (by decide) ?_
      refine go_aload at_227 rfl rfl rfl ?_
      refine go_iconst 4 at_229 rfl (by decide) ?_
      refine go_bipush 32 at_230 rfl (by decide) ?_
      refine go_static [(.ref r), (.int 4), (.int 32)] [] 0 at_232 rfl (wd hB 206 rfl) (wd hB 207 rfl) (wd hB 3 rfl) (wd hB 208 rfl) (c_at hB ([108, 111, 99, 107, 32, 39] ++ ([a] : List Int32) ++ [39]) (by show 8 ≤ 4000; decide) 4 32 rfl ⟨by decide, by decide⟩ R1 R2 R3 R4) (fun _ q => nomatch q) (lenOf pd_38 rfl) rfl rfl rfl (by decide) (by decide) (by decide) (by decide) (by decide) (fun v257 h258 s259 q260 => ?_)
      obtain ⟨rfl, rfl, rfl⟩ := q260
      show Go _ _ _ _ _ _ _ _ _ _ _ _ h186 [e, x154, x105] 17 115 235 #[.val (.int p0), .val (.int p1), .val (.int p2), .val (.int p3), .val (.int p4), .val (.int 1), .val (.int len), .val (.int a), .val (.int b), .val (.int c), .val (.ref s), .val (.ref x105), .val (.ref r), .val (.int 1), .unset] [(.int 1)]
      refine go_if_eq_f at_235 rfl (by decide) ?_
      refine go_aload at_238 rfl rfl rfl ?_
      refine go_iconst 5 at_240 rfl (by decide) ?_
      refine go_bipush 39 at_241 rfl (by decide) ?_
      refine go_static [(.ref r), (.int 5), (.int 39)] [] 0 at_243 rfl (wd hB 206 rfl) (wd hB 207 rfl) (wd hB 3 rfl) (wd hB 208 rfl) (c_at hB ([108, 111, 99, 107, 32, 39] ++ ([a] : List Int32) ++ [39]) (by show 8 ≤ 4000; decide) 5 39 rfl ⟨by decide, by decide⟩ R1 R2 R3 R4) (fun _ q => nomatch q) (lenOf pd_38 rfl) rfl rfl rfl (by decide) (by decide) (by decide) (by decide) (by decide) (fun v261 h262 s263 q264 => ?_)
      obtain ⟨rfl, rfl, rfl⟩ := q264
      show Go _ _ _ _ _ _ _ _ _ _ _ _ h186 [e, x154, x105] 17 115 246 #[.val (.int p0), .val (.int p1), .val (.int p2), .val (.int p3), .val (.int p4), .val (.int 1), .val (.int len), .val (.int a), .val (.int b), .val (.int c), .val (.ref s), .val (.ref x105), .val (.ref r), .val (.int 1), .unset] [(.int 1)]
      refine go_if_eq_f at_246 rfl (by decide) ?_
      refine go_iconst 1 at_249 rfl (by decide) ?_
      refine go_goto (pt := 254) at_250 (by decide) (by decide) ?_
      refine go_istore at_254 rfl #[.val (.int p0), .val (.int p1), .val (.int p2), .val (.int p3), .val (.int p4), .val (.int 1), .val (.int len), .val (.int a), .val (.int b), .val (.int c), .val (.ref s), .val (.ref x105), .val (.ref r), .val (.int 1), .val (.int 1)] rfl ?_
      refine go_iload at_256 rfl rfl ?_
      refine go_iconst 1 at_258 rfl (by decide) ?_
      refine go_icmp_lt_f at_259 rfl (by decide) ?_
      refine go_iload at_262 rfl rfl ?_
      refine go_if_eq_f at_264 rfl (by decide) ?_
      refine go_aload at_267 rfl rfl rfl ?_
      refine go_bipush 6 at_269 rfl (by decide) ?_
      refine go_aload at_271 rfl rfl rfl ?_
      refine go_iconst 0 at_273 rfl (by decide) ?_
      refine go_virtual s [(.int 0)] [(.int 6), (.ref r)] 2 at_274 rfl F229 (wd hB 209 rfl) (wd hB 210 rfl) (nf_of (wd hB 212 rfl)) (wd hB 212 rfl) (wd hB 211 rfl) (wd hB 7 rfl) (wd hB 213 rfl) (c_char hB (([a] : List Int32)) (by show 1 ≤ 4000; decide) 0 a rfl ia F229 F230 F231 F232) (fun _ q => nomatch q) (lenOf pd_35 rfl) rfl rfl rfl (by decide) (by decide) (by decide) (by decide) (by decide) (fun v265 h266 s267 q268 => ?_)
      obtain ⟨rfl, rfl, rfl⟩ := q268
      show Go _ _ _ _ _ _ _ _ _ _ _ _ h186 [e, x154, x105] 17 115 277 #[.val (.int p0), .val (.int p1), .val (.int p2), .val (.int p3), .val (.int p4), .val (.int 1), .val (.int len), .val (.int a), .val (.int b), .val (.int c), .val (.ref s), .val (.ref x105), .val (.ref r), .val (.int 1), .val (.int 1)] [(.int a), (.int 6), (.ref r)]
      refine go_static [(.ref r), (.int 6), (.int a)] [] 0 at_277 rfl (wd hB 206 rfl) (wd hB 207 rfl) (wd hB 3 rfl) (wd hB 208 rfl) (c_at hB ([108, 111, 99, 107, 32, 39] ++ ([a] : List Int32) ++ [39]) (by show 8 ≤ 4000; decide) 6 a rfl ia R1 R2 R3 R4) (fun _ q => nomatch q) (lenOf pd_38 rfl) rfl rfl rfl (by decide) (by decide) (by decide) (by decide) (by decide) (fun v269 h270 s271 q272 => ?_)
      obtain ⟨rfl, rfl, rfl⟩ := q272
      show Go _ _ _ _ _ _ _ _ _ _ _ _ h186 [e, x154, x105] 17 115 280 #[.val (.int p0), .val (.int p1), .val (.int p2), .val (.int p3), .val (.int p4), .val (.int 1), .val (.int len), .val (.int a), .val (.int b), .val (.int c), .val (.ref s), .val (.ref x105), .val (.ref r), .val (.int 1), .val (.int 1)] [(.int 1)]
      refine go_if_eq_f at_280 rfl (by decide) ?_
      refine go_iconst 1 at_283 rfl (by decide) ?_
      refine go_goto (pt := 288) at_284 (by decide) (by decide) ?_
      refine go_istore at_288 rfl #[.val (.int p0), .val (.int p1), .val (.int p2), .val (.int p3), .val (.int p4), .val (.int 1), .val (.int len), .val (.int a), .val (.int b), .val (.int c), .val (.ref s), .val (.ref x105), .val (.ref r), .val (.int 1), .val (.int 1)] rfl ?_
      refine go_iload at_290 rfl rfl ?_
      refine go_iconst 2 at_292 rfl (by decide) ?_
      refine go_icmp_lt_t (pt := 324) at_293 (by decide) (by decide) (by decide) ?_
      refine go_iload at_324 rfl rfl ?_
      refine go_iconst 3 at_326 rfl (by decide) ?_
      refine go_icmp_lt_t (pt := 358) at_327 (by decide) (by decide) (by decide) ?_
      refine go_iload at_358 rfl rfl ?_
      refine go_if_eq_f at_360 rfl (by decide) ?_
      refine go_aload at_363 rfl rfl rfl ?_
      refine go_bipush 6 at_365 rfl (by decide) ?_
      refine go_iload at_367 rfl rfl ?_
      refine go_iadd at_369 rfl ?_
      rw [show (6 : Int32) + 1 = 7 from by decide]
      refine go_bipush 39 at_370 rfl (by decide) ?_
      refine go_static [(.ref r), (.int 7), (.int 39)] [] 0 at_372 rfl (wd hB 206 rfl) (wd hB 207 rfl) (wd hB 3 rfl) (wd hB 208 rfl) (c_at hB ([108, 111, 99, 107, 32, 39] ++ ([a] : List Int32) ++ [39]) (by show 8 ≤ 4000; decide) 7 39 rfl ⟨by decide, by decide⟩ R1 R2 R3 R4) (fun _ q => nomatch q) (lenOf pd_38 rfl) rfl rfl rfl (by decide) (by decide) (by decide) (by decide) (by decide) (fun v273 h274 s275 q276 => ?_)
      obtain ⟨rfl, rfl, rfl⟩ := q276
      show Go _ _ _ _ _ _ _ _ _ _ _ _ h186 [e, x154, x105] 17 115 375 #[.val (.int p0), .val (.int p1), .val (.int p2), .val (.int p3), .val (.int p4), .val (.int 1), .val (.int len), .val (.int a), .val (.int b), .val (.int c), .val (.ref s), .val (.ref x105), .val (.ref r), .val (.int 1), .val (.int 1)] [(.int 1)]
      refine go_if_eq_f at_375 rfl (by decide) ?_
      refine go_iconst 1 at_378 rfl (by decide) ?_
      refine go_goto (pt := 383) at_379 (by decide) (by decide) ?_
      refine go_retN (t := .boolean) at_383 [] rfl (by simp) (by decide) (by decide) (fun _ q => nomatch q) ?_
      decide
    · subst e5
      show Go _ _ _ _ _ _ _ _ _ _ _ _ h186 [e, x154, x105] 17 115 161 #[.val (.int p0), .val (.int p1), .val (.int p2), .val (.int p3), .val (.int p4), .val (.int 1), .val (.int len), .val (.int a), .val (.int b), .val (.int c), .val (.ref s), .val (.ref x105), .val (.ref r), .unset, .unset] []
      refine go_aload at_161 rfl rfl rfl ?_
      have F277 := (Exa.ext E2 F181)
      have F278 := (Fld.ext E2 F182)
      have F279 := (Fld.ext E2 F183)
      have F280 := (F184.ext E2)
      refine go_virtual s [] [] 0 at_163 rfl F277 (wd hB 205 rfl) (wd hB 135 rfl) (nf_of (wd hB 137 rfl)) (wd hB 137 rfl) (wd hB 136 rfl) (wd hB 7 rfl) (wd hB 138 rfl) (c_len hB (([a, b] : List Int32)) (by show 2 ≤ 4000; decide) F277 F278 F279 F280) (fun _ q => nomatch q) (lenOf pd_14 rfl) rfl rfl rfl (by decide) (by decide) (by decide) (by decide) (by decide) (fun v281 h282 s283 q284 => ?_)
      obtain ⟨rfl, rfl, rfl⟩ := q284
      show Go _ _ _ _ _ _ _ _ _ _ _ _ h186 [e, x154, x105] 17 115 166 #[.val (.int p0), .val (.int p1), .val (.int p2), .val (.int p3), .val (.int p4), .val (.int 1), .val (.int len), .val (.int a), .val (.int b), .val (.int c), .val (.ref s), .val (.ref x105), .val (.ref r), .unset, .unset] [(.int 2)]
      refine go_istore at_166 rfl #[.val (.int p0), .val (.int p1), .val (.int p2), .val (.int p3), .val (.int p4), .val (.int 1), .val (.int len), .val (.int a), .val (.int b), .val (.int c), .val (.ref s), .val (.ref x105), .val (.ref r), .val (.int 2), .unset] rfl ?_
      refine go_aload at_168 rfl rfl rfl ?_
      refine go_virtual r [] [] 0 at_170 rfl R1 (wd hB 205 rfl) (wd hB 135 rfl) (nf_of (wd hB 137 rfl)) (wd hB 137 rfl) (wd hB 136 rfl) (wd hB 7 rfl) (wd hB 138 rfl) (c_len hB ([108, 111, 99, 107, 32, 39] ++ ([a, b] : List Int32) ++ [39]) (by show 9 ≤ 4000; decide) R1 R2 R3 R4) (fun _ q => nomatch q) (lenOf pd_14 rfl) rfl rfl rfl (by decide) (by decide) (by decide) (by decide) (by decide) (fun v285 h286 s287 q288 => ?_)
      obtain ⟨rfl, rfl, rfl⟩ := q288
      show Go _ _ _ _ _ _ _ _ _ _ _ _ h186 [e, x154, x105] 17 115 173 #[.val (.int p0), .val (.int p1), .val (.int p2), .val (.int p3), .val (.int p4), .val (.int 1), .val (.int len), .val (.int a), .val (.int b), .val (.int c), .val (.ref s), .val (.ref x105), .val (.ref r), .val (.int 2), .unset] [(.int 9)]
      refine go_iload at_173 rfl rfl ?_
      refine go_bipush 7 at_175 rfl (by decide) ?_
      refine go_iadd at_177 rfl ?_
      rw [show (2 : Int32) + 7 = 9 from by decide]
      refine go_icmp_eq_t (pt := 183) at_178 (by decide) (by decide) (by decide) ?_
      refine go_aload at_183 rfl rfl rfl ?_
      refine go_iconst 0 at_185 rfl (by decide) ?_
      refine go_bipush 108 at_186 rfl (by decide) ?_
      refine go_static [(.ref r), (.int 0), (.int 108)] [] 0 at_188 rfl (wd hB 206 rfl) (wd hB 207 rfl) (wd hB 3 rfl) (wd hB 208 rfl) (c_at hB ([108, 111, 99, 107, 32, 39] ++ ([a, b] : List Int32) ++ [39]) (by show 9 ≤ 4000; decide) 0 108 rfl ⟨by decide, by decide⟩ R1 R2 R3 R4) (fun _ q => nomatch q) (lenOf pd_38 rfl) rfl rfl rfl (by decide) (by decide) (by decide) (by decide) (by decide) (fun v289 h290 s291 q292 => ?_)
      obtain ⟨rfl, rfl, rfl⟩ := q292
      show Go _ _ _ _ _ _ _ _ _ _ _ _ h186 [e, x154, x105] 17 115 191 #[.val (.int p0), .val (.int p1), .val (.int p2), .val (.int p3), .val (.int p4), .val (.int 1), .val (.int len), .val (.int a), .val (.int b), .val (.int c), .val (.ref s), .val (.ref x105), .val (.ref r), .val (.int 2), .unset] [(.int 1)]
      refine go_if_eq_f at_191 rfl (by decide) ?_
      refine go_aload at_194 rfl rfl rfl ?_
      refine go_iconst 1 at_196 rfl (by decide) ?_
      refine go_bipush 111 at_197 rfl (by decide) ?_
      refine go_static [(.ref r), (.int 1), (.int 111)] [] 0 at_199 rfl (wd hB 206 rfl) (wd hB 207 rfl) (wd hB 3 rfl) (wd hB 208 rfl) (c_at hB ([108, 111, 99, 107, 32, 39] ++ ([a, b] : List Int32) ++ [39]) (by show 9 ≤ 4000; decide) 1 111 rfl ⟨by decide, by decide⟩ R1 R2 R3 R4) (fun _ q => nomatch q) (lenOf pd_38 rfl) rfl rfl rfl (by decide) (by decide) (by decide) (by decide) (by decide) (fun v293 h294 s295 q296 => ?_)
      obtain ⟨rfl, rfl, rfl⟩ := q296
      show Go _ _ _ _ _ _ _ _ _ _ _ _ h186 [e, x154, x105] 17 115 202 #[.val (.int p0), .val (.int p1), .val (.int p2), .val (.int p3), .val (.int p4), .val (.int 1), .val (.int len), .val (.int a), .val (.int b), .val (.int c), .val (.ref s), .val (.ref x105), .val (.ref r), .val (.int 2), .unset] [(.int 1)]
      refine go_if_eq_f at_202 rfl (by decide) ?_
      refine go_aload at_205 rfl rfl rfl ?_
      refine go_iconst 2 at_207 rfl (by decide) ?_
      refine go_bipush 99 at_208 rfl (by decide) ?_
      refine go_static [(.ref r), (.int 2), (.int 99)] [] 0 at_210 rfl (wd hB 206 rfl) (wd hB 207 rfl) (wd hB 3 rfl) (wd hB 208 rfl) (c_at hB ([108, 111, 99, 107, 32, 39] ++ ([a, b] : List Int32) ++ [39]) (by show 9 ≤ 4000; decide) 2 99 rfl ⟨by decide, by decide⟩ R1 R2 R3 R4) (fun _ q => nomatch q) (lenOf pd_38 rfl) rfl rfl rfl (by decide) (by decide) (by decide) (by decide) (by decide) (fun v297 h298 s299 q300 => ?_)
      obtain ⟨rfl, rfl, rfl⟩ := q300
      show Go _ _ _ _ _ _ _ _ _ _ _ _ h186 [e, x154, x105] 17 115 213 #[.val (.int p0), .val (.int p1), .val (.int p2), .val (.int p3), .val (.int p4), .val (.int 1), .val (.int len), .val (.int a), .val (.int b), .val (.int c), .val (.ref s), .val (.ref x105), .val (.ref r), .val (.int 2), .unset] [(.int 1)]
      refine go_if_eq_f at_213 rfl (by decide) ?_
      refine go_aload at_216 rfl rfl rfl ?_
      refine go_iconst 3 at_218 rfl (by decide) ?_
      refine go_bipush 107 at_219 rfl (by decide) ?_
      refine go_static [(.ref r), (.int 3), (.int 107)] [] 0 at_221 rfl (wd hB 206 rfl) (wd hB 207 rfl) (wd hB 3 rfl) (wd hB 208 rfl) (c_at hB ([108, 111, 99, 107, 32, 39] ++ ([a, b] : List Int32) ++ [39]) (by show 9 ≤ 4000; decide) 3 107 rfl ⟨by decide, by decide⟩ R1 R2 R3 R4) (fun _ q => nomatch q) (lenOf pd_38 rfl) rfl rfl rfl (by decide) (by decide) (by decide) (by decide) (by decide) (fun v301 h302 s303 q304 => ?_)
      obtain ⟨rfl, rfl, rfl⟩ := q304
      show Go _ _ _ _ _ _ _ _ _ _ _ _ h186 [e, x154, x105] 17 115 224 #[.val (.int p0), .val (.int p1), .val (.int p2), .val (.int p3), .val (.int p4), .val (.int 1), .val (.int len), .val (.int a), .val (.int b), .val (.int c), .val (.ref s), .val (.ref x105), .val (.ref r), .val (.int 2), .unset] [(.int 1)]
      refine go_if_eq_f at_224 rfl (by decide) ?_
      refine go_aload at_227 rfl rfl rfl ?_
      refine go_iconst 4 at_229 rfl (by decide) ?_
      refine go_bipush 32 at_230 rfl (by decide) ?_
      refine go_static [(.ref r), (.int 4), (.int 32)] [] 0 at_232 rfl (wd hB 206 rfl) (wd hB 207 rfl) (wd hB 3 rfl) (wd hB 208 rfl) (c_at hB ([108, 111, 99, 107, 32, 39] ++ ([a, b] : List Int32) ++ [39]) (by show 9 ≤ 4000; decide) 4 32 rfl ⟨by decide, by decide⟩ R1 R2 R3 R4) (fun _ q => nomatch q) (lenOf pd_38 rfl) rfl rfl rfl (by decide) (by decide) (by decide) (by decide) (by decide) (fun v305 h306 s307 q308 => ?_)
      obtain ⟨rfl, rfl, rfl⟩ := q308
      show Go _ _ _ _ _ _ _ _ _ _ _ _ h186 [e, x154, x105] 17 115 235 #[.val (.int p0), .val (.int p1), .val (.int p2), .val (.int p3), .val (.int p4), .val (.int 1), .val (.int len), .val (.int a), .val (.int b), .val (.int c), .val (.ref s), .val (.ref x105), .val (.ref r), .val (.int 2), .unset] [(.int 1)]
      refine go_if_eq_f at_235 rfl (by decide) ?_
      refine go_aload at_238 rfl rfl rfl ?_
      refine go_iconst 5 at_240 rfl (by decide) ?_
      refine go_bipush 39 at_241 rfl (by decide) ?_
      refine go_static [(.ref r), (.int 5), (.int 39)] [] 0 at_243 rfl (wd hB 206 rfl) (wd hB 207 rfl) (wd hB 3 rfl) (wd hB 208 rfl) (c_at hB ([108, 111, 99, 107, 32, 39] ++ ([a, b] : List Int32) ++ [39]) (by show 9 ≤ 4000; decide) 5 39 rfl ⟨by decide, by decide⟩ R1 R2 R3 R4) (fun _ q => nomatch q) (lenOf pd_38 rfl) rfl rfl rfl (by decide) (by decide) (by decide) (by decide) (by decide) (fun v309 h310 s311 q312 => ?_)
      obtain ⟨rfl, rfl, rfl⟩ := q312
      show Go _ _ _ _ _ _ _ _ _ _ _ _ h186 [e, x154, x105] 17 115 246 #[.val (.int p0), .val (.int p1), .val (.int p2), .val (.int p3), .val (.int p4), .val (.int 1), .val (.int len), .val (.int a), .val (.int b), .val (.int c), .val (.ref s), .val (.ref x105), .val (.ref r), .val (.int 2), .unset] [(.int 1)]
      refine go_if_eq_f at_246 rfl (by decide) ?_
      refine go_iconst 1 at_249 rfl (by decide) ?_
      refine go_goto (pt := 254) at_250 (by decide) (by decide) ?_
      refine go_istore at_254 rfl #[.val (.int p0), .val (.int p1), .val (.int p2), .val (.int p3), .val (.int p4), .val (.int 1), .val (.int len), .val (.int a), .val (.int b), .val (.int c), .val (.ref s), .val (.ref x105), .val (.ref r), .val (.int 2), .val (.int 1)] rfl ?_
      refine go_iload at_256 rfl rfl ?_
      refine go_iconst 1 at_258 rfl (by decide) ?_
      refine go_icmp_lt_f at_259 rfl (by decide) ?_
      refine go_iload at_262 rfl rfl ?_
      refine go_if_eq_f at_264 rfl (by decide) ?_
      refine go_aload at_267 rfl rfl rfl ?_
      refine go_bipush 6 at_269 rfl (by decide) ?_
      refine go_aload at_271 rfl rfl rfl ?_
      refine go_iconst 0 at_273 rfl (by decide) ?_
      refine go_virtual s [(.int 0)] [(.int 6), (.ref r)] 2 at_274 rfl F277 (wd hB 209 rfl) (wd hB 210 rfl) (nf_of (wd hB 212 rfl)) (wd hB 212 rfl) (wd hB 211 rfl) (wd hB 7 rfl) (wd hB 213 rfl) (c_char hB (([a, b] : List Int32)) (by show 2 ≤ 4000; decide) 0 a rfl ia F277 F278 F279 F280) (fun _ q => nomatch q) (lenOf pd_35 rfl) rfl rfl rfl (by decide) (by decide) (by decide) (by decide) (by decide) (fun v313 h314 s315 q316 => ?_)
      obtain ⟨rfl, rfl, rfl⟩ := q316
      show Go _ _ _ _ _ _ _ _ _ _ _ _ h186 [e, x154, x105] 17 115 277 #[.val (.int p0), .val (.int p1), .val (.int p2), .val (.int p3), .val (.int p4), .val (.int 1), .val (.int len), .val (.int a), .val (.int b), .val (.int c), .val (.ref s), .val (.ref x105), .val (.ref r), .val (.int 2), .val (.int 1)] [(.int a), (.int 6), (.ref r)]
      refine go_static [(.ref r), (.int 6), (.int a)] [] 0 at_277 rfl (wd hB 206 rfl) (wd hB 207 rfl) (wd hB 3 rfl) (wd hB 208 rfl) (c_at hB ([108, 111, 99, 107, 32, 39] ++ ([a, b] : List Int32) ++ [39]) (by show 9 ≤ 4000; decide) 6 a rfl ia R1 R2 R3 R4) (fun _ q => nomatch q) (lenOf pd_38 rfl) rfl rfl rfl (by decide) (by decide) (by decide) (by decide) (by decide) (fun v317 h318 s319 q320 => ?_)
      obtain ⟨rfl, rfl, rfl⟩ := q320
      show Go _ _ _ _ _ _ _ _ _ _ _ _ h186 [e, x154, x105] 17 115 280 #[.val (.int p0), .val (.int p1), .val (.int p2), .val (.int p3), .val (.int p4), .val (.int 1), .val (.int len), .val (.int a), .val (.int b), .val (.int c), .val (.ref s), .val (.ref x105), .val (.ref r), .val (.int 2), .val (.int 1)] [(.int 1)]
      refine go_if_eq_f at_280 rfl (by decide) ?_
      refine go_iconst 1 at_283 rfl (by decide) ?_
      refine go_goto (pt := 288) at_284 (by decide) (by decide) ?_
      refine go_istore at_288 rfl #[.val (.int p0), .val (.int p1), .val (.int p2), .val (.int p3), .val (.int p4), .val (.int 1), .val (.int len), .val (.int a), .val (.int b), .val (.int c), .val (.ref s), .val (.ref x105), .val (.ref r), .val (.int 2), .val (.int 1)] rfl ?_
      refine go_iload at_290 rfl rfl ?_
      refine go_iconst 2 at_292 rfl (by decide) ?_
      refine go_icmp_lt_f at_293 rfl (by decide) ?_
      refine go_iload at_296 rfl rfl ?_
      refine go_if_eq_f at_298 rfl (by decide) ?_
      refine go_aload at_301 rfl rfl rfl ?_
      refine go_bipush 7 at_303 rfl (by decide) ?_
      refine go_aload at_305 rfl rfl rfl ?_
      refine go_iconst 1 at_307 rfl (by decide) ?_
      refine go_virtual s [(.int 1)] [(.int 7), (.ref r)] 2 at_308 rfl F277 (wd hB 209 rfl) (wd hB 210 rfl) (nf_of (wd hB 212 rfl)) (wd hB 212 rfl) (wd hB 211 rfl) (wd hB 7 rfl) (wd hB 213 rfl) (c_char hB (([a, b] : List Int32)) (by show 2 ≤ 4000; decide) 1 b rfl ib F277 F278 F279 F280) (fun _ q => nomatch q) (lenOf pd_35 rfl) rfl rfl rfl (by decide) (by decide) (by decide) (by decide) (by decide) (fun v321 h322 s323 q324 => ?_)
      obtain ⟨rfl, rfl, rfl⟩ := q324
      show Go _ _ _ _ _ _ _ _ _ _ _ _ h186 [e, x154, x105] 17 115 311 #[.val (.int p0), .val (.int p1), .val (.int p2), .val (.int p3), .val (.int p4), .val (.int 1), .val (.int len), .val (.int a), .val (.int b), .val (.int c), .val (.ref s), .val (.ref x105), .val (.ref r), .val (.int 2), .val (.int 1)] [(.int b), (.int 7), (.ref r)]
      refine go_static [(.ref r), (.int 7), (.int b)] [] 0 at_311 rfl (wd hB 206 rfl) (wd hB 207 rfl) (wd hB 3 rfl) (wd hB 208 rfl) (c_at hB ([108, 111, 99, 107, 32, 39] ++ ([a, b] : List Int32) ++ [39]) (by show 9 ≤ 4000; decide) 7 b rfl ib R1 R2 R3 R4) (fun _ q => nomatch q) (lenOf pd_38 rfl) rfl rfl rfl (by decide) (by decide) (by decide) (by decide) (by decide) (fun v325 h326 s327 q328 => ?_)
      obtain ⟨rfl, rfl, rfl⟩ := q328
      show Go _ _ _ _ _ _ _ _ _ _ _ _ h186 [e, x154, x105] 17 115 314 #[.val (.int p0), .val (.int p1), .val (.int p2), .val (.int p3), .val (.int p4), .val (.int 1), .val (.int len), .val (.int a), .val (.int b), .val (.int c), .val (.ref s), .val (.ref x105), .val (.ref r), .val (.int 2), .val (.int 1)] [(.int 1)]
      refine go_if_eq_f at_314 rfl (by decide) ?_
      refine go_iconst 1 at_317 rfl (by decide) ?_
      refine go_goto (pt := 322) at_318 (by decide) (by decide) ?_
      refine go_istore at_322 rfl #[.val (.int p0), .val (.int p1), .val (.int p2), .val (.int p3), .val (.int p4), .val (.int 1), .val (.int len), .val (.int a), .val (.int b), .val (.int c), .val (.ref s), .val (.ref x105), .val (.ref r), .val (.int 2), .val (.int 1)] rfl ?_
      refine go_iload at_324 rfl rfl ?_
      refine go_iconst 3 at_326 rfl (by decide) ?_
      refine go_icmp_lt_t (pt := 358) at_327 (by decide) (by decide) (by decide) ?_
      refine go_iload at_358 rfl rfl ?_
      refine go_if_eq_f at_360 rfl (by decide) ?_
      refine go_aload at_363 rfl rfl rfl ?_
      refine go_bipush 6 at_365 rfl (by decide) ?_
      refine go_iload at_367 rfl rfl ?_
      refine go_iadd at_369 rfl ?_
      rw [show (6 : Int32) + 2 = 8 from by decide]
      refine go_bipush 39 at_370 rfl (by decide) ?_
      refine go_static [(.ref r), (.int 8), (.int 39)] [] 0 at_372 rfl (wd hB 206 rfl) (wd hB 207 rfl) (wd hB 3 rfl) (wd hB 208 rfl) (c_at hB ([108, 111, 99, 107, 32, 39] ++ ([a, b] : List Int32) ++ [39]) (by show 9 ≤ 4000; decide) 8 39 rfl ⟨by decide, by decide⟩ R1 R2 R3 R4) (fun _ q => nomatch q) (lenOf pd_38 rfl) rfl rfl rfl (by decide) (by decide) (by decide) (by decide) (by decide) (fun v329 h330 s331 q332 => ?_)
      obtain ⟨rfl, rfl, rfl⟩ := q332
      show Go _ _ _ _ _ _ _ _ _ _ _ _ h186 [e, x154, x105] 17 115 375 #[.val (.int p0), .val (.int p1), .val (.int p2), .val (.int p3), .val (.int p4), .val (.int 1), .val (.int len), .val (.int a), .val (.int b), .val (.int c), .val (.ref s), .val (.ref x105), .val (.ref r), .val (.int 2), .val (.int 1)] [(.int 1)]
      refine go_if_eq_f at_375 rfl (by decide) ?_
      refine go_iconst 1 at_378 rfl (by decide) ?_
      refine go_goto (pt := 383) at_379 (by decide) (by decide) ?_
      refine go_retN (t := .boolean) at_383 [] rfl (by simp) (by decide) (by decide) (fun _ q => nomatch q) ?_
      decide
    · subst e5
      show Go _ _ _ _ _ _ _ _ _ _ _ _ h186 [e, x154, x105] 17 115 161 #[.val (.int p0), .val (.int p1), .val (.int p2), .val (.int p3), .val (.int p4), .val (.int 1), .val (.int len), .val (.int a), .val (.int b), .val (.int c), .val (.ref s), .val (.ref x105), .val (.ref r), .unset, .unset] []
      refine go_aload at_161 rfl rfl rfl ?_
      have F333 := (Exa.ext E2 F181)
      have F334 := (Fld.ext E2 F182)
      have F335 := (Fld.ext E2 F183)
      have F336 := (F184.ext E2)
      refine go_virtual s [] [] 0 at_163 rfl F333 (wd hB 205 rfl) (wd hB 135 rfl) (nf_of (wd hB 137 rfl)) (wd hB 137 rfl) (wd hB 136 rfl) (wd hB 7 rfl) (wd hB 138 rfl) (c_len hB (([a, b, c] : List Int32)) (by show 3 ≤ 4000; decide) F333 F334 F335 F336) (fun _ q => nomatch q) (lenOf pd_14 rfl) rfl rfl rfl (by decide) (by decide) (by decide) (by decide) (by decide) (fun v337 h338 s339 q340 => ?_)
      obtain ⟨rfl, rfl, rfl⟩ := q340
      show Go _ _ _ _ _ _ _ _ _ _ _ _ h186 [e, x154, x105] 17 115 166 #[.val (.int p0), .val (.int p1), .val (.int p2), .val (.int p3), .val (.int p4), .val (.int 1), .val (.int len), .val (.int a), .val (.int b), .val (.int c), .val (.ref s), .val (.ref x105), .val (.ref r), .unset, .unset] [(.int 3)]
      refine go_istore at_166 rfl #[.val (.int p0), .val (.int p1), .val (.int p2), .val (.int p3), .val (.int p4), .val (.int 1), .val (.int len), .val (.int a), .val (.int b), .val (.int c), .val (.ref s), .val (.ref x105), .val (.ref r), .val (.int 3), .unset] rfl ?_
      refine go_aload at_168 rfl rfl rfl ?_
      refine go_virtual r [] [] 0 at_170 rfl R1 (wd hB 205 rfl) (wd hB 135 rfl) (nf_of (wd hB 137 rfl)) (wd hB 137 rfl) (wd hB 136 rfl) (wd hB 7 rfl) (wd hB 138 rfl) (c_len hB ([108, 111, 99, 107, 32, 39] ++ ([a, b, c] : List Int32) ++ [39]) (by show 10 ≤ 4000; decide) R1 R2 R3 R4) (fun _ q => nomatch q) (lenOf pd_14 rfl) rfl rfl rfl (by decide) (by decide) (by decide) (by decide) (by decide) (fun v341 h342 s343 q344 => ?_)
      obtain ⟨rfl, rfl, rfl⟩ := q344
      show Go _ _ _ _ _ _ _ _ _ _ _ _ h186 [e, x154, x105] 17 115 173 #[.val (.int p0), .val (.int p1), .val (.int p2), .val (.int p3), .val (.int p4), .val (.int 1), .val (.int len), .val (.int a), .val (.int b), .val (.int c), .val (.ref s), .val (.ref x105), .val (.ref r), .val (.int 3), .unset] [(.int 10)]
      refine go_iload at_173 rfl rfl ?_
      refine go_bipush 7 at_175 rfl (by decide) ?_
      refine go_iadd at_177 rfl ?_
      rw [show (3 : Int32) + 7 = 10 from by decide]
      refine go_icmp_eq_t (pt := 183) at_178 (by decide) (by decide) (by decide) ?_
      refine go_aload at_183 rfl rfl rfl ?_
      refine go_iconst 0 at_185 rfl (by decide) ?_
      refine go_bipush 108 at_186 rfl (by decide) ?_
      refine go_static [(.ref r), (.int 0), (.int 108)] [] 0 at_188 rfl (wd hB 206 rfl) (wd hB 207 rfl) (wd hB 3 rfl) (wd hB 208 rfl) (c_at hB ([108, 111, 99, 107, 32, 39] ++ ([a, b, c] : List Int32) ++ [39]) (by show 10 ≤ 4000; decide) 0 108 rfl ⟨by decide, by decide⟩ R1 R2 R3 R4) (fun _ q => nomatch q) (lenOf pd_38 rfl) rfl rfl rfl (by decide) (by decide) (by decide) (by decide) (by decide) (fun v345 h346 s347 q348 => ?_)
      obtain ⟨rfl, rfl, rfl⟩ := q348
      show Go _ _ _ _ _ _ _ _ _ _ _ _ h186 [e, x154, x105] 17 115 191 #[.val (.int p0), .val (.int p1), .val (.int p2), .val (.int p3), .val (.int p4), .val (.int 1), .val (.int len), .val (.int a), .val (.int b), .val (.int c), .val (.ref s), .val (.ref x105), .val (.ref r), .val (.int 3), .unset] [(.int 1)]
      refine go_if_eq_f at_191 rfl (by decide) ?_
      refine go_aload at_194 rfl rfl rfl ?_
      refine go_iconst 1 at_196 rfl (by decide) ?_
      refine go_bipush 111 at_197 rfl (by decide) ?_
      refine go_static [(.ref r), (.int 1), (.int 111)] [] 0 at_199 rfl (wd hB 206 rfl) (wd hB 207 rfl) (wd hB 3 rfl) (wd hB 208 rfl) (c_at hB ([108, 111, 99, 107, 32, 39] ++ ([a, b, c] : List Int32) ++ [39]) (by show 10 ≤ 4000; decide) 1 111 rfl ⟨by decide, by decide⟩ R1 R2 R3 R4) (fun _ q => nomatch q) (lenOf pd_38 rfl) rfl rfl rfl (by decide) (by decide) (by decide) (by decide) (by decide) (fun v349 h350 s351 q352 => ?_)
      obtain ⟨rfl, rfl, rfl⟩ := q352
      show Go _ _ _ _ _ _ _ _ _ _ _ _ h186 [e, x154, x105] 17 115 202 #[.val (.int p0), .val (.int p1), .val (.int p2), .val (.int p3), .val (.int p4), .val (.int 1), .val (.int len), .val (.int a), .val (.int b), .val (.int c), .val (.ref s), .val (.ref x105), .val (.ref r), .val (.int 3), .unset] [(.int 1)]
      refine go_if_eq_f at_202 rfl (by decide) ?_
      refine go_aload at_205 rfl rfl rfl ?_
      refine go_iconst 2 at_207 rfl (by decide) ?_
      refine go_bipush 99 at_208 rfl (by decide) ?_
      refine go_static [(.ref r), (.int 2), (.int 99)] [] 0 at_210 rfl (wd hB 206 rfl) (wd hB 207 rfl) (wd hB 3 rfl) (wd hB 208 rfl) (c_at hB ([108, 111, 99, 107, 32, 39] ++ ([a, b, c] : List Int32) ++ [39]) (by show 10 ≤ 4000; decide) 2 99 rfl ⟨by decide, by decide⟩ R1 R2 R3 R4) (fun _ q => nomatch q) (lenOf pd_38 rfl) rfl rfl rfl (by decide) (by decide) (by decide) (by decide) (by decide) (fun v353 h354 s355 q356 => ?_)
      obtain ⟨rfl, rfl, rfl⟩ := q356
      show Go _ _ _ _ _ _ _ _ _ _ _ _ h186 [e, x154, x105] 17 115 213 #[.val (.int p0), .val (.int p1), .val (.int p2), .val (.int p3), .val (.int p4), .val (.int 1), .val (.int len), .val (.int a), .val (.int b), .val (.int c), .val (.ref s), .val (.ref x105), .val (.ref r), .val (.int 3), .unset] [(.int 1)]
      refine go_if_eq_f at_213 rfl (by decide) ?_
      refine go_aload at_216 rfl rfl rfl ?_
      refine go_iconst 3 at_218 rfl (by decide) ?_
      refine go_bipush 107 at_219 rfl (by decide) ?_
      refine go_static [(.ref r), (.int 3), (.int 107)] [] 0 at_221 rfl (wd hB 206 rfl) (wd hB 207 rfl) (wd hB 3 rfl) (wd hB 208 rfl) (c_at hB ([108, 111, 99, 107, 32, 39] ++ ([a, b, c] : List Int32) ++ [39]) (by show 10 ≤ 4000; decide) 3 107 rfl ⟨by decide, by decide⟩ R1 R2 R3 R4) (fun _ q => nomatch q) (lenOf pd_38 rfl) rfl rfl rfl (by decide) (by decide) (by decide) (by decide) (by decide) (fun v357 h358 s359 q360 => ?_)
      obtain ⟨rfl, rfl, rfl⟩ := q360
      show Go _ _ _ _ _ _ _ _ _ _ _ _ h186 [e, x154, x105] 17 115 224 #[.val (.int p0), .val (.int p1), .val (.int p2), .val (.int p3), .val (.int p4), .val (.int 1), .val (.int len), .val (.int a), .val (.int b), .val (.int c), .val (.ref s), .val (.ref x105), .val (.ref r), .val (.int 3), .unset] [(.int 1)]
      refine go_if_eq_f at_224 rfl (by decide) ?_
      refine go_aload at_227 rfl rfl rfl ?_
      refine go_iconst 4 at_229 rfl (by decide) ?_
      refine go_bipush 32 at_230 rfl (by decide) ?_
      refine go_static [(.ref r), (.int 4), (.int 32)] [] 0 at_232 rfl (wd hB 206 rfl) (wd hB 207 rfl) (wd hB 3 rfl) (wd hB 208 rfl) (c_at hB ([108, 111, 99, 107, 32, 39] ++ ([a, b, c] : List Int32) ++ [39]) (by show 10 ≤ 4000; decide) 4 32 rfl ⟨by decide, by decide⟩ R1 R2 R3 R4) (fun _ q => nomatch q) (lenOf pd_38 rfl) rfl rfl rfl (by decide) (by decide) (by decide) (by decide) (by decide) (fun v361 h362 s363 q364 => ?_)
      obtain ⟨rfl, rfl, rfl⟩ := q364
      show Go _ _ _ _ _ _ _ _ _ _ _ _ h186 [e, x154, x105] 17 115 235 #[.val (.int p0), .val (.int p1), .val (.int p2), .val (.int p3), .val (.int p4), .val (.int 1), .val (.int len), .val (.int a), .val (.int b), .val (.int c), .val (.ref s), .val (.ref x105), .val (.ref r), .val (.int 3), .unset] [(.int 1)]
      refine go_if_eq_f at_235 rfl (by decide) ?_
      refine go_aload at_238 rfl rfl rfl ?_
      refine go_iconst 5 at_240 rfl (by decide) ?_
      refine go_bipush 39 at_241 rfl (by decide) ?_
      refine go_static [(.ref r), (.int 5), (.int 39)] [] 0 at_243 rfl (wd hB 206 rfl) (wd hB 207 rfl) (wd hB 3 rfl) (wd hB 208 rfl) (c_at hB ([108, 111, 99, 107, 32, 39] ++ ([a, b, c] : List Int32) ++ [39]) (by show 10 ≤ 4000; decide) 5 39 rfl ⟨by decide, by decide⟩ R1 R2 R3 R4) (fun _ q => nomatch q) (lenOf pd_38 rfl) rfl rfl rfl (by decide) (by decide) (by decide) (by decide) (by decide) (fun v365 h366 s367 q368 => ?_)
      obtain ⟨rfl, rfl, rfl⟩ := q368
      show Go _ _ _ _ _ _ _ _ _ _ _ _ h186 [e, x154, x105] 17 115 246 #[.val (.int p0), .val (.int p1), .val (.int p2), .val (.int p3), .val (.int p4), .val (.int 1), .val (.int len), .val (.int a), .val (.int b), .val (.int c), .val (.ref s), .val (.ref x105), .val (.ref r), .val (.int 3), .unset] [(.int 1)]
      refine go_if_eq_f at_246 rfl (by decide) ?_
      refine go_iconst 1 at_249 rfl (by decide) ?_
      refine go_goto (pt := 254) at_250 (by decide) (by decide) ?_
      refine go_istore at_254 rfl #[.val (.int p0), .val (.int p1), .val (.int p2), .val (.int p3), .val (.int p4), .val (.int 1), .val (.int len), .val (.int a), .val (.int b), .val (.int c), .val (.ref s), .val (.ref x105), .val (.ref r), .val (.int 3), .val (.int 1)] rfl ?_
      refine go_iload at_256 rfl rfl ?_
      refine go_iconst 1 at_258 rfl (by decide) ?_
      refine go_icmp_lt_f at_259 rfl (by decide) ?_
      refine go_iload at_262 rfl rfl ?_
      refine go_if_eq_f at_264 rfl (by decide) ?_
      refine go_aload at_267 rfl rfl rfl ?_
      refine go_bipush 6 at_269 rfl (by decide) ?_
      refine go_aload at_271 rfl rfl rfl ?_
      refine go_iconst 0 at_273 rfl (by decide) ?_
      refine go_virtual s [(.int 0)] [(.int 6), (.ref r)] 2 at_274 rfl F333 (wd hB 209 rfl) (wd hB 210 rfl) (nf_of (wd hB 212 rfl)) (wd hB 212 rfl) (wd hB 211 rfl) (wd hB 7 rfl) (wd hB 213 rfl) (c_char hB (([a, b, c] : List Int32)) (by show 3 ≤ 4000; decide) 0 a rfl ia F333 F334 F335 F336) (fun _ q => nomatch q) (lenOf pd_35 rfl) rfl rfl rfl (by decide) (by decide) (by decide) (by decide) (by decide) (fun v369 h370 s371 q372 => ?_)
      obtain ⟨rfl, rfl, rfl⟩ := q372
      show Go _ _ _ _ _ _ _ _ _ _ _ _ h186 [e, x154, x105] 17 115 277 #[.val (.int p0), .val (.int p1), .val (.int p2), .val (.int p3), .val (.int p4), .val (.int 1), .val (.int len), .val (.int a), .val (.int b), .val (.int c), .val (.ref s), .val (.ref x105), .val (.ref r), .val (.int 3), .val (.int 1)] [(.int a), (.int 6), (.ref r)]
      refine go_static [(.ref r), (.int 6), (.int a)] [] 0 at_277 rfl (wd hB 206 rfl) (wd hB 207 rfl) (wd hB 3 rfl) (wd hB 208 rfl) (c_at hB ([108, 111, 99, 107, 32, 39] ++ ([a, b, c] : List Int32) ++ [39]) (by show 10 ≤ 4000; decide) 6 a rfl ia R1 R2 R3 R4) (fun _ q => nomatch q) (lenOf pd_38 rfl) rfl rfl rfl (by decide) (by decide) (by decide) (by decide) (by decide) (fun v373 h374 s375 q376 => ?_)
      obtain ⟨rfl, rfl, rfl⟩ := q376
      show Go _ _ _ _ _ _ _ _ _ _ _ _ h186 [e, x154, x105] 17 115 280 #[.val (.int p0), .val (.int p1), .val (.int p2), .val (.int p3), .val (.int p4), .val (.int 1), .val (.int len), .val (.int a), .val (.int b), .val (.int c), .val (.ref s), .val (.ref x105), .val (.ref r), .val (.int 3), .val (.int 1)] [(.int 1)]
      refine go_if_eq_f at_280 rfl (by decide) ?_
      refine go_iconst 1 at_283 rfl (by decide) ?_
      refine go_goto (pt := 288) at_284 (by decide) (by decide) ?_
      refine go_istore at_288 rfl #[.val (.int p0), .val (.int p1), .val (.int p2), .val (.int p3), .val (.int p4), .val (.int 1), .val (.int len), .val (.int a), .val (.int b), .val (.int c), .val (.ref s), .val (.ref x105), .val (.ref r), .val (.int 3), .val (.int 1)] rfl ?_
      refine go_iload at_290 rfl rfl ?_
      refine go_iconst 2 at_292 rfl (by decide) ?_
      refine go_icmp_lt_f at_293 rfl (by decide) ?_
      refine go_iload at_296 rfl rfl ?_
      refine go_if_eq_f at_298 rfl (by decide) ?_
      refine go_aload at_301 rfl rfl rfl ?_
      refine go_bipush 7 at_303 rfl (by decide) ?_
      refine go_aload at_305 rfl rfl rfl ?_
      refine go_iconst 1 at_307 rfl (by decide) ?_
      refine go_virtual s [(.int 1)] [(.int 7), (.ref r)] 2 at_308 rfl F333 (wd hB 209 rfl) (wd hB 210 rfl) (nf_of (wd hB 212 rfl)) (wd hB 212 rfl) (wd hB 211 rfl) (wd hB 7 rfl) (wd hB 213 rfl) (c_char hB (([a, b, c] : List Int32)) (by show 3 ≤ 4000; decide) 1 b rfl ib F333 F334 F335 F336) (fun _ q => nomatch q) (lenOf pd_35 rfl) rfl rfl rfl (by decide) (by decide) (by decide) (by decide) (by decide) (fun v377 h378 s379 q380 => ?_)
      obtain ⟨rfl, rfl, rfl⟩ := q380
      show Go _ _ _ _ _ _ _ _ _ _ _ _ h186 [e, x154, x105] 17 115 311 #[.val (.int p0), .val (.int p1), .val (.int p2), .val (.int p3), .val (.int p4), .val (.int 1), .val (.int len), .val (.int a), .val (.int b), .val (.int c), .val (.ref s), .val (.ref x105), .val (.ref r), .val (.int 3), .val (.int 1)] [(.int b), (.int 7), (.ref r)]
      refine go_static [(.ref r), (.int 7), (.int b)] [] 0 at_311 rfl (wd hB 206 rfl) (wd hB 207 rfl) (wd hB 3 rfl) (wd hB 208 rfl) (c_at hB ([108, 111, 99, 107, 32, 39] ++ ([a, b, c] : List Int32) ++ [39]) (by show 10 ≤ 4000; decide) 7 b rfl ib R1 R2 R3 R4) (fun _ q => nomatch q) (lenOf pd_38 rfl) rfl rfl rfl (by decide) (by decide) (by decide) (by decide) (by decide) (fun v381 h382 s383 q384 => ?_)
      obtain ⟨rfl, rfl, rfl⟩ := q384
      show Go _ _ _ _ _ _ _ _ _ _ _ _ h186 [e, x154, x105] 17 115 314 #[.val (.int p0), .val (.int p1), .val (.int p2), .val (.int p3), .val (.int p4), .val (.int 1), .val (.int len), .val (.int a), .val (.int b), .val (.int c), .val (.ref s), .val (.ref x105), .val (.ref r), .val (.int 3), .val (.int 1)] [(.int 1)]
      refine go_if_eq_f at_314 rfl (by decide) ?_
      refine go_iconst 1 at_317 rfl (by decide) ?_
      refine go_goto (pt := 322) at_318 (by decide) (by decide) ?_
      refine go_istore at_322 rfl #[.val (.int p0), .val (.int p1), .val (.int p2), .val (.int p3), .val (.int p4), .val (.int 1), .val (.int len), .val (.int a), .val (.int b), .val (.int c), .val (.ref s), .val (.ref x105), .val (.ref r), .val (.int 3), .val (.int 1)] rfl ?_
      refine go_iload at_324 rfl rfl ?_
      refine go_iconst 3 at_326 rfl (by decide) ?_
      refine go_icmp_lt_f at_327 rfl (by decide) ?_
      refine go_iload at_330 rfl rfl ?_
      refine go_if_eq_f at_332 rfl (by decide) ?_
      refine go_aload at_335 rfl rfl rfl ?_
      refine go_bipush 8 at_337 rfl (by decide) ?_
      refine go_aload at_339 rfl rfl rfl ?_
      refine go_iconst 2 at_341 rfl (by decide) ?_
      refine go_virtual s [(.int 2)] [(.int 8), (.ref r)] 2 at_342 rfl F333 (wd hB 209 rfl) (wd hB 210 rfl) (nf_of (wd hB 212 rfl)) (wd hB 212 rfl) (wd hB 211 rfl) (wd hB 7 rfl) (wd hB 213 rfl) (c_char hB (([a, b, c] : List Int32)) (by show 3 ≤ 4000; decide) 2 c rfl ic F333 F334 F335 F336) (fun _ q => nomatch q) (lenOf pd_35 rfl) rfl rfl rfl (by decide) (by decide) (by decide) (by decide) (by decide) (fun v385 h386 s387 q388 => ?_)
      obtain ⟨rfl, rfl, rfl⟩ := q388
      show Go _ _ _ _ _ _ _ _ _ _ _ _ h186 [e, x154, x105] 17 115 345 #[.val (.int p0), .val (.int p1), .val (.int p2), .val (.int p3), .val (.int p4), .val (.int 1), .val (.int len), .val (.int a), .val (.int b), .val (.int c), .val (.ref s), .val (.ref x105), .val (.ref r), .val (.int 3), .val (.int 1)] [(.int c), (.int 8), (.ref r)]
      refine go_static [(.ref r), (.int 8), (.int c)] [] 0 at_345 rfl (wd hB 206 rfl) (wd hB 207 rfl) (wd hB 3 rfl) (wd hB 208 rfl) (c_at hB ([108, 111, 99, 107, 32, 39] ++ ([a, b, c] : List Int32) ++ [39]) (by show 10 ≤ 4000; decide) 8 c rfl ic R1 R2 R3 R4) (fun _ q => nomatch q) (lenOf pd_38 rfl) rfl rfl rfl (by decide) (by decide) (by decide) (by decide) (by decide) (fun v389 h390 s391 q392 => ?_)
      obtain ⟨rfl, rfl, rfl⟩ := q392
      show Go _ _ _ _ _ _ _ _ _ _ _ _ h186 [e, x154, x105] 17 115 348 #[.val (.int p0), .val (.int p1), .val (.int p2), .val (.int p3), .val (.int p4), .val (.int 1), .val (.int len), .val (.int a), .val (.int b), .val (.int c), .val (.ref s), .val (.ref x105), .val (.ref r), .val (.int 3), .val (.int 1)] [(.int 1)]
      refine go_if_eq_f at_348 rfl (by decide) ?_
      refine go_iconst 1 at_351 rfl (by decide) ?_
      refine go_goto (pt := 356) at_352 (by decide) (by decide) ?_
      refine go_istore at_356 rfl #[.val (.int p0), .val (.int p1), .val (.int p2), .val (.int p3), .val (.int p4), .val (.int 1), .val (.int len), .val (.int a), .val (.int b), .val (.int c), .val (.ref s), .val (.ref x105), .val (.ref r), .val (.int 3), .val (.int 1)] rfl ?_
      refine go_iload at_358 rfl rfl ?_
      refine go_if_eq_f at_360 rfl (by decide) ?_
      refine go_aload at_363 rfl rfl rfl ?_
      refine go_bipush 6 at_365 rfl (by decide) ?_
      refine go_iload at_367 rfl rfl ?_
      refine go_iadd at_369 rfl ?_
      rw [show (6 : Int32) + 3 = 9 from by decide]
      refine go_bipush 39 at_370 rfl (by decide) ?_
      refine go_static [(.ref r), (.int 9), (.int 39)] [] 0 at_372 rfl (wd hB 206 rfl) (wd hB 207 rfl) (wd hB 3 rfl) (wd hB 208 rfl) (c_at hB ([108, 111, 99, 107, 32, 39] ++ ([a, b, c] : List Int32) ++ [39]) (by show 10 ≤ 4000; decide) 9 39 rfl ⟨by decide, by decide⟩ R1 R2 R3 R4) (fun _ q => nomatch q) (lenOf pd_38 rfl) rfl rfl rfl (by decide) (by decide) (by decide) (by decide) (by decide) (fun v393 h394 s395 q396 => ?_)
      obtain ⟨rfl, rfl, rfl⟩ := q396
      show Go _ _ _ _ _ _ _ _ _ _ _ _ h186 [e, x154, x105] 17 115 375 #[.val (.int p0), .val (.int p1), .val (.int p2), .val (.int p3), .val (.int p4), .val (.int 1), .val (.int len), .val (.int a), .val (.int b), .val (.int c), .val (.ref s), .val (.ref x105), .val (.ref r), .val (.int 3), .val (.int 1)] [(.int 1)]
      refine go_if_eq_f at_375 rfl (by decide) ?_
      refine go_iconst 1 at_378 rfl (by decide) ?_
      refine go_goto (pt := 383) at_379 (by decide) (by decide) ?_
      refine go_retN (t := .boolean) at_383 [] rfl (by simp) (by decide) (by decide) (fun _ q => nomatch q) ?_
      decide
  · subst e4
    show Go _ _ _ _ _ _ _ _ _ _ _ _ h115 [x105] 7 26 60 #[.val (.int p0), .val (.int p1), .val (.int p2), .val (.int p3), .val (.int p4), .val (.int 2), .val (.int len), .val (.int a), .val (.int b), .val (.int c), .val (.ref s), .val (.ref x105), .unset, .unset, .unset] []
    refine go_iload at_60 rfl rfl ?_
    refine go_iconst 1 at_62 rfl (by decide) ?_
    refine go_icmp_lt_f at_63 rfl (by decide) ?_
    refine go_aload at_66 rfl rfl rfl ?_
    refine go_new at_68 rfl (wd hB 232 rfl) (wd hB 233 rfl) (wd hB 61 rfl) (by decide) (by decide) ?_
    intro h402 x397 hx398 E399 ⟨A400, D401⟩
    have F403 : Fld Z h402 x397 "com/example/atomic_lock/atomiclock/backend/HeldLock" "name" "Ljava/lang/String;" .null := D401 (Or.inr (wd hB 244 rfl)) (ty := (.object "java/lang/String")) (by decide)
    have F404 : Fld Z h402 x397 "com/example/atomic_lock/atomiclock/backend/HeldLock" "ownerToken" "Ljava/lang/String;" .null := D401 (Or.inr (wd hB 246 rfl)) (ty := (.object "java/lang/String")) (by decide)
    have F405 : Fld Z h402 x397 "com/example/atomic_lock/atomiclock/backend/HeldLock" "fencingToken" "Ljava/util/OptionalLong;" .null := D401 (Or.inr (wd hB 248 rfl)) (ty := (.object "java/util/OptionalLong")) (by decide)
    refine go_dup at_71 rfl rfl ?_
    refine go_aload at_72 rfl rfl rfl ?_
    refine go_aconstNull at_74 rfl ?_
    refine go_aconstNull at_75 rfl ?_
    refine go_special x397 [(.ref s), .null, .null] [(.ref x397), (.ref x105)] 2 at_76 rfl rfl (wd hB 234 rfl) (wd hB 235 rfl) (wd hB 61 rfl) (wd hB 236 rfl) (c_hli hB A400 F403 F404 F405) (allS (List.Mem.head _) (fun _ q => nomatch q)) (lenOf pd_39 rfl) rfl rfl rfl (by decide) (by decide) (by decide) (by decide) (by decide) (fun v406 h407 s408 q409 => ?_)
    obtain ⟨rfl, rfl, K410, E411, F412⟩ := q409
    show Go _ _ _ _ _ _ _ _ _ _ _ _ h407 [x397, x105] 8 29 79 #[.val (.int p0), .val (.int p1), .val (.int p2), .val (.int p3), .val (.int p4), .val (.int 2), .val (.int len), .val (.int a), .val (.int b), .val (.int c), .val (.ref s), .val (.ref x105), .unset, .unset, .unset] [(.ref x397), (.ref x105)]
    have F413 := ((Ae.ext E399).keep K410 (ninS (Nat.ne_of_lt (Nat.lt_of_lt_of_le Ae.lt (Nat.le_of_eq hx398.symm))) nin0))
    have F414 := ((Exa.ext E399 Y1).keep K410)
    have F415 := ((Fld.ext E399 Y3).keep K410 (ninS (Nat.ne_of_lt (Nat.lt_of_lt_of_le Y1.lt (Nat.le_of_eq hx398.symm))) nin0))
    have F416 := ((Fld.ext E399 Y4).keep K410 (ninS (Nat.ne_of_lt (Nat.lt_of_lt_of_le Y1.lt (Nat.le_of_eq hx398.symm))) nin0))
    have F417 := ((Fld.ext E399 Y2).keep K410 (ninS (Nat.ne_of_lt (Nat.lt_of_lt_of_le Y1.lt (Nat.le_of_eq hx398.symm))) nin0))
    refine go_iface x105 [(.ref x397)] [] 0 at_79 rfl F414 (wd hB 249 rfl) (wd hB 250 rfl) (wd hB 251 rfl) rfl (wd hB 252 rfl) (wd hB 253 rfl) (wd hB 254 rfl) (wd hB 255 rfl) (wd hB 70 rfl) (wd hB 37 rfl) (wd hB 256 rfl) (c_adda hB hSe F413 F414 F415 F416 F417 E411) (allS (List.Mem.tail _ (List.Mem.head _)) (fun _ q => nomatch q)) (lenOf pd_40 rfl) rfl rfl rfl (by decide) (by decide) (by decide) (by decide) (by decide) (fun v418 h419 s420 q421 => ?_)
    obtain ⟨e, kx, rfl, rfl, K2, g2, A2, O2, Z1, Z2, Z3, Z4⟩ := q421
    show Go _ _ _ _ _ _ _ _ _ _ _ _ h419 [e, x397, x105] 9 39 84 #[.val (.int p0), .val (.int p1), .val (.int p2), .val (.int p3), .val (.int p4), .val (.int 2), .val (.int len), .val (.int a), .val (.int b), .val (.int c), .val (.ref s), .val (.ref x105), .unset, .unset, .unset] [(.int 1)]
    refine go_pop at_84 rfl rfl ?_
    refine go_iload at_85 rfl rfl ?_
    refine go_iconst 2 at_87 rfl (by decide) ?_
    refine go_icmp_lt_f at_88 rfl (by decide) ?_
    refine go_aload at_91 rfl rfl rfl ?_
    refine go_new at_93 rfl (wd hB 232 rfl) (wd hB 233 rfl) (wd hB 61 rfl) (by decide) (by decide) ?_
    intro h427 x422 hx423 E424 ⟨A425, D426⟩
    have F428 : Fld Z h427 x422 "com/example/atomic_lock/atomiclock/backend/HeldLock" "name" "Ljava/lang/String;" .null := D426 (Or.inr (wd hB 244 rfl)) (ty := (.object "java/lang/String")) (by decide)
    have F429 : Fld Z h427 x422 "com/example/atomic_lock/atomiclock/backend/HeldLock" "ownerToken" "Ljava/lang/String;" .null := D426 (Or.inr (wd hB 246 rfl)) (ty := (.object "java/lang/String")) (by decide)
    have F430 : Fld Z h427 x422 "com/example/atomic_lock/atomiclock/backend/HeldLock" "fencingToken" "Ljava/util/OptionalLong;" .null := D426 (Or.inr (wd hB 248 rfl)) (ty := (.object "java/util/OptionalLong")) (by decide)
    refine go_dup at_96 rfl rfl ?_
    refine go_iload at_97 rfl rfl ?_
    refine go_static [(.int b)] [(.ref x422), (.ref x422), (.ref x105)] 3 at_99 rfl (wd hB 280 rfl) (wd hB 281 rfl) (wd hB 7 rfl) (wd hB 282 rfl) (c_vc hB b ib) (fun _ q => nomatch q) (lenOf pd_41 rfl) rfl rfl rfl (by decide) (by decide) (by decide) (by decide) (by decide) (fun v431 h432 s433 q434 => ?_)
    obtain ⟨s435, rfl, rfl, E436⟩ := q434
    show Go _ _ _ _ _ _ _ _ _ _ _ _ h432 [x422, e, x397, x105] 12 47 102 #[.val (.int p0), .val (.int p1), .val (.int p2), .val (.int p3), .val (.int p4), .val (.int 2), .val (.int len), .val (.int a), .val (.int b), .val (.int c), .val (.ref s), .val (.ref x105), .unset, .unset, .unset] [(.ref s435), (.ref x422), (.ref x422), (.ref x105)]
    refine go_aconstNull at_102 rfl ?_
    refine go_aconstNull at_103 rfl ?_
    have F437 := (Exa.ext E436 A425)
    have F438 := (Fld.ext E436 F428)
    have F439 := (Fld.ext E436 F429)
    have F440 := (Fld.ext E436 F430)
    refine go_special x422 [(.ref s435), .null, .null] [(.ref x422), (.ref x105)] 2 at_104 rfl rfl (wd hB 234 rfl) (wd hB 235 rfl) (wd hB 61 rfl) (wd hB 236 rfl) (c_hli hB F437 F438 F439 F440) (allS (List.Mem.head _) (fun _ q => nomatch q)) (lenOf pd_39 rfl) rfl rfl rfl (by decide) (by decide) (by decide) (by decide) (by decide) (fun v441 h442 s443 q444 => ?_)
    obtain ⟨rfl, rfl, K445, E446, F447⟩ := q444
    show Go _ _ _ _ _ _ _ _ _ _ _ _ h442 [x422, e, x397, x105] 12 47 107 #[.val (.int p0), .val (.int p1), .val (.int p2), .val (.int p3), .val (.int p4), .val (.int 2), .val (.int len), .val (.int a), .val (.int b), .val (.int c), .val (.ref s), .val (.ref x105), .unset, .unset, .unset] [(.ref x422), (.ref x105)]
    have F448 := ((Exa.ext E436 (Exa.ext E424 Z1)).keep K445)
    have F449 := ((Fld.ext E436 (Fld.ext E424 Z2)).keep K445 (ninS (Nat.ne_of_lt (Nat.lt_of_lt_of_le Z1.lt (Nat.le_of_eq hx423.symm))) nin0))
    have F450 := ((Fld.ext E436 (Fld.ext E424 Z3)).keep K445 (ninS (Nat.ne_of_lt (Nat.lt_of_lt_of_le Z1.lt (Nat.le_of_eq hx423.symm))) nin0))
    have F451 := ((Fld.ext E436 (Fld.ext E424 Z4)).keep K445 (ninS (Nat.ne_of_lt (Nat.lt_of_lt_of_le Z1.lt (Nat.le_of_eq hx423.symm))) nin0))
    have F452 := (((A2.ext E424).ext E436).keep K445 (ninS (Nat.ne_of_lt (Nat.lt_of_lt_of_le A2.lt (Nat.le_of_eq hx423.symm))) nin0))
    refine go_iface x105 [(.ref x422)] [] 0 at_107 rfl F448 (wd hB 249 rfl) (wd hB 250 rfl) (wd hB 251 rfl) rfl (wd hB 252 rfl) (wd hB 253 rfl) (wd hB 254 rfl) (wd hB 255 rfl) (wd hB 70 rfl) (wd hB 37 rfl) (wd hB 256 rfl) (c_addn hB 1 (by omega) ([(.ref x397), .null, .null, .null, .null, .null, .null, .null, .null, .null]) rfl O2 (Ne.symm (Nat.ne_of_lt (Nat.lt_of_lt_of_le F414.lt g2))) F448 F449 F450 F451 F452 E446) (allS (List.Mem.tail _ (List.Mem.tail _ (List.Mem.tail _ (List.Mem.head _)))) (allS (List.Mem.tail _ (List.Mem.head _)) (fun _ q => nomatch q))) (lenOf pd_40 rfl) rfl rfl rfl (by decide) (by decide) (by decide) (by decide) (by decide) (fun v453 h454 s455 q456 => ?_)
    obtain ⟨rfl, rfl, K457, A458, F459, F460, F461, F462⟩ := q456
    show Go _ _ _ _ _ _ _ _ _ _ _ _ h454 [x422, e, x397, x105] 12 47 112 #[.val (.int p0), .val (.int p1), .val (.int p2), .val (.int p3), .val (.int p4), .val (.int 2), .val (.int len), .val (.int a), .val (.int b), .val (.int c), .val (.ref s), .val (.ref x105), .unset, .unset, .unset] [(.int 1)]
    refine go_pop at_112 rfl rfl ?_
    refine go_iload at_113 rfl rfl ?_
    refine go_iconst 3 at_115 rfl (by decide) ?_
    refine go_icmp_lt_t (pt := 141) at_116 (by decide) (by decide) (by decide) ?_
    refine go_aload at_141 rfl rfl rfl ?_
    refine go_static [(.ref x105)] [] 0 at_143 rfl (wd hB 59 rfl) (wd hB 60 rfl) (wd hB 61 rfl) (wd hB 62 rfl) (c_descn hB 2 (by omega) (by omega) F459 F460) (fun _ q => nomatch q) (lenOf pd_37 rfl) rfl rfl rfl (by decide) (by decide) (by decide) (by decide) (by decide) (fun v463 h464 s465 q466 => ?_)
    obtain ⟨r, d2, k2, rfl, rfl, E2, g3, g4, R1, R2, R3, R4⟩ := q466
    show Go _ _ _ _ _ _ _ _ _ _ _ _ h464 [x422, e, x397, x105] 18 115 146 #[.val (.int p0), .val (.int p1), .val (.int p2), .val (.int p3), .val (.int p4), .val (.int 2), .val (.int len), .val (.int a), .val (.int b), .val (.int c), .val (.ref s), .val (.ref x105), .unset, .unset, .unset] [(.ref r)]
    refine go_astore at_146 rfl #[.val (.int p0), .val (.int p1), .val (.int p2), .val (.int p3), .val (.int p4), .val (.int 2), .val (.int len), .val (.int a), .val (.int b), .val (.int c), .val (.ref s), .val (.ref x105), .val (.ref r), .unset, .unset] rfl rfl ?_
    refine go_aload at_148 rfl rfl rfl ?_
    refine go_ifnonnull_t (pt := 155) at_150 (by decide) (by decide) ?_
    refine go_iload at_155 rfl rfl ?_
    refine go_iconst 1 at_157 rfl (by decide) ?_
    refine go_icmp_ne_t (pt := 384) at_158 (by decide) (by decide) (by decide) ?_
    refine go_aload at_384 rfl rfl rfl ?_
    refine go_virtual r [] [] 0 at_386 rfl R1 (wd hB 205 rfl) (wd hB 135 rfl) (nf_of (wd hB 137 rfl)) (wd hB 137 rfl) (wd hB 136 rfl) (wd hB 7 rfl) (wd hB 138 rfl) (c_len hB ([Int32.ofNat (48 + 2)] ++ [32, 108, 111, 99, 107, 115]) (by show 7 ≤ 4000; decide) R1 R2 R3 R4) (fun _ q => nomatch q) (lenOf pd_14 rfl) rfl rfl rfl (by decide) (by decide) (by decide) (by decide) (by decide) (fun v467 h468 s469 q470 => ?_)
    obtain ⟨rfl, rfl, rfl⟩ := q470
    show Go _ _ _ _ _ _ _ _ _ _ _ _ h464 [x422, e, x397, x105] 18 115 389 #[.val (.int p0), .val (.int p1), .val (.int p2), .val (.int p3), .val (.int p4), .val (.int 2), .val (.int len), .val (.int a), .val (.int b), .val (.int c), .val (.ref s), .val (.ref x105), .val (.ref r), .unset, .unset] [(.int 7)]
    refine go_bipush 7 at_389 rfl (by decide) ?_
    refine go_icmp_eq_t (pt := 396) at_391 (by decide) (by decide) (by decide) ?_
    refine go_aload at_396 rfl rfl rfl ?_
    refine go_iconst 0 at_398 rfl (by decide) ?_
    refine go_bipush 48 at_399 rfl (by decide) ?_
    refine go_iload at_401 rfl rfl ?_
    refine go_iadd at_403 rfl ?_
    refine go_i2c at_404 rfl ?_
    rw [show ((48 : Int32) + 2).toUInt32.toUInt16.toUInt32.toInt32 = 50 from by decide]
    refine go_static [(.ref r), (.int 0), (.int 50)] [] 0 at_405 rfl (wd hB 206 rfl) (wd hB 207 rfl) (wd hB 3 rfl) (wd hB 208 rfl) (c_at hB ([Int32.ofNat (48 + 2)] ++ [32, 108, 111, 99, 107, 115]) (by show 7 ≤ 4000; decide) 0 50 rfl ⟨by decide, by decide⟩ R1 R2 R3 R4) (fun _ q => nomatch q) (lenOf pd_38 rfl) rfl rfl rfl (by decide) (by decide) (by decide) (by decide) (by decide) (fun v471 h472 s473 q474 => ?_)
    obtain ⟨rfl, rfl, rfl⟩ := q474
    show Go _ _ _ _ _ _ _ _ _ _ _ _ h464 [x422, e, x397, x105] 18 115 408 #[.val (.int p0), .val (.int p1), .val (.int p2), .val (.int p3), .val (.int p4), .val (.int 2), .val (.int len), .val (.int a), .val (.int b), .val (.int c), .val (.ref s), .val (.ref x105), .val (.ref r), .unset, .unset] [(.int 1)]
    refine go_if_eq_f at_408 rfl (by decide) ?_
    refine go_aload at_411 rfl rfl rfl ?_
    refine go_iconst 1 at_413 rfl (by decide) ?_
    refine go_bipush 32 at_414 rfl (by decide) ?_
    refine go_static [(.ref r), (.int 1), (.int 32)] [] 0 at_416 rfl (wd hB 206 rfl) (wd hB 207 rfl) (wd hB 3 rfl) (wd hB 208 rfl) (c_at hB ([Int32.ofNat (48 + 2)] ++ [32, 108, 111, 99, 107, 115]) (by show 7 ≤ 4000; decide) 1 32 rfl ⟨by decide, by decide⟩ R1 R2 R3 R4) (fun _ q => nomatch q) (lenOf pd_38 rfl) rfl rfl rfl (by decide) (by decide) (by decide) (by decide) (by decide) (fun v475 h476 s477 q478 => ?_)
    obtain ⟨rfl, rfl, rfl⟩ := q478
    show Go _ _ _ _ _ _ _ _ _ _ _ _ h464 [x422, e, x397, x105] 18 115 419 #[.val (.int p0), .val (.int p1), .val (.int p2), .val (.int p3), .val (.int p4), .val (.int 2), .val (.int len), .val (.int a), .val (.int b), .val (.int c), .val (.ref s), .val (.ref x105), .val (.ref r), .unset, .unset] [(.int 1)]
    refine go_if_eq_f at_419 rfl (by decide) ?_
    refine go_aload at_422 rfl rfl rfl ?_
    refine go_iconst 2 at_424 rfl (by decide) ?_
    refine go_bipush 108 at_425 rfl (by decide) ?_
    refine go_static [(.ref r), (.int 2), (.int 108)] [] 0 at_427 rfl (wd hB 206 rfl) (wd hB 207 rfl) (wd hB 3 rfl) (wd hB 208 rfl) (c_at hB ([Int32.ofNat (48 + 2)] ++ [32, 108, 111, 99, 107, 115]) (by show 7 ≤ 4000; decide) 2 108 rfl ⟨by decide, by decide⟩ R1 R2 R3 R4) (fun _ q => nomatch q) (lenOf pd_38 rfl) rfl rfl rfl (by decide) (by decide) (by decide) (by decide) (by decide) (fun v479 h480 s481 q482 => ?_)
    obtain ⟨rfl, rfl, rfl⟩ := q482
    show Go _ _ _ _ _ _ _ _ _ _ _ _ h464 [x422, e, x397, x105] 18 115 430 #[.val (.int p0), .val (.int p1), .val (.int p2), .val (.int p3), .val (.int p4), .val (.int 2), .val (.int len), .val (.int a), .val (.int b), .val (.int c), .val (.ref s), .val (.ref x105), .val (.ref r), .unset, .unset] [(.int 1)]
    refine go_if_eq_f at_430 rfl (by decide) ?_
    refine go_aload at_433 rfl rfl rfl ?_
    refine go_iconst 3 at_435 rfl (by decide) ?_
    refine go_bipush 111 at_436 rfl (by decide) ?_
    refine go_static [(.ref r), (.int 3), (.int 111)] [] 0 at_438 rfl (wd hB 206 rfl) (wd hB 207 rfl) (wd hB 3 rfl) (wd hB 208 rfl) (c_at hB ([Int32.ofNat (48 + 2)] ++ [32, 108, 111, 99, 107, 115]) (by show 7 ≤ 4000; decide) 3 111 rfl ⟨by decide, by decide⟩ R1 R2 R3 R4) (fun _ q => nomatch q) (lenOf pd_38 rfl) rfl rfl rfl (by decide) (by decide) (by decide) (by decide) (by decide) (fun v483 h484 s485 q486 => ?_)
    obtain ⟨rfl, rfl, rfl⟩ := q486
    show Go _ _ _ _ _ _ _ _ _ _ _ _ h464 [x422, e, x397, x105] 18 115 441 #[.val (.int p0), .val (.int p1), .val (.int p2), .val (.int p3), .val (.int p4), .val (.int 2), .val (.int len), .val (.int a), .val (.int b), .val (.int c), .val (.ref s), .val (.ref x105), .val (.ref r), .unset, .unset] [(.int 1)]
    refine go_if_eq_f at_441 rfl (by decide) ?_
    refine go_aload at_444 rfl rfl rfl ?_
    refine go_iconst 4 at_446 rfl (by decide) ?_
    refine go_bipush 99 at_447 rfl (by decide) ?_
    refine go_static [(.ref r), (.int 4), (.int 99)] [] 0 at_449 rfl (wd hB 206 rfl) (wd hB 207 rfl) (wd hB 3 rfl) (wd hB 208 rfl) (c_at hB ([Int32.ofNat (48 + 2)] ++ [32, 108, 111, 99, 107, 115]) (by show 7 ≤ 4000; decide) 4 99 rfl ⟨by decide, by decide⟩ R1 R2 R3 R4) (fun _ q => nomatch q) (lenOf pd_38 rfl) rfl rfl rfl (by decide) (by decide) (by decide) (by decide) (by decide) (fun v487 h488 s489 q490 => ?_)
    obtain ⟨rfl, rfl, rfl⟩ := q490
    show Go _ _ _ _ _ _ _ _ _ _ _ _ h464 [x422, e, x397, x105] 18 115 452 #[.val (.int p0), .val (.int p1), .val (.int p2), .val (.int p3), .val (.int p4), .val (.int 2), .val (.int len), .val (.int a), .val (.int b), .val (.int c), .val (.ref s), .val (.ref x105), .val (.ref r), .unset, .unset] [(.int 1)]
    refine go_if_eq_f at_452 rfl (by decide) ?_
    refine go_aload at_455 rfl rfl rfl ?_
    refine go_iconst 5 at_457 rfl (by decide) ?_
    refine go_bipush 107 at_458 rfl (by decide) ?_
    refine go_static [(.ref r), (.int 5), (.int 107)] [] 0 at_460 rfl (wd hB 206 rfl) (wd hB 207 rfl) (wd hB 3 rfl) (wd hB 208 rfl) (c_at hB ([Int32.ofNat (48 + 2)] ++ [32, 108, 111, 99, 107, 115]) (by show 7 ≤ 4000; decide) 5 107 rfl ⟨by decide, by decide⟩ R1 R2 R3 R4) (fun _ q => nomatch q) (lenOf pd_38 rfl) rfl rfl rfl (by decide) (by decide) (by decide) (by decide) (by decide) (fun v491 h492 s493 q494 => ?_)
    obtain ⟨rfl, rfl, rfl⟩ := q494
    show Go _ _ _ _ _ _ _ _ _ _ _ _ h464 [x422, e, x397, x105] 18 115 463 #[.val (.int p0), .val (.int p1), .val (.int p2), .val (.int p3), .val (.int p4), .val (.int 2), .val (.int len), .val (.int a), .val (.int b), .val (.int c), .val (.ref s), .val (.ref x105), .val (.ref r), .unset, .unset] [(.int 1)]
    refine go_if_eq_f at_463 rfl (by decide) ?_
    refine go_aload at_466 rfl rfl rfl ?_
    refine go_bipush 6 at_468 rfl (by decide) ?_
    refine go_bipush 115 at_470 rfl (by decide) ?_
    refine go_static [(.ref r), (.int 6), (.int 115)] [] 0 at_472 rfl (wd hB 206 rfl) (wd hB 207 rfl) (wd hB 3 rfl) (wd hB 208 rfl) (c_at hB ([Int32.ofNat (48 + 2)] ++ [32, 108, 111, 99, 107, 115]) (by show 7 ≤ 4000; decide) 6 115 rfl ⟨by decide, by decide⟩ R1 R2 R3 R4) (fun _ q => nomatch q) (lenOf pd_38 rfl) rfl rfl rfl (by decide) (by decide) (by decide) (by decide) (by decide) (fun v495 h496 s497 q498 => ?_)
    obtain ⟨rfl, rfl, rfl⟩ := q498
    show Go _ _ _ _ _ _ _ _ _ _ _ _ h464 [x422, e, x397, x105] 18 115 475 #[.val (.int p0), .val (.int p1), .val (.int p2), .val (.int p3), .val (.int p4), .val (.int 2), .val (.int len), .val (.int a), .val (.int b), .val (.int c), .val (.ref s), .val (.ref x105), .val (.ref r), .unset, .unset] [(.int 1)]
    refine go_if_eq_f at_475 rfl (by decide) ?_
    refine go_iconst 1 at_478 rfl (by decide) ?_
    refine go_goto (pt := 483) at_479 (by decide) (by decide) ?_
    refine go_retN (t := .boolean) at_483 [] rfl (by simp) (by decide) (by decide) (fun _ q => nomatch q) ?_
    decide
  · subst e4
    show Go _ _ _ _ _ _ _ _ _ _ _ _ h115 [x105] 7 26 60 #[.val (.int p0), .val (.int p1), .val (.int p2), .val (.int p3), .val (.int p4), .val (.int 3), .val (.int len), .val (.int a), .val (.int b), .val (.int c), .val (.ref s), .val (.ref x105), .unset, .unset, .unset] []
    refine go_iload at_60 rfl rfl ?_
    refine go_iconst 1 at_62 rfl (by decide) ?_
    refine go_icmp_lt_f at_63 rfl (by decide) ?_
    refine go_aload at_66 rfl rfl rfl ?_
    refine go_new at_68 rfl (wd hB 232 rfl) (wd hB 233 rfl) (wd hB 61 rfl) (by decide) (by decide) ?_
    intro h504 x499 hx500 E501 ⟨A502, D503⟩
    have F505 : Fld Z h504 x499 "com/example/atomic_lock/atomiclock/backend/HeldLock" "name" "Ljava/lang/String;" .null := D503 (Or.inr (wd hB 244 rfl)) (ty := (.object "java/lang/String")) (by decide)
    have F506 : Fld Z h504 x499 "com/example/atomic_lock/atomiclock/backend/HeldLock" "ownerToken" "Ljava/lang/String;" .null := D503 (Or.inr (wd hB 246 rfl)) (ty := (.object "java/lang/String")) (by decide)
    have F507 : Fld Z h504 x499 "com/example/atomic_lock/atomiclock/backend/HeldLock" "fencingToken" "Ljava/util/OptionalLong;" .null := D503 (Or.inr (wd hB 248 rfl)) (ty := (.object "java/util/OptionalLong")) (by decide)
    refine go_dup at_71 rfl rfl ?_
    refine go_aload at_72 rfl rfl rfl ?_
    refine go_aconstNull at_74 rfl ?_
    refine go_aconstNull at_75 rfl ?_
    refine go_special x499 [(.ref s), .null, .null] [(.ref x499), (.ref x105)] 2 at_76 rfl rfl (wd hB 234 rfl) (wd hB 235 rfl) (wd hB 61 rfl) (wd hB 236 rfl) (c_hli hB A502 F505 F506 F507) (allS (List.Mem.head _) (fun _ q => nomatch q)) (lenOf pd_39 rfl) rfl rfl rfl (by decide) (by decide) (by decide) (by decide) (by decide) (fun v508 h509 s510 q511 => ?_)
    obtain ⟨rfl, rfl, K512, E513, F514⟩ := q511
    show Go _ _ _ _ _ _ _ _ _ _ _ _ h509 [x499, x105] 8 29 79 #[.val (.int p0), .val (.int p1), .val (.int p2), .val (.int p3), .val (.int p4), .val (.int 3), .val (.int len), .val (.int a), .val (.int b), .val (.int c), .val (.ref s), .val (.ref x105), .unset, .unset, .unset] [(.ref x499), (.ref x105)]
    have F515 := ((Ae.ext E501).keep K512 (ninS (Nat.ne_of_lt (Nat.lt_of_lt_of_le Ae.lt (Nat.le_of_eq hx500.symm))) nin0))
    have F516 := ((Exa.ext E501 Y1).keep K512)
    have F517 := ((Fld.ext E501 Y3).keep K512 (ninS (Nat.ne_of_lt (Nat.lt_of_lt_of_le Y1.lt (Nat.le_of_eq hx500.symm))) nin0))
    have F518 := ((Fld.ext E501 Y4).keep K512 (ninS (Nat.ne_of_lt (Nat.lt_of_lt_of_le Y1.lt (Nat.le_of_eq hx500.symm))) nin0))
    have F519 := ((Fld.ext E501 Y2).keep K512 (ninS (Nat.ne_of_lt (Nat.lt_of_lt_of_le Y1.lt (Nat.le_of_eq hx500.symm))) nin0))
    refine go_iface x105 [(.ref x499)] [] 0 at_79 rfl F516 (wd hB 249 rfl) (wd hB 250 rfl) (wd hB 251 rfl) rfl (wd hB 252 rfl) (wd hB 253 rfl) (wd hB 254 rfl) (wd hB 255 rfl) (wd hB 70 rfl) (wd hB 37 rfl) (wd hB 256 rfl) (c_adda hB hSe F515 F516 F517 F518 F519 E513) (allS (List.Mem.tail _ (List.Mem.head _)) (fun _ q => nomatch q)) (lenOf pd_40 rfl) rfl rfl rfl (by decide) (by decide) (by decide) (by decide) (by decide) (fun v520 h521 s522 q523 => ?_)
    obtain ⟨e, kx, rfl, rfl, K2, g2, A2, O2, Z1, Z2, Z3, Z4⟩ := q523
    show Go _ _ _ _ _ _ _ _ _ _ _ _ h521 [e, x499, x105] 9 39 84 #[.val (.int p0), .val (.int p1), .val (.int p2), .val (.int p3), .val (.int p4), .val (.int 3), .val (.int len), .val (.int a), .val (.int b), .val (.int c), .val (.ref s), .val (.ref x105), .unset, .unset, .unset] [(.int 1)]
    refine go_pop at_84 rfl rfl ?_
    refine go_iload at_85 rfl rfl ?_
    refine go_iconst 2 at_87 rfl (by decide) ?_
    refine go_icmp_lt_f at_88 rfl (by decide) ?_
    refine go_aload at_91 rfl rfl rfl ?_
    refine go_new at_93 rfl (wd hB 232 rfl) (wd hB 233 rfl) (wd hB 61 rfl) (by decide) (by decide) ?_
    intro h529 x524 hx525 E526 ⟨A527, D528⟩
    have F530 : Fld Z h529 x524 "com/example/atomic_lock/atomiclock/backend/HeldLock" "name" "Ljava/lang/String;" .null := D528 (Or.inr (wd hB 244 rfl)) (ty := (.object "java/lang/String")) (by decide)
    have F531 : Fld Z h529 x524 "com/example/atomic_lock/atomiclock/backend/HeldLock" "ownerToken" "Ljava/lang/String;" .null := D528 (Or.inr (wd hB 246 rfl)) (ty := (.object "java/lang/String")) (by decide)
    have F532 : Fld Z h529 x524 "com/example/atomic_lock/atomiclock/backend/HeldLock" "fencingToken" "Ljava/util/OptionalLong;" .null := D528 (Or.inr (wd hB 248 rfl)) (ty := (.object "java/util/OptionalLong")) (by decide)
    refine go_dup at_96 rfl rfl ?_
    refine go_iload at_97 rfl rfl ?_
    refine go_static [(.int b)] [(.ref x524), (.ref x524), (.ref x105)] 3 at_99 rfl (wd hB 280 rfl) (wd hB 281 rfl) (wd hB 7 rfl) (wd hB 282 rfl) (c_vc hB b ib) (fun _ q => nomatch q) (lenOf pd_41 rfl) rfl rfl rfl (by decide) (by decide) (by decide) (by decide) (by decide) (fun v533 h534 s535 q536 => ?_)
    obtain ⟨s537, rfl, rfl, E538⟩ := q536
    show Go _ _ _ _ _ _ _ _ _ _ _ _ h534 [x524, e, x499, x105] 12 47 102 #[.val (.int p0), .val (.int p1), .val (.int p2), .val (.int p3), .val (.int p4), .val (.int 3), .val (.int len), .val (.int a), .val (.int b), .val (.int c), .val (.ref s), .val (.ref x105), .unset, .unset, .unset] [(.ref s537), (.ref x524), (.ref x524), (.ref x105)]
    refine go_aconstNull at_102 rfl ?_
    refine go_aconstNull at_103 rfl ?_
    have F539 := (Exa.ext E538 A527)
    have F540 := (Fld.ext E538 F530)
    have F541 := (Fld.ext E538 F531)
    have F542 := (Fld.ext E538 F532)
    refine go_special x524 [(.ref s537), .null, .null] [(.ref x524), (.ref x105)] 2 at_104 rfl rfl (wd hB 234 rfl) (wd hB 235 rfl) (wd hB 61 rfl) (wd hB 236 rfl) (c_hli hB F539 F540 F541 F542) (allS (List.Mem.head _) (fun _ q => nomatch q)) (lenOf pd_39 rfl) rfl rfl rfl (by decide) (by decide) (by decide) (by decide) (by decide) (fun v543 h544 s545 q546 => ?_)
    obtain ⟨rfl, rfl, K547, E548, F549⟩ := q546
    show Go _ _ _ _ _ _ _ _ _ _ _ _ h544 [x524, e, x499, x105] 12 47 107 #[.val (.int p0), .val (.int p1), .val (.int p2), .val (.int p3), .val (.int p4), .val (.int 3), .val (.int len), .val (.int a), .val (.int b), .val (.int c), .val (.ref s), .val (.ref x105), .unset, .unset, .unset] [(.ref x524), (.ref x105)]
    have F550 := ((Exa.ext E538 (Exa.ext E526 Z1)).keep K547)
    have F551 := ((Fld.ext E538 (Fld.ext E526 Z2)).keep K547 (ninS (Nat.ne_of_lt (Nat.lt_of_lt_of_le Z1.lt (Nat.le_of_eq hx525.symm))) nin0))
    have F552 := ((Fld.ext E538 (Fld.ext E526 Z3)).keep K547 (ninS (Nat.ne_of_lt (Nat.lt_of_lt_of_le Z1.lt (Nat.le_of_eq hx525.symm))) nin0))
    have F553 := ((Fld.ext E538 (Fld.ext E526 Z4)).keep K547 (ninS (Nat.ne_of_lt (Nat.lt_of_lt_of_le Z1.lt (Nat.le_of_eq hx525.symm))) nin0))
    have F554 := (((A2.ext E526).ext E538).keep K547 (ninS (Nat.ne_of_lt (Nat.lt_of_lt_of_le A2.lt (Nat.le_of_eq hx525.symm))) nin0))
    refine go_iface x105 [(.ref x524)] [] 0 at_107 rfl F550 (wd hB 249 rfl) (wd hB 250 rfl) (wd hB 251 rfl) rfl (wd hB 252 rfl) (wd hB 253 rfl) (wd hB 254 rfl) (wd hB 255 rfl) (wd hB 70 rfl) (wd hB 37 rfl) (wd hB 256 rfl) (c_addn hB 1 (by omega) ([(.ref x499), .null, .null, .null, .null, .null, .null, .null, .null, .null]) rfl O2 (Ne.symm (Nat.ne_of_lt (Nat.lt_of_lt_of_le F516.lt g2))) F550 F551 F552 F553 F554 E548) (allS (List.Mem.tail _ (List.Mem.tail _ (List.Mem.tail _ (List.Mem.head _)))) (allS (List.Mem.tail _ (List.Mem.head _)) (fun _ q => nomatch q))) (lenOf pd_40 rfl) rfl rfl rfl (by decide) (by decide) (by decide) (by decide) (by decide) (fun v555 h556 s557 q558 => ?_)
    obtain ⟨rfl, rfl, K559, A560, F561, F562, F563, F564⟩ := q558
    show Go _ _ _ _ _ _ _ _ _ _ _ _ h556 [x524, e, x499, x105] 12 47 112 #[.val (.int p0), .val (.int p1), .val (.int p2), .val (.int p3), .val (.int p4), .val (.int 3), .val (.int len), .val (.int a), .val (.int b), .val (.int c), .val (.ref s), .val (.ref x105), .unset, .unset, .unset] [(.int 1)]
    refine go_pop at_112 rfl rfl ?_
    refine go_iload at_113 rfl rfl ?_
    refine go_iconst 3 at_115 rfl (by decide) ?_
    refine go_icmp_lt_f at_116 rfl (by decide) ?_
    refine go_aload at_119 rfl rfl rfl ?_
    refine go_new at_121 rfl (wd hB 232 rfl) (wd hB 233 rfl) (wd hB 61 rfl) (by decide) (by decide) ?_
    intro h570 x565 hx566 E567 ⟨A568, D569⟩
    have F571 : Fld Z h570 x565 "com/example/atomic_lock/atomiclock/backend/HeldLock" "name" "Ljava/lang/String;" .null := D569 (Or.inr (wd hB 244 rfl)) (ty := (.object "java/lang/String")) (by decide)
    have F572 : Fld Z h570 x565 "com/example/atomic_lock/atomiclock/backend/HeldLock" "ownerToken" "Ljava/lang/String;" .null := D569 (Or.inr (wd hB 246 rfl)) (ty := (.object "java/lang/String")) (by decide)
    have F573 : Fld Z h570 x565 "com/example/atomic_lock/atomiclock/backend/HeldLock" "fencingToken" "Ljava/util/OptionalLong;" .null := D569 (Or.inr (wd hB 248 rfl)) (ty := (.object "java/util/OptionalLong")) (by decide)
    refine go_dup at_124 rfl rfl ?_
    refine go_iload at_125 rfl rfl ?_
    refine go_static [(.int c)] [(.ref x565), (.ref x565), (.ref x105)] 3 at_127 rfl (wd hB 280 rfl) (wd hB 281 rfl) (wd hB 7 rfl) (wd hB 282 rfl) (c_vc hB c ic) (fun _ q => nomatch q) (lenOf pd_41 rfl) rfl rfl rfl (by decide) (by decide) (by decide) (by decide) (by decide) (fun v574 h575 s576 q577 => ?_)
    obtain ⟨s578, rfl, rfl, E579⟩ := q577
    show Go _ _ _ _ _ _ _ _ _ _ _ _ h575 [x565, x524, e, x499, x105] 15 55 130 #[.val (.int p0), .val (.int p1), .val (.int p2), .val (.int p3), .val (.int p4), .val (.int 3), .val (.int len), .val (.int a), .val (.int b), .val (.int c), .val (.ref s), .val (.ref x105), .unset, .unset, .unset] [(.ref s578), (.ref x565), (.ref x565), (.ref x105)]
    refine go_aconstNull at_130 rfl ?_
    refine go_aconstNull at_131 rfl ?_
    have F580 := (Exa.ext E579 A568)
    have F581 := (Fld.ext E579 F571)
    have F582 := (Fld.ext E579 F572)
    have F583 := (Fld.ext E579 F573)
    refine go_special x565 [(.ref s578), .null, .null] [(.ref x565), (.ref x105)] 2 at_132 rfl rfl (wd hB 234 rfl) (wd hB 235 rfl) (wd hB 61 rfl) (wd hB 236 rfl) (c_hli hB F580 F581 F582 F583) (allS (List.Mem.head _) (fun _ q => nomatch q)) (lenOf pd_39 rfl) rfl rfl rfl (by decide) (by decide) (by decide) (by decide) (by decide) (fun v584 h585 s586 q587 => ?_)
    obtain ⟨rfl, rfl, K588, E589, F590⟩ := q587
    show Go _ _ _ _ _ _ _ _ _ _ _ _ h585 [x565, x524, e, x499, x105] 15 55 135 #[.val (.int p0), .val (.int p1), .val (.int p2), .val (.int p3), .val (.int p4), .val (.int 3), .val (.int len), .val (.int a), .val (.int b), .val (.int c), .val (.ref s), .val (.ref x105), .unset, .unset, .unset] [(.ref x565), (.ref x105)]
    have F591 := ((Exa.ext E579 (Exa.ext E567 F561)).keep K588)
    have F592 := ((Fld.ext E579 (Fld.ext E567 F562)).keep K588 (ninS (Nat.ne_of_lt (Nat.lt_of_lt_of_le F561.lt (Nat.le_of_eq hx566.symm))) nin0))
    have F593 := ((Fld.ext E579 (Fld.ext E567 F563)).keep K588 (ninS (Nat.ne_of_lt (Nat.lt_of_lt_of_le F561.lt (Nat.le_of_eq hx566.symm))) nin0))
    have F594 := ((Fld.ext E579 (Fld.ext E567 F564)).keep K588 (ninS (Nat.ne_of_lt (Nat.lt_of_lt_of_le F561.lt (Nat.le_of_eq hx566.symm))) nin0))
    have F595 := (((A560.ext E567).ext E579).keep K588 (ninS (Nat.ne_of_lt (Nat.lt_of_lt_of_le A560.lt (Nat.le_of_eq hx566.symm))) nin0))
    refine go_iface x105 [(.ref x565)] [] 0 at_135 rfl F591 (wd hB 249 rfl) (wd hB 250 rfl) (wd hB 251 rfl) rfl (wd hB 252 rfl) (wd hB 253 rfl) (wd hB 254 rfl) (wd hB 255 rfl) (wd hB 70 rfl) (wd hB 37 rfl) (wd hB 256 rfl) (c_addn hB 2 (by omega) (([(.ref x499), .null, .null, .null, .null, .null, .null, .null, .null, .null] : List Value).set 1 (.ref x524)) rfl O2 (Ne.symm (Nat.ne_of_lt (Nat.lt_of_lt_of_le F516.lt g2))) F591 F592 F593 F594 F595 E589) (allS (List.Mem.tail _ (List.Mem.tail _ (List.Mem.tail _ (List.Mem.tail _ (List.Mem.head _))))) (allS (List.Mem.tail _ (List.Mem.tail _ (List.Mem.head _))) (fun _ q => nomatch q))) (lenOf pd_40 rfl) rfl rfl rfl (by decide) (by decide) (by decide) (by decide) (by decide) (fun v596 h597 s598 q599 => ?_)
    obtain ⟨rfl, rfl, K600, A601, F602, F603, F604, F605⟩ := q599
    show Go _ _ _ _ _ _ _ _ _ _ _ _ h597 [x565, x524, e, x499, x105] 15 55 140 #[.val (.int p0), .val (.int p1), .val (.int p2), .val (.int p3), .val (.int p4), .val (.int 3), .val (.int len), .val (.int a), .val (.int b), .val (.int c), .val (.ref s), .val (.ref x105), .unset, .unset, .unset] [(.int 1)]
    refine go_pop at_140 rfl rfl ?_
    refine go_aload at_141 rfl rfl rfl ?_
    refine go_static [(.ref x105)] [] 0 at_143 rfl (wd hB 59 rfl) (wd hB 60 rfl) (wd hB 61 rfl) (wd hB 62 rfl) (c_descn hB 3 (by omega) (by omega) F602 F603) (fun _ q => nomatch q) (lenOf pd_37 rfl) rfl rfl rfl (by decide) (by decide) (by decide) (by decide) (by decide) (fun v606 h607 s608 q609 => ?_)
    obtain ⟨r, d2, k2, rfl, rfl, E2, g3, g4, R1, R2, R3, R4⟩ := q609
    show Go _ _ _ _ _ _ _ _ _ _ _ _ h607 [x565, x524, e, x499, x105] 21 123 146 #[.val (.int p0), .val (.int p1), .val (.int p2), .val (.int p3), .val (.int p4), .val (.int 3), .val (.int len), .val (.int a), .val (.int b), .val (.int c), .val (.ref s), .val (.ref x105), .unset, .unset, .unset] [(.ref r)]
    refine go_astore at_146 rfl #[.val (.int p0), .val (.int p1), .val (.int p2), .val (.int p3), .val (.int p4), .val (.int 3), .val (.int len), .val (.int a), .val (.int b), .val (.int c), .val (.ref s), .val (.ref x105), .val (.ref r), .unset, .unset] rfl rfl ?_
    refine go_aload at_148 rfl rfl rfl ?_
    refine go_ifnonnull_t (pt := 155) at_150 (by decide) (by decide) ?_
    refine go_iload at_155 rfl rfl ?_
    refine go_iconst 1 at_157 rfl (by decide) ?_
    refine go_icmp_ne_t (pt := 384) at_158 (by decide) (by decide) (by decide) ?_
    refine go_aload at_384 rfl rfl rfl ?_
    refine go_virtual r [] [] 0 at_386 rfl R1 (wd hB 205 rfl) (wd hB 135 rfl) (nf_of (wd hB 137 rfl)) (wd hB 137 rfl) (wd hB 136 rfl) (wd hB 7 rfl) (wd hB 138 rfl) (c_len hB ([Int32.ofNat (48 + 3)] ++ [32, 108, 111, 99, 107, 115]) (by show 7 ≤ 4000; decide) R1 R2 R3 R4) (fun _ q => nomatch q) (lenOf pd_14 rfl) rfl rfl rfl (by decide) (by decide) (by decide) (by decide) (by decide) (fun v610 h611 s612 q613 => ?_)
    obtain ⟨rfl, rfl, rfl⟩ := q613
    show Go _ _ _ _ _ _ _ _ _ _ _ _ h607 [x565, x524, e, x499, x105] 21 123 389 #[.val (.int p0), .val (.int p1), .val (.int p2), .val (.int p3), .val (.int p4), .val (.int 3), .val (.int len), .val (.int a), .val (.int b), .val (.int c), .val (.ref s), .val (.ref x105), .val (.ref r), .unset, .unset] [(.int 7)]
    refine go_bipush 7 at_389 rfl (by decide) ?_
    refine go_icmp_eq_t (pt := 396) at_391 (by decide) (by decide) (by decide) ?_
    refine go_aload at_396 rfl rfl rfl ?_
    refine go_iconst 0 at_398 rfl (by decide) ?_
    refine go_bipush 48 at_399 rfl (by decide) ?_
    refine go_iload at_401 rfl rfl ?_
    refine go_iadd at_403 rfl ?_
    refine go_i2c at_404 rfl ?_
    rw [show ((48 : Int32) + 3).toUInt32.toUInt16.toUInt32.toInt32 = 51 from by decide]
    refine go_static [(.ref r), (.int 0), (.int 51)] [] 0 at_405 rfl (wd hB 206 rfl) (wd hB 207 rfl) (wd hB 3 rfl) (wd hB 208 rfl) (c_at hB ([Int32.ofNat (48 + 3)] ++ [32, 108, 111, 99, 107, 115]) (by show 7 ≤ 4000; decide) 0 51 rfl ⟨by decide, by decide⟩ R1 R2 R3 R4) (fun _ q => nomatch q) (lenOf pd_38 rfl) rfl rfl rfl (by decide) (by decide) (by decide) (by decide) (by decide) (fun v614 h615 s616 q617 => ?_)
    obtain ⟨rfl, rfl, rfl⟩ := q617
    show Go _ _ _ _ _ _ _ _ _ _ _ _ h607 [x565, x524, e, x499, x105] 21 123 408 #[.val (.int p0), .val (.int p1), .val (.int p2), .val (.int p3), .val (.int p4), .val (.int 3), .val (.int len), .val (.int a), .val (.int b), .val (.int c), .val (.ref s), .val (.ref x105), .val (.ref r), .unset, .unset] [(.int 1)]
    refine go_if_eq_f at_408 rfl (by decide) ?_
    refine go_aload at_411 rfl rfl rfl ?_
    refine go_iconst 1 at_413 rfl (by decide) ?_
    refine go_bipush 32 at_414 rfl (by decide) ?_
    refine go_static [(.ref r), (.int 1), (.int 32)] [] 0 at_416 rfl (wd hB 206 rfl) (wd hB 207 rfl) (wd hB 3 rfl) (wd hB 208 rfl) (c_at hB ([Int32.ofNat (48 + 3)] ++ [32, 108, 111, 99, 107, 115]) (by show 7 ≤ 4000; decide) 1 32 rfl ⟨by decide, by decide⟩ R1 R2 R3 R4) (fun _ q => nomatch q) (lenOf pd_38 rfl) rfl rfl rfl (by decide) (by decide) (by decide) (by decide) (by decide) (fun v618 h619 s620 q621 => ?_)
    obtain ⟨rfl, rfl, rfl⟩ := q621
    show Go _ _ _ _ _ _ _ _ _ _ _ _ h607 [x565, x524, e, x499, x105] 21 123 419 #[.val (.int p0), .val (.int p1), .val (.int p2), .val (.int p3), .val (.int p4), .val (.int 3), .val (.int len), .val (.int a), .val (.int b), .val (.int c), .val (.ref s), .val (.ref x105), .val (.ref r), .unset, .unset] [(.int 1)]
    refine go_if_eq_f at_419 rfl (by decide) ?_
    refine go_aload at_422 rfl rfl rfl ?_
    refine go_iconst 2 at_424 rfl (by decide) ?_
    refine go_bipush 108 at_425 rfl (by decide) ?_
    refine go_static [(.ref r), (.int 2), (.int 108)] [] 0 at_427 rfl (wd hB 206 rfl) (wd hB 207 rfl) (wd hB 3 rfl) (wd hB 208 rfl) (c_at hB ([Int32.ofNat (48 + 3)] ++ [32, 108, 111, 99, 107, 115]) (by show 7 ≤ 4000; decide) 2 108 rfl ⟨by decide, by decide⟩ R1 R2 R3 R4) (fun _ q => nomatch q) (lenOf pd_38 rfl) rfl rfl rfl (by decide) (by decide) (by decide) (by decide) (by decide) (fun v622 h623 s624 q625 => ?_)
    obtain ⟨rfl, rfl, rfl⟩ := q625
    show Go _ _ _ _ _ _ _ _ _ _ _ _ h607 [x565, x524, e, x499, x105] 21 123 430 #[.val (.int p0), .val (.int p1), .val (.int p2), .val (.int p3), .val (.int p4), .val (.int 3), .val (.int len), .val (.int a), .val (.int b), .val (.int c), .val (.ref s), .val (.ref x105), .val (.ref r), .unset, .unset] [(.int 1)]
    refine go_if_eq_f at_430 rfl (by decide) ?_
    refine go_aload at_433 rfl rfl rfl ?_
    refine go_iconst 3 at_435 rfl (by decide) ?_
    refine go_bipush 111 at_436 rfl (by decide) ?_
    refine go_static [(.ref r), (.int 3), (.int 111)] [] 0 at_438 rfl (wd hB 206 rfl) (wd hB 207 rfl) (wd hB 3 rfl) (wd hB 208 rfl) (c_at hB ([Int32.ofNat (48 + 3)] ++ [32, 108, 111, 99, 107, 115]) (by show 7 ≤ 4000; decide) 3 111 rfl ⟨by decide, by decide⟩ R1 R2 R3 R4) (fun _ q => nomatch q) (lenOf pd_38 rfl) rfl rfl rfl (by decide) (by decide) (by decide) (by decide) (by decide) (fun v626 h627 s628 q629 => ?_)
    obtain ⟨rfl, rfl, rfl⟩ := q629
    show Go _ _ _ _ _ _ _ _ _ _ _ _ h607 [x565, x524, e, x499, x105] 21 123 441 #[.val (.int p0), .val (.int p1), .val (.int p2), .val (.int p3), .val (.int p4), .val (.int 3), .val (.int len), .val (.int a), .val (.int b), .val (.int c), .val (.ref s), .val (.ref x105), .val (.ref r), .unset, .unset] [(.int 1)]
    refine go_if_eq_f at_441 rfl (by decide) ?_
    refine go_aload at_444 rfl rfl rfl ?_
    refine go_iconst 4 at_446 rfl (by decide) ?_
    refine go_bipush 99 at_447 rfl (by decide) ?_
    refine go_static [(.ref r), (.int 4), (.int 99)] [] 0 at_449 rfl (wd hB 206 rfl) (wd hB 207 rfl) (wd hB 3 rfl) (wd hB 208 rfl) (c_at hB ([Int32.ofNat (48 + 3)] ++ [32, 108, 111, 99, 107, 115]) (by show 7 ≤ 4000; decide) 4 99 rfl ⟨by decide, by decide⟩ R1 R2 R3 R4) (fun _ q => nomatch q) (lenOf pd_38 rfl) rfl rfl rfl (by decide) (by decide) (by decide) (by decide) (by decide) (fun v630 h631 s632 q633 => ?_)
    obtain ⟨rfl, rfl, rfl⟩ := q633
    show Go _ _ _ _ _ _ _ _ _ _ _ _ h607 [x565, x524, e, x499, x105] 21 123 452 #[.val (.int p0), .val (.int p1), .val (.int p2), .val (.int p3), .val (.int p4), .val (.int 3), .val (.int len), .val (.int a), .val (.int b), .val (.int c), .val (.ref s), .val (.ref x105), .val (.ref r), .unset, .unset] [(.int 1)]
    refine go_if_eq_f at_452 rfl (by decide) ?_
    refine go_aload at_455 rfl rfl rfl ?_
    refine go_iconst 5 at_457 rfl (by decide) ?_
    refine go_bipush 107 at_458 rfl (by decide) ?_
    refine go_static [(.ref r), (.int 5), (.int 107)] [] 0 at_460 rfl (wd hB 206 rfl) (wd hB 207 rfl) (wd hB 3 rfl) (wd hB 208 rfl) (c_at hB ([Int32.ofNat (48 + 3)] ++ [32, 108, 111, 99, 107, 115]) (by show 7 ≤ 4000; decide) 5 107 rfl ⟨by decide, by decide⟩ R1 R2 R3 R4) (fun _ q => nomatch q) (lenOf pd_38 rfl) rfl rfl rfl (by decide) (by decide) (by decide) (by decide) (by decide) (fun v634 h635 s636 q637 => ?_)
    obtain ⟨rfl, rfl, rfl⟩ := q637
    show Go _ _ _ _ _ _ _ _ _ _ _ _ h607 [x565, x524, e, x499, x105] 21 123 463 #[.val (.int p0), .val (.int p1), .val (.int p2), .val (.int p3), .val (.int p4), .val (.int 3), .val (.int len), .val (.int a), .val (.int b), .val (.int c), .val (.ref s), .val (.ref x105), .val (.ref r), .unset, .unset] [(.int 1)]
    refine go_if_eq_f at_463 rfl (by decide) ?_
    refine go_aload at_466 rfl rfl rfl ?_
    refine go_bipush 6 at_468 rfl (by decide) ?_
    refine go_bipush 115 at_470 rfl (by decide) ?_
    refine go_static [(.ref r), (.int 6), (.int 115)] [] 0 at_472 rfl (wd hB 206 rfl) (wd hB 207 rfl) (wd hB 3 rfl) (wd hB 208 rfl) (c_at hB ([Int32.ofNat (48 + 3)] ++ [32, 108, 111, 99, 107, 115]) (by show 7 ≤ 4000; decide) 6 115 rfl ⟨by decide, by decide⟩ R1 R2 R3 R4) (fun _ q => nomatch q) (lenOf pd_38 rfl) rfl rfl rfl (by decide) (by decide) (by decide) (by decide) (by decide) (fun v638 h639 s640 q641 => ?_)
    obtain ⟨rfl, rfl, rfl⟩ := q641
    show Go _ _ _ _ _ _ _ _ _ _ _ _ h607 [x565, x524, e, x499, x105] 21 123 475 #[.val (.int p0), .val (.int p1), .val (.int p2), .val (.int p3), .val (.int p4), .val (.int 3), .val (.int len), .val (.int a), .val (.int b), .val (.int c), .val (.ref s), .val (.ref x105), .val (.ref r), .unset, .unset] [(.int 1)]
    refine go_if_eq_f at_475 rfl (by decide) ?_
    refine go_iconst 1 at_478 rfl (by decide) ?_
    refine go_goto (pt := 483) at_479 (by decide) (by decide) ?_
    refine go_retN (t := .boolean) at_483 [] rfl (by simp) (by decide) (by decide) (fun _ q => nomatch q) ?_
    decide
theorem emp_start {Z : State} {args : Array Value} {t : Term} {a : Addr} {c : Cell} (hf : Fit Z) (ev : t.eval args Z none [] Z = some (.ref a)) (A : Arr Z Z.heap a c (.object "java/lang/Object")) (hl : (Jvm.Cond.eq (Term.length t) (Term.int 0)).value args Z none Z [] = some true) :
    ∃ k, Arv Z Z.heap a k (.object "java/lang/Object") 0 [] .null := by
  have e1 := eqv_i (Term.int_eval 0) hl
  obtain ⟨a', c', q1, q2, q3⟩ := Term.length_spec e1
  cases ev.symm.trans q1
  obtain ⟨g1, -⟩ := State.arrayAt?_spec q2
  cases A.1.symm.trans g1
  have hs : c.slots.size < 2 ^ 31 := by
    simp only [Term.eval, q1, Option.bind_eq_bind, Option.bind_some, q2] at e1
    by_cases hlt : c.slots.size < 2 ^ 31
    · exact hlt
    · rw [if_neg hlt] at e1; cases e1
  have h0 := len_toInt hs
  have e0 : c.slots.size.toInt32 = 0 := (Value.int.inj q3).symm
  have hz : c.slots.size = 0 := by rw [e0] at h0; have : (0 : Int32).toInt = 0 := rfl; omega
  have B := arv_old hf A hs e0 (by decide) .null
  have hl : c.slots.toList = [] := List.length_eq_zero_iff.mp (by rw [Array.length_toList]; exact hz)
  rw [hl] at B
  exact ⟨_, B⟩
set_option maxRecDepth 65536 in
set_option maxHeartbeats 40000000 in
theorem comes_1 {Post : Tables → Env → Array Value → State → Outcome → State → Prop} (hpost : ∀ tb e args s v u, (limb_1_1.after args s (.returned v) u = true ∧ limb_1_2.after args s (.returned v) u = true ∧ True) → ReturnedEndW s (.returned v) u (Jvm.fieldLocs frame_1_writes args s ++ Jvm.arrayLocs frame_1_arrays args s ++ Jvm.staticLocs frame_1_statics s) 48 4352 → Post tb e args s (.returned v) u) :
    ArmFor flags0 classFile x code maxLocals ret World_1 tables_1 room_1 Calls_1 rest_1 Pre_1 Post := by
  intro l hfl _ _ p e ha hc hk s m args below hf hA hF happ hP
  obtain ⟨hcalls, hrest, hpre⟩ := hP
  obtain ⟨-, -, -, hnamed, -, -, -, hat⟩ := (Spec.applies_iff hf).mp happ
  obtain ⟨hg, hn⟩ := and_e (Cond.before_iff.mp (show (Jvm.Cond.and given_1 narrow_1).before args s = true from hpre))
  obtain ⟨hcount, hr_0⟩ := and_e hg
  obtain ⟨hk_0, hr_1⟩ := and_e hr_0
  obtain ⟨hk_1, hr_2⟩ := and_e hr_1
  obtain ⟨hk_2, hr_3⟩ := and_e hr_2
  obtain ⟨hk_3, hr_4⟩ := and_e hr_3
  have hk_4 := hr_4
  obtain ⟨w0, w1, w2, w3, w4, rfl⟩ : ∃ w0 w1 w2 w3 w4 : Value, args = #[w0, w1, w2, w3, w4] := by
    have hs : args.size = 5 := by simpa [Cond.value, given_1] using hcount
    obtain ⟨L⟩ := args
    match L, hs with
    | [w0, w1, w2, w3, w4], _ => exact ⟨w0, w1, w2, w3, w4, rfl⟩
  have hw := fun d (hd : d ∈ tables_1) => atoms_spec (ws := Jvm.Cond.code x code maxLocals ret :: tables_1) hat d (List.mem_cons_of_mem _ hd)
  obtain ⟨hsets, hown0⟩ := atoms_of _ (rest_1_c_eq ▸ (show rest_1_c.before _ s = true from hrest))
  have hfit : Fit s := fun {y c} hc i hi => by
    obtain ⟨ha, rfl⟩ := Array.getElem?_eq_some_iff.mp hc
    have q := List.all_eq_true.mp ((Array.all_eq_true_iff_forall_mem.mp hF) _ (Array.getElem_mem ha)) i (List.mem_range.mpr hi)
    simpa [Array.getElem?_eq_getElem hi] using q
  obtain ⟨p0, e_0⟩ := is_v hk_0
  obtain rfl : w0 = (.int p0) := Option.some.inj e_0
  obtain ⟨p1, e_1⟩ := is_v hk_1
  obtain rfl : w1 = (.int p1) := Option.some.inj e_1
  obtain ⟨p2, e_2⟩ := is_v hk_2
  obtain rfl : w2 = (.int p2) := Option.some.inj e_2
  obtain ⟨p3, e_3⟩ := is_v hk_3
  obtain rfl : w3 = (.int p3) := Option.some.inj e_3
  obtain ⟨p4, e_4⟩ := is_v hk_4
  obtain rfl : w4 = (.int p4) := Option.some.inj e_4
  obtain ⟨cz, e_cz⟩ := is_v (Cond.before_iff.mp (hsets _ (List.mem_of_getElem? (i := 1) rfl)))
  have S_cs : Sta s s.heap "java/lang/String" "COMPACT_STRINGS" "Z" (.int cz) := Sta.start e_cz (Or.inl (hsets _ (List.mem_of_getElem? (i := 0) rfl)))
  have c_cs : ¬ (cz = (0 : Int32)) := gotF (Cond.eq_ints e_cz (Term.int_eval (0))) (not_v (Cond.before_iff.mp (hsets _ (List.mem_of_getElem? (i := 2) rfl))))
  obtain ⟨fv, e_fv, r_fv⟩ := isR_v (Cond.before_iff.mp (hsets _ (List.mem_of_getElem? (i := 8) rfl)))
  have S_fv : Sta s s.heap "jdk/internal/util/Preconditions" "SIOOBE_FORMATTER" "Ljava/util/function/BiFunction;" fv := Sta.start e_fv (Or.inl (hsets _ (List.mem_of_getElem? (i := 7) rfl)))
  obtain ⟨dg, e_dg⟩ := exa_v (Cond.before_iff.mp (hsets _ (List.mem_of_getElem? (i := 21) rfl)))
  have S_dg : Sta s s.heap "java/lang/Integer" "DigitOnes" "[B" (.ref dg) := Sta.start e_dg (Or.inl (hsets _ (List.mem_of_getElem? (i := 20) rfl)))
  obtain ⟨kd, vd, A_dg, v_dg⟩ := dig_start hfit (hw _ (List.mem_of_getElem? (i := 24) rfl)) (Cond.before_iff.mp (hsets _ (List.mem_of_getElem? (i := 21) rfl))) e_dg (Cond.before_iff.mp (hsets _ (List.mem_of_getElem? (i := 22) rfl))) (Cond.before_iff.mp (hsets _ (List.mem_of_getElem? (i := 23) rfl)))
  obtain ⟨de, e_de⟩ := arr_v (Cond.before_iff.mp (hsets _ (List.mem_of_getElem? (i := 15) rfl)))
  have S_de : Sta s s.heap "java/util/ArrayList" "DEFAULTCAPACITY_EMPTY_ELEMENTDATA" "[Ljava/lang/Object;" (.ref de) := Sta.start e_de (Or.inr ⟨hw _ (List.mem_of_getElem? (i := 37) rfl), (hsets _ (List.mem_of_getElem? (i := 11) rfl))⟩)
  obtain ⟨ce, A_ce⟩ := Arr.start e_de (Cond.before_iff.mp (hsets _ (List.mem_of_getElem? (i := 15) rfl)))
  obtain ⟨ke, A_de⟩ := emp_start hfit e_de A_ce (Cond.before_iff.mp (hsets _ (List.mem_of_getElem? (i := 17) rfl)))
  have hEW : EW s #[.int p0, .int p1, .int p2, .int p3, .int p4] ELc := EW.cons (hw _ (List.mem_of_getElem? (i := 293) rfl)) (by decide) (EW.cons (hw _ (List.mem_of_getElem? (i := 319) rfl)) (by decide) (EW.cons (hw _ (List.mem_of_getElem? (i := 122) rfl)) (by decide) (EW.cons (hw _ (List.mem_of_getElem? (i := 231) rfl)) (by decide) (EW.nil))))
  have hCH : CHv s ELc s.vm s.heap := CHv.start hEW (fun q hq => hcalls.1 q hq) (hsets _ (List.mem_of_getElem? (i := 2) rfl)) (hw _ (List.mem_of_getElem? (i := 24) rfl)) (hw _ (List.mem_of_getElem? (i := 6) rfl))
  have hB : Base s #[.int p0, .int p1, .int p2, .int p3, .int p4] := ⟨hw, hEW, ⟨cz, S_cs, c_cs⟩, ⟨fv, S_fv, r_fv⟩, ⟨dg, kd, vd, S_dg, A_dg, v_dg⟩, ⟨de, ke, S_de, A_de⟩, trivial⟩
  obtain ⟨n, o, h1, h2, h3, v, L, sf', rfl, rfl, N, -, -, -, hq⟩ := c_law (l := l) (n0 := s.heap.size) hB tables_1 p0 p1 p2 p3 p4 (h := s.heap) p e ha hc hk s m _ below hf ((Spec.applies_iff_loose hf).mp happ).1 ⟨rfl, State.Warmed39.refl s, rfl, hCH, OwnL.nil, Old.start s⟩ trivial
  refine ⟨n, _, h1, h2, h3, hpost _ _ _ _ _ _ ⟨Cond.after_iff.mpr rfl, Cond.after_iff.mpr (eq_i res_at (Term.int_eval (1)) rfl), trivial⟩ ⟨hq.1, hq.2.1, hq.2.2.1, (hq.2.2.2.sift fun y hy => Or.inr (N y hy)).mono (by decide) (by decide)⟩⟩
theorem main_1_1 : Claimed_1_1 := comes_1 fun _ _ _ _ _ _ h hF => ⟨h.1, hF⟩
theorem main_1_2 : Claimed_1_2 := comes_1 fun _ _ _ _ _ _ h hF => ⟨h.2.1, hF⟩
end Jvm.Pilot.@@N@@
namespace Jvm.Pilot.@@N@@
open Jvm Jvm.ClassFile Sem Op Lib Jvm.Free Jvm.Stand Jvm.Pilot.@@N@@.Jvm.D
/-! MADE BY PROGRAM (witnessworld.py) out of the Statement's table words and the real class files: 37 classes; the members and pool entries that the words name. The judged class is class 1, her method 3. -/
namespace start1
open Jvm.ClassFile
def u (s : String) : CpInfo := .utf8 (stringToUtf16 s)
/-- a pool by its gaps: so many unusable entries, then the entry; so many at the end -/
def gap : Nat → List CpInfo → List CpInfo
  | 0, r => r
  | n + 1, r => .unusable :: gap n r
def poolList (es : List (Nat × CpInfo)) (last : Nat) : List CpInfo := es.foldr (fun e r => gap e.1 (e.2 :: r)) (gap last [])
def pool (es : List (Nat × CpInfo)) (last : Nat) : Array CpInfo := ⟨poolList es last⟩
def fileOf (pool : Array CpInfo) (this : Nat) (attrs : Array Attribute := #[]) (ms : Array MethodInfo := #[]) (fl : Nat := 33) (sup : Nat := 0) (ifs : Array Nat := #[]) (fds : Array FieldInfo := #[]) : ClassFile where
  minorVersion := 0
  majorVersion := 65
  constantPool := pool
  accessFlags := fl
  thisClass := this
  superClass := sup
  interfaces := ifs
  fields := fds
  methods := ms
  attributes := attrs
def plain (name : String) (sup : Option ClassId) : Class where
  name := name
  kind := .ordinary
  loader := none
  accessFlags := 33
  super := sup
  interfaces := #[]
  cf := none
  fields := #[]
  methods := #[]
  instanceTypes := #[]
  staticTypes := #[]
  resolved := #[]
  callSites := []
  init := .initialized
  statics := none
  mirror := none

def pool0 : Array CpInfo := pool [(5, u "<init>"), (0, u "()V"), (1, .class_ 10), (1, u "java/lang/Object")] 113

def k0c0 : Code := { maxStack := 0, maxLocals := 1, code := object_method_1_code, exceptionTable := #[], attributes := #[] }
def k0m0 : Method := { name := "<init>", desc := "()V", sig := { parameters := [], returnType := none }, accessFlags := 1, code := some k0c0 }
/-- java/lang/Object -/
def k0 : Class := { plain "java/lang/Object" none with
  accessFlags := 33
  interfaces := #[]
  cf := some (fileOf pool0 8 #[] #[{ accessFlags := 1, nameIndex := 5, descriptorIndex := 6, attributes := #[] }] 33 0 #[] #[])
  fields := #[]
  methods := #[k0m0]
  instanceTypes := #[]
  staticTypes := #[]
  resolved := Array.replicate 124 none
  statics := none }

def pool1 : Array CpInfo := pool [(2, .class_ 4), (0, .nameAndType 5 6), (0, u "java/lang/Object"), (0, u "<init>"), (0, u "()V"), (0, .methodref 8 9), (0, .class_ 10), (0, .nameAndType 11 12), (0, u "java/lang/String"), (0, u "length"), (0, u "()I"), (0, .methodref 8 14), (0, .nameAndType 15 16), (0, u "charAt"), (0, u "(I)C"), (0, .methodref 8 18), (0, .nameAndType 5 19), (0, u "([C)V"), (0, .integer 2147483647), (0, .methodref 22 23), (0, .class_ 24), (0, .nameAndType 25 26), (0, u "com/example/atomic_lock/atomiclock/backend/HeldLockDescribePinLaw"), (0, u "name"), (0, u "(ICCC)Ljava/lang/String;"), (0, .class_ 28), (0, u "java/util/ArrayList"), (0, .methodref 27 3), (0, .class_ 31), (0, u "com/example/atomic_lock/atomiclock/backend/HeldLock"), (0, .methodref 30 33), (0, .nameAndType 5 34), (0, u "(Ljava/lang/String;Ljava/lang/String;Ljava/util/OptionalLong;)V"), (0, .interfaceMethodref 36 37), (0, .class_ 38), (0, .nameAndType 39 40), (0, u "java/util/List"), (0, u "add"), (0, u "(Ljava/lang/Object;)Z"), (0, .methodref 8 42), (0, .nameAndType 43 44), (0, u "valueOf"), (0, u "(C)Ljava/lang/String;"), (0, .methodref 30 46), (0, .nameAndType 47 48), (0, u "describe"), (0, u "(Ljava/util/List;)Ljava/lang/String;"), (0, .methodref 22 50), (0, .nameAndType 51 52), (0, u "at"), (0, u "(Ljava/lang/String;IC)Z"), (3, u "law"), (0, u "(IIIII)Z")] 2

def k1m0 : Method := { name := "<init>", desc := "()V", sig := { parameters := [], returnType := none }, accessFlags := 1, code := none }
def k1c1 : Code := { maxStack := 2, maxLocals := 3, code := method_2_code, exceptionTable := #[], attributes := #[] }
def k1m1 : Method := { name := "at", desc := "(Ljava/lang/String;IC)Z", sig := { parameters := [(.object "java/lang/String"), .int, .char], returnType := some .boolean }, accessFlags := 10, code := some k1c1 }
def k1c2 : Code := { maxStack := 6, maxLocals := 4, code := method_3_code, exceptionTable := #[], attributes := #[] }
def k1m2 : Method := { name := "name", desc := "(ICCC)Ljava/lang/String;", sig := { parameters := [.int, .char, .char, .char], returnType := some (.object "java/lang/String") }, accessFlags := 10, code := some k1c2 }
def k1c3 : Code := { maxStack := 6, maxLocals := 15, code := code, exceptionTable := #[], attributes := #[] }
def k1m3 : Method := { name := "law", desc := "(IIIII)Z", sig := { parameters := [.int, .int, .int, .int, .int], returnType := some .boolean }, accessFlags := 9, code := some k1c3 }
/-- com/example/atomic_lock/atomiclock/backend/HeldLockDescribePinLaw -/
def k1 : Class := { plain "com/example/atomic_lock/atomiclock/backend/HeldLockDescribePinLaw" (some 0) with
  accessFlags := 49
  interfaces := #[]
  cf := some (fileOf pool1 22 #[] #[{ accessFlags := 1, nameIndex := 5, descriptorIndex := 6, attributes := #[] }, { accessFlags := 10, nameIndex := 51, descriptorIndex := 52, attributes := #[] }, { accessFlags := 10, nameIndex := 25, descriptorIndex := 26, attributes := #[] }, { accessFlags := 9, nameIndex := 56, descriptorIndex := 57, attributes := #[] }] 49 2 #[] #[])
  fields := #[]
  methods := #[k1m0, k1m1, k1m2, k1m3]
  instanceTypes := #[]
  staticTypes := #[]
  resolved := Array.replicate 60 none
  statics := none }

def pool2 : Array CpInfo := pool [(1, .class_ 2), (0, u "java/io/Serializable"), (0, .class_ 4), (0, u "java/lang/Object")] 2

/-- java/io/Serializable -/
def k2 : Class := { plain "java/io/Serializable" (some 0) with
  accessFlags := 1537
  interfaces := #[]
  cf := some (fileOf pool2 1 #[] #[] 1537 3 #[] #[])
  fields := #[]
  methods := #[]
  instanceTypes := #[]
  staticTypes := #[]
  resolved := Array.replicate 7 none
  statics := none }

def pool3 : Array CpInfo := pool [(1, .class_ 2), (0, u "java/lang/Comparable"), (0, .class_ 4), (0, u "java/lang/Object")] 7

/-- java/lang/Comparable -/
def k3 : Class := { plain "java/lang/Comparable" (some 0) with
  accessFlags := 1537
  interfaces := #[]
  cf := some (fileOf pool3 1 #[] #[] 1537 3 #[] #[])
  fields := #[]
  methods := #[]
  instanceTypes := #[]
  staticTypes := #[]
  resolved := Array.replicate 12 none
  statics := none }

def pool4 : Array CpInfo := pool [(2, .class_ 4), (1, u "java/lang/CharSequence"), (42, .class_ 48), (0, u "java/lang/CharSequence$1CodePointIterator"), (10, .class_ 60), (0, u "java/lang/CharSequence$1CharIterator"), (5, .class_ 67), (0, u "java/lang/Object")] 63

/-- java/lang/CharSequence -/
def k4 : Class := { plain "java/lang/CharSequence" (some 0) with
  accessFlags := 1537
  interfaces := #[]
  cf := some (fileOf pool4 2 #[.nestMembers #[47, 59]] #[] 1537 66 #[] #[])
  fields := #[]
  methods := #[]
  instanceTypes := #[]
  staticTypes := #[]
  resolved := Array.replicate 131 none
  statics := none }

def pool5 : Array CpInfo := pool [(1, .class_ 2), (0, u "java/lang/constant/Constable"), (0, .class_ 4), (0, u "java/lang/Object")] 6

/-- java/lang/constant/Constable -/
def k5 : Class := { plain "java/lang/constant/Constable" (some 0) with
  accessFlags := 1537
  interfaces := #[]
  cf := some (fileOf pool5 1 #[] #[] 1537 3 #[] #[])
  fields := #[]
  methods := #[]
  instanceTypes := #[]
  staticTypes := #[]
  resolved := Array.replicate 11 none
  statics := none }

def pool6 : Array CpInfo := pool [(1, .class_ 2), (0, u "java/lang/constant/ConstantDesc"), (0, .class_ 4), (0, u "java/lang/Object")] 32

/-- java/lang/constant/ConstantDesc -/
def k6 : Class := { plain "java/lang/constant/ConstantDesc" (some 0) with
  accessFlags := 1537
  interfaces := #[]
  cf := some (fileOf pool6 1 #[] #[] 1537 3 #[] #[])
  fields := #[]
  methods := #[]
  instanceTypes := #[]
  staticTypes := #[]
  resolved := Array.replicate 37 none
  statics := none }

def pool7 : Array CpInfo := pool [(1, .methodref 2 3), (0, .class_ 4), (0, .nameAndType 5 6), (0, u "java/lang/Object"), (0, u "<init>"), (0, u "()V"), (0, .string 8), (0, u ""), (0, .fieldref 10 11), (0, .class_ 12), (0, .nameAndType 13 14), (0, u "java/lang/String"), (0, u "value"), (0, u "[B"), (0, .fieldref 10 16), (0, .nameAndType 17 18), (0, u "coder"), (0, u "B"), (2, u "hash"), (0, u "I"), (2, u "hashIsZero"), (0, u "Z"), (0, .methodref 10 28), (0, .nameAndType 5 29), (0, u "([CIILjava/lang/Void;)V"), (8, .fieldref 10 39), (0, .nameAndType 40 26), (0, u "COMPACT_STRINGS"), (1, .class_ 44), (1, u "java/lang/StringUTF16"), (0, u "compress"), (1, .methodref 42 48), (0, .nameAndType 49 50), (0, u "coderFromArrayLen"), (0, u "([BI)B"), (2, u "toBytes"), (0, .methodref 55 56), (0, .class_ 57), (0, .nameAndType 58 59), (0, u "java/util/Arrays"), (0, u "copyOfRange"), (0, u "([BII)[B"), (47, .class_ 109), (1, u "java/lang/StringLatin1"), (32, u "()Z"), (34, .methodref 42 178), (0, .nameAndType 45 179), (0, u "([CII)[B"), (13, .class_ 195), (1, u "java/lang/System"), (13, .methodref 10 210), (0, .nameAndType 5 211), (0, u "([BB)V"), (0, .methodref 193 213), (0, .nameAndType 214 215), (0, u "arraycopy"), (0, u "(Ljava/lang/Object;ILjava/lang/Object;II)V"), (118, u "()I"), (0, .methodref 10 336), (0, .nameAndType 17 337), (0, u "()B"), (2, u "()[B"), (22, u "([BI)C"), (5, u "(C)Z"), (21, u "(II)V"), (35, u "(I)C"), (61, .methodref 10 490), (0, .nameAndType 5 491), (0, u "(Ljava/lang/AbstractStringBuilder;Ljava/lang/Void;)V"), (0, .methodref 10 493), (0, .nameAndType 494 142), (0, u "isLatin1"), (0, .methodref 107 496), (0, .nameAndType 497 363), (0, u "charAt"), (3, u "checkIndex"), (4, .nameAndType 507 334), (0, u "length"), (24, u "getBytes"), (16, .methodref 550 506), (0, .class_ 551), (0, u "java/lang/AbstractStringBuilder"), (0, .methodref 550 553), (0, .nameAndType 554 340), (0, u "getValue"), (20, .class_ 576), (0, u "java/lang/CharSequence"), (22, u "CASE_INSENSITIVE_ORDER"), (0, u "Ljava/util/Comparator;"), (181, u "valueOf"), (0, u "(C)Ljava/lang/String;"), (37, u "([BIB)V"), (188, u "([C)V"), (4, .methodref 107 1016), (0, .nameAndType 1017 369), (0, u "canEncode"), (0, .methodref 107 1019), (0, .nameAndType 53 1020), (0, u "(C)[B"), (26, .methodref 550 493), (5, .fieldref 1054 1055), (0, .class_ 1056), (0, .nameAndType 1057 1058), (0, u "jdk/internal/util/Preconditions"), (0, u "SIOOBE_FORMATTER"), (0, u "Ljava/util/function/BiFunction;"), (0, .methodref 1054 1060), (0, .nameAndType 501 1061), (0, u "(IILjava/util/function/BiFunction;)I"), (39, u "serialPersistentFields"), (0, u "[Ljava/io/ObjectStreamField;"), (0, .class_ 1104), (0, u "java/lang/String$CaseInsensitiveComparator"), (1, .class_ 1107), (0, u "java/io/Serializable"), (0, .class_ 1109), (0, u "java/lang/Comparable"), (0, .class_ 1111), (0, u "java/lang/constant/Constable"), (0, .class_ 1113), (0, u "java/lang/constant/ConstantDesc"), (2, u "serialVersionUID"), (0, u "J"), (3, u "REPL"), (0, u "C"), (2, u "LATIN1"), (1, u "UTF16"), (105, u "(Ljava/lang/StringBuilder;)V")] 217

def k7m0 : Method := { name := "<init>", desc := "()V", sig := { parameters := [], returnType := none }, accessFlags := 1, code := none }
def k7c1 : Code := { maxStack := 5, maxLocals := 2, code := jdk_42_method_3_code, exceptionTable := #[], attributes := #[] }
def k7m1 : Method := { name := "<init>", desc := "([C)V", sig := { parameters := [(.array .char)], returnType := none }, accessFlags := 1, code := some k7c1 }
def k7c2 : Code := { maxStack := 3, maxLocals := 2, code := jdk_42_method_53_code, exceptionTable := #[], attributes := #[] }
def k7m2 : Method := { name := "<init>", desc := "(Ljava/lang/StringBuilder;)V", sig := { parameters := [(.object "java/lang/StringBuilder")], returnType := none }, accessFlags := 1, code := some k7c2 }
def k7c3 : Code := { maxStack := 2, maxLocals := 1, code := jdk_42_method_54_code, exceptionTable := #[], attributes := #[] }
def k7m3 : Method := { name := "length", desc := "()I", sig := { parameters := [], returnType := some .int }, accessFlags := 1, code := some k7c3 }
def k7c4 : Code := { maxStack := 2, maxLocals := 2, code := jdk_42_method_56_code, exceptionTable := #[], attributes := #[] }
def k7m4 : Method := { name := "charAt", desc := "(I)C", sig := { parameters := [.int], returnType := some .char }, accessFlags := 1, code := some k7c4 }
def k7c5 : Code := { maxStack := 4, maxLocals := 1, code := jdk_42_method_139_code, exceptionTable := #[], attributes := #[] }
def k7m5 : Method := { name := "valueOf", desc := "(C)Ljava/lang/String;", sig := { parameters := [.char], returnType := some (.object "java/lang/String") }, accessFlags := 9, code := some k7c5 }
def k7c6 : Code := { maxStack := 5, maxLocals := 4, code := jdk_42_method_147_code, exceptionTable := #[], attributes := #[] }
def k7m6 : Method := { name := "getBytes", desc := "([BIB)V", sig := { parameters := [(.array .byte), .int, .byte], returnType := none }, accessFlags := 0, code := some k7c6 }
def k7c7 : Code := { maxStack := 4, maxLocals := 6, code := jdk_42_method_149_code, exceptionTable := #[], attributes := #[] }
def k7m7 : Method := { name := "<init>", desc := "([CIILjava/lang/Void;)V", sig := { parameters := [(.array .char), .int, .int, (.object "java/lang/Void")], returnType := none }, accessFlags := 2, code := some k7c7 }
def k7c8 : Code := { maxStack := 5, maxLocals := 5, code := jdk_42_method_150_code, exceptionTable := #[], attributes := #[] }
def k7m8 : Method := { name := "<init>", desc := "(Ljava/lang/AbstractStringBuilder;Ljava/lang/Void;)V", sig := { parameters := [(.object "java/lang/AbstractStringBuilder"), (.object "java/lang/Void")], returnType := none }, accessFlags := 0, code := some k7c8 }
def k7c9 : Code := { maxStack := 2, maxLocals := 3, code := jdk_42_method_151_code, exceptionTable := #[], attributes := #[] }
def k7m9 : Method := { name := "<init>", desc := "([BB)V", sig := { parameters := [(.array .byte), .byte], returnType := none }, accessFlags := 0, code := some k7c9 }
def k7c10 : Code := { maxStack := 1, maxLocals := 1, code := jdk_42_method_152_code, exceptionTable := #[], attributes := #[] }
def k7m10 : Method := { name := "coder", desc := "()B", sig := { parameters := [], returnType := some .byte }, accessFlags := 0, code := some k7c10 }
def k7c11 : Code := { maxStack := 1, maxLocals := 1, code := jdk_42_method_154_code, exceptionTable := #[], attributes := #[] }
def k7m11 : Method := { name := "isLatin1", desc := "()Z", sig := { parameters := [], returnType := some .boolean }, accessFlags := 0, code := some k7c11 }
def k7c12 : Code := { maxStack := 3, maxLocals := 2, code := jdk_42_method_155_code, exceptionTable := #[], attributes := #[] }
def k7m12 : Method := { name := "checkIndex", desc := "(II)V", sig := { parameters := [.int, .int], returnType := none }, accessFlags := 8, code := some k7c12 }
/-- java/lang/String -/
def k7 : Class := { plain "java/lang/String" (some 0) with
  accessFlags := 49
  interfaces := #[2, 3, 4, 5, 6]
  cf := some (fileOf pool7 10 #[.nestMembers #[1103]] #[{ accessFlags := 1, nameIndex := 5, descriptorIndex := 6, attributes := #[] }, { accessFlags := 1, nameIndex := 5, descriptorIndex := 1010, attributes := #[] }, { accessFlags := 1, nameIndex := 5, descriptorIndex := 1233, attributes := #[] }, { accessFlags := 1, nameIndex := 507, descriptorIndex := 334, attributes := #[] }, { accessFlags := 1, nameIndex := 497, descriptorIndex := 427, attributes := #[] }, { accessFlags := 9, nameIndex := 782, descriptorIndex := 783, attributes := #[] }, { accessFlags := 0, nameIndex := 532, descriptorIndex := 821, attributes := #[] }, { accessFlags := 2, nameIndex := 5, descriptorIndex := 29, attributes := #[] }, { accessFlags := 0, nameIndex := 5, descriptorIndex := 491, attributes := #[] }, { accessFlags := 0, nameIndex := 5, descriptorIndex := 211, attributes := #[] }, { accessFlags := 0, nameIndex := 17, descriptorIndex := 337, attributes := #[] }, { accessFlags := 0, nameIndex := 494, descriptorIndex := 142, attributes := #[] }, { accessFlags := 8, nameIndex := 501, descriptorIndex := 391, attributes := #[] }] 49 2 #[1106, 1108, 575, 1110, 1112] #[{ accessFlags := 18, nameIndex := 13, descriptorIndex := 14, attributes := #[] }, { accessFlags := 18, nameIndex := 17, descriptorIndex := 18, attributes := #[] }, { accessFlags := 2, nameIndex := 21, descriptorIndex := 22, attributes := #[] }, { accessFlags := 2, nameIndex := 25, descriptorIndex := 26, attributes := #[] }, { accessFlags := 26, nameIndex := 1116, descriptorIndex := 1117, attributes := #[] }, { accessFlags := 24, nameIndex := 40, descriptorIndex := 26, attributes := #[] }, { accessFlags := 26, nameIndex := 1101, descriptorIndex := 1102, attributes := #[] }, { accessFlags := 26, nameIndex := 1121, descriptorIndex := 1122, attributes := #[] }, { accessFlags := 25, nameIndex := 599, descriptorIndex := 600, attributes := #[] }, { accessFlags := 24, nameIndex := 1125, descriptorIndex := 18, attributes := #[] }, { accessFlags := 24, nameIndex := 1127, descriptorIndex := 18, attributes := #[] }])
  fields := #[{ name := "value", type := (.array .byte), accessFlags := 18, slot := 0, constantValue := 0 }, { name := "coder", type := .byte, accessFlags := 18, slot := 1, constantValue := 0 }, { name := "hash", type := .int, accessFlags := 2, slot := 2, constantValue := 0 }, { name := "hashIsZero", type := .boolean, accessFlags := 2, slot := 3, constantValue := 0 }, { name := "serialVersionUID", type := .long, accessFlags := 26, slot := 0, constantValue := 0 }, { name := "COMPACT_STRINGS", type := .boolean, accessFlags := 24, slot := 1, constantValue := 0 }, { name := "serialPersistentFields", type := (.array (.object "java/io/ObjectStreamField")), accessFlags := 26, slot := 2, constantValue := 0 }, { name := "REPL", type := .char, accessFlags := 26, slot := 3, constantValue := 0 }, { name := "CASE_INSENSITIVE_ORDER", type := (.object "java/util/Comparator"), accessFlags := 25, slot := 4, constantValue := 0 }, { name := "LATIN1", type := .byte, accessFlags := 24, slot := 5, constantValue := 0 }, { name := "UTF16", type := .byte, accessFlags := 24, slot := 6, constantValue := 0 }]
  methods := #[k7m0, k7m1, k7m2, k7m3, k7m4, k7m5, k7m6, k7m7, k7m8, k7m9, k7m10, k7m11, k7m12]
  instanceTypes := #[(.array .byte), .byte, .int, .boolean]
  staticTypes := #[.long, .boolean, (.array (.object "java/io/ObjectStreamField")), .char, (.object "java/util/Comparator"), .byte, .byte]
  resolved := Array.replicate 1451 none
  statics := some 0 }

def pool8 : Array CpInfo := pool [(6, .class_ 8), (1, u "java/lang/Object"), (0, u "<init>"), (0, u "()V"), (1, .class_ 14), (1, u "java/lang/StringUTF16"), (31, u "$assertionsDisabled"), (0, u "Z"), (13, u "HI_BYTE_SHIFT"), (0, u "I"), (2, u "LO_BYTE_SHIFT"), (49, .methodref 12 116), (0, .nameAndType 117 118), (0, u "compress"), (0, u "([CI[BII)I"), (3, u "([CII)[B"), (138, u "coderFromArrayLen"), (0, u "([BI)B"), (106, .class_ 371), (1, u "java/lang/StringUTF16$LinesSpliterator"), (58, u "MAX_LENGTH"), (196, .class_ 628), (0, u "java/lang/StringUTF16$CodePointsSpliterator"), (0, .class_ 630), (0, u "java/lang/StringUTF16$CharsSpliterator")] 4

def k8m0 : Method := { name := "<init>", desc := "()V", sig := { parameters := [], returnType := none }, accessFlags := 0, code := none }
def k8c1 : Code := { maxStack := 2, maxLocals := 2, code := jdk_52_method_15_code, exceptionTable := #[], attributes := #[] }
def k8m1 : Method := { name := "coderFromArrayLen", desc := "([BI)B", sig := { parameters := [(.array .byte), .int], returnType := some .byte }, accessFlags := 8, code := some k8c1 }
def k8c2 : Code := { maxStack := 5, maxLocals := 6, code := jdk_52_method_16_code, exceptionTable := #[], attributes := #[] }
def k8m2 : Method := { name := "compress", desc := "([CII)[B", sig := { parameters := [(.array .char), .int, .int], returnType := some (.array .byte) }, accessFlags := 9, code := some k8c2 }
def k8c3 : Code := { maxStack := 3, maxLocals := 7, code := jdk_52_method_21_code, exceptionTable := #[], attributes := #[] }
def k8m3 : Method := { name := "compress", desc := "([CI[BII)I", sig := { parameters := [(.array .char), .int, (.array .byte), .int, .int], returnType := some .int }, accessFlags := 9, code := some k8c3 }
/-- java/lang/StringUTF16 -/
def k8 : Class := { plain "java/lang/StringUTF16" (some 0) with
  accessFlags := 48
  interfaces := #[]
  cf := some (fileOf pool8 12 #[.nestMembers #[627, 629, 369]] #[{ accessFlags := 0, nameIndex := 9, descriptorIndex := 10, attributes := #[] }, { accessFlags := 8, nameIndex := 261, descriptorIndex := 262, attributes := #[] }, { accessFlags := 9, nameIndex := 117, descriptorIndex := 122, attributes := #[] }, { accessFlags := 9, nameIndex := 117, descriptorIndex := 118, attributes := #[] }] 48 6 #[] #[{ accessFlags := 26, nameIndex := 61, descriptorIndex := 62, attributes := #[] }, { accessFlags := 26, nameIndex := 65, descriptorIndex := 62, attributes := #[] }, { accessFlags := 24, nameIndex := 430, descriptorIndex := 62, attributes := #[] }, { accessFlags := 4120, nameIndex := 46, descriptorIndex := 47, attributes := #[] }])
  fields := #[{ name := "HI_BYTE_SHIFT", type := .int, accessFlags := 26, slot := 0, constantValue := 0 }, { name := "LO_BYTE_SHIFT", type := .int, accessFlags := 26, slot := 1, constantValue := 0 }, { name := "MAX_LENGTH", type := .int, accessFlags := 24, slot := 2, constantValue := 0 }, { name := "$assertionsDisabled", type := .boolean, accessFlags := 4120, slot := 3, constantValue := 0 }]
  methods := #[k8m0, k8m1, k8m2, k8m3]
  instanceTypes := #[]
  staticTypes := #[.int, .int, .int, .boolean]
  resolved := Array.replicate 635 none
  statics := none }

def pool9 : Array CpInfo := pool [(8, .class_ 10), (1, u "java/lang/Iterable"), (24, .class_ 36), (0, u "java/lang/Object")] 25

/-- java/lang/Iterable -/
def k9 : Class := { plain "java/lang/Iterable" (some 0) with
  accessFlags := 1537
  interfaces := #[]
  cf := some (fileOf pool9 8 #[] #[] 1537 35 #[] #[])
  fields := #[]
  methods := #[]
  instanceTypes := #[]
  staticTypes := #[]
  resolved := Array.replicate 62 none
  statics := none }

def pool10 : Array CpInfo := pool [(10, .class_ 12), (1, u "java/util/Collection"), (47, .class_ 61), (0, u "java/lang/Object"), (0, .class_ 63), (0, u "java/lang/Iterable")] 51

/-- java/util/Collection -/
def k10 : Class := { plain "java/util/Collection" (some 0) with
  accessFlags := 1537
  interfaces := #[9]
  cf := some (fileOf pool10 10 #[] #[] 1537 60 #[62] #[])
  fields := #[]
  methods := #[]
  instanceTypes := #[]
  staticTypes := #[]
  resolved := Array.replicate 115 none
  statics := none }

def pool11 : Array CpInfo := pool [(1, .methodref 2 3), (0, .class_ 4), (0, .nameAndType 5 6), (0, u "java/lang/Object"), (0, u "<init>"), (0, u "()V"), (1, .class_ 10), (1, u "java/util/AbstractCollection"), (66, .class_ 78), (0, u "java/util/Collection")] 81

def k11c0 : Code := { maxStack := 1, maxLocals := 1, code := jdk_22_method_1_code, exceptionTable := #[], attributes := #[] }
def k11m0 : Method := { name := "<init>", desc := "()V", sig := { parameters := [], returnType := none }, accessFlags := 4, code := some k11c0 }
/-- java/util/AbstractCollection -/
def k11 : Class := { plain "java/util/AbstractCollection" (some 0) with
  accessFlags := 1057
  interfaces := #[10]
  cf := some (fileOf pool11 8 #[] #[{ accessFlags := 4, nameIndex := 5, descriptorIndex := 6, attributes := #[] }] 1057 2 #[77] #[])
  fields := #[]
  methods := #[k11m0]
  instanceTypes := #[]
  staticTypes := #[]
  resolved := Array.replicate 160 none
  statics := none }

def pool12 : Array CpInfo := pool [(8, .class_ 10), (1, u "java/util/SequencedCollection"), (15, .class_ 27), (0, u "java/lang/Object"), (0, .class_ 29), (0, u "java/util/Collection")] 27

/-- java/util/SequencedCollection -/
def k12 : Class := { plain "java/util/SequencedCollection" (some 0) with
  accessFlags := 1537
  interfaces := #[10]
  cf := some (fileOf pool12 8 #[] #[] 1537 26 #[28] #[])
  fields := #[]
  methods := #[]
  instanceTypes := #[]
  staticTypes := #[]
  resolved := Array.replicate 57 none
  statics := none }

def pool13 : Array CpInfo := pool [(8, .class_ 10), (1, u "java/util/List"), (49, u "add"), (3, u "(Ljava/lang/Object;)Z"), (10, u "get"), (0, u "(I)Ljava/lang/Object;"), (2, u "size"), (0, u "()I"), (22, .class_ 104), (0, u "java/lang/Object"), (15, .class_ 121), (0, u "java/util/SequencedCollection")] 129

def k13m0 : Method := { name := "size", desc := "()I", sig := { parameters := [], returnType := some .int }, accessFlags := 1025, code := none }
def k13m1 : Method := { name := "add", desc := "(Ljava/lang/Object;)Z", sig := { parameters := [(.object "java/lang/Object")], returnType := some .boolean }, accessFlags := 1025, code := none }
def k13m2 : Method := { name := "get", desc := "(I)Ljava/lang/Object;", sig := { parameters := [.int], returnType := some (.object "java/lang/Object") }, accessFlags := 1025, code := none }
/-- java/util/List -/
def k13 : Class := { plain "java/util/List" (some 0) with
  accessFlags := 1537
  interfaces := #[12]
  cf := some (fileOf pool13 8 #[] #[{ accessFlags := 1025, nameIndex := 79, descriptorIndex := 80, attributes := #[] }, { accessFlags := 1025, nameIndex := 60, descriptorIndex := 64, attributes := #[] }, { accessFlags := 1025, nameIndex := 75, descriptorIndex := 76, attributes := #[] }] 1537 103 #[120] #[])
  fields := #[]
  methods := #[k13m0, k13m1, k13m2]
  instanceTypes := #[]
  staticTypes := #[]
  resolved := Array.replicate 251 none
  statics := none }

def pool14 : Array CpInfo := pool [(1, .methodref 2 3), (0, .class_ 4), (0, .nameAndType 5 6), (0, u "java/util/AbstractCollection"), (0, u "<init>"), (0, u "()V"), (0, .fieldref 8 9), (0, .class_ 10), (0, .nameAndType 11 12), (0, u "java/util/AbstractList"), (0, u "modCount"), (0, u "I"), (64, .class_ 78), (0, u "java/util/AbstractList$Itr"), (3, .class_ 83), (0, u "java/util/AbstractList$ListItr"), (9, .class_ 94), (0, u "java/util/AbstractList$RandomAccessSubList"), (3, .class_ 99), (0, u "java/util/AbstractList$SubList"), (33, .class_ 134), (0, u "java/util/List"), (73, .class_ 209), (0, u "java/util/AbstractList$SubList$1"), (0, .class_ 211), (0, u "java/util/AbstractList$RandomAccessSpliterator")] 6

def k14c0 : Code := { maxStack := 2, maxLocals := 1, code := jdk_39_method_1_code, exceptionTable := #[], attributes := #[] }
def k14m0 : Method := { name := "<init>", desc := "()V", sig := { parameters := [], returnType := none }, accessFlags := 4, code := some k14c0 }
/-- java/util/AbstractList -/
def k14 : Class := { plain "java/util/AbstractList" (some 11) with
  accessFlags := 1057
  interfaces := #[13]
  cf := some (fileOf pool14 8 #[.nestMembers #[93, 98, 208, 210, 82, 77]] #[{ accessFlags := 4, nameIndex := 5, descriptorIndex := 6, attributes := #[] }] 1057 2 #[133] #[{ accessFlags := 132, nameIndex := 11, descriptorIndex := 12, attributes := #[] }])
  fields := #[{ name := "modCount", type := .int, accessFlags := 132, slot := 0, constantValue := 0 }]
  methods := #[k14m0]
  instanceTypes := #[.int]
  staticTypes := #[]
  resolved := Array.replicate 218 none
  statics := none }

def pool15 : Array CpInfo := pool [(1, .class_ 2), (0, u "java/util/RandomAccess"), (0, .class_ 4), (0, u "java/lang/Object")] 2

/-- java/util/RandomAccess -/
def k15 : Class := { plain "java/util/RandomAccess" (some 0) with
  accessFlags := 1537
  interfaces := #[]
  cf := some (fileOf pool15 1 #[] #[] 1537 3 #[] #[])
  fields := #[]
  methods := #[]
  instanceTypes := #[]
  staticTypes := #[]
  resolved := Array.replicate 7 none
  statics := none }

def pool16 : Array CpInfo := pool [(1, .class_ 2), (0, u "java/lang/Cloneable"), (0, .class_ 4), (0, u "java/lang/Object")] 2

/-- java/lang/Cloneable -/
def k16 : Class := { plain "java/lang/Cloneable" (some 0) with
  accessFlags := 1537
  interfaces := #[]
  cf := some (fileOf pool16 1 #[] #[] 1537 3 #[] #[])
  fields := #[]
  methods := #[]
  instanceTypes := #[]
  staticTypes := #[]
  resolved := Array.replicate 7 none
  statics := none }

def pool17 : Array CpInfo := pool [(1, .methodref 2 3), (0, .class_ 4), (0, .nameAndType 5 6), (0, u "java/util/AbstractList"), (0, u "<init>"), (0, u "()V"), (0, .class_ 8), (0, u "java/lang/Object"), (0, .fieldref 10 11), (0, .class_ 12), (0, .nameAndType 13 14), (0, u "java/util/ArrayList"), (0, u "elementData"), (0, u "[Ljava/lang/Object;"), (2, u "EMPTY_ELEMENTDATA"), (21, .fieldref 10 40), (0, .nameAndType 41 14), (0, u "DEFAULTCAPACITY_EMPTY_ELEMENTDATA"), (5, u "()[Ljava/lang/Object;"), (0, .fieldref 10 49), (0, .nameAndType 50 51), (0, u "size"), (0, u "I"), (11, .fieldref 10 64), (0, .nameAndType 65 51), (0, u "modCount"), (3, .methodref 10 70), (0, .nameAndType 71 72), (0, u "grow"), (0, u "(I)[Ljava/lang/Object;"), (6, .methodref 80 81), (0, .class_ 82), (0, .nameAndType 83 84), (0, u "java/lang/Math"), (0, u "max"), (0, u "(II)I"), (11, u "(Ljava/lang/Object;)Z"), (21, .methodref 119 120), (0, .class_ 121), (0, .nameAndType 122 84), (0, u "java/util/Objects"), (0, u "checkIndex"), (0, .methodref 10 124), (0, .nameAndType 13 125), (0, u "(I)Ljava/lang/Object;"), (3, .methodref 10 130), (0, .nameAndType 71 47), (0, .methodref 10 132), (0, .nameAndType 133 134), (0, u "add"), (0, u "(Ljava/lang/Object;[Ljava/lang/Object;I)V"), (13, .class_ 149), (0, u "java/util/List"), (36, u "()I"), (75, .class_ 263), (0, u "java/util/ArrayList$ListItr"), (3, .class_ 268), (0, u "java/util/ArrayList$Itr"), (7, .class_ 277), (0, u "java/util/ArrayList$SubList"), (12, .class_ 291), (0, u "java/util/ArrayList$ArrayListSpliterator"), (37, .class_ 330), (0, u "java/util/RandomAccess"), (0, .class_ 332), (0, u "java/lang/Cloneable"), (0, .class_ 334), (0, u "java/io/Serializable"), (0, u "serialVersionUID"), (0, u "J"), (3, u "DEFAULT_CAPACITY"), (40, u "get"), (118, .class_ 501), (0, u "java/util/ArrayList$SubList$2"), (0, .class_ 503), (0, u "java/util/ArrayList$SubList$1")] 5

def k17c0 : Code := { maxStack := 2, maxLocals := 1, code := jdk_38_method_2_code, exceptionTable := #[], attributes := #[] }
def k17m0 : Method := { name := "<init>", desc := "()V", sig := { parameters := [], returnType := none }, accessFlags := 1, code := some k17c0 }
def k17c1 : Code := { maxStack := 4, maxLocals := 4, code := jdk_38_method_6_code, exceptionTable := #[], attributes := #[] }
def k17m1 : Method := { name := "grow", desc := "(I)[Ljava/lang/Object;", sig := { parameters := [.int], returnType := some (.array (.object "java/lang/Object")) }, accessFlags := 2, code := some k17c1 }
def k17c2 : Code := { maxStack := 3, maxLocals := 1, code := jdk_38_method_7_code, exceptionTable := #[], attributes := #[] }
def k17m2 : Method := { name := "grow", desc := "()[Ljava/lang/Object;", sig := { parameters := [], returnType := some (.array (.object "java/lang/Object")) }, accessFlags := 2, code := some k17c2 }
def k17c3 : Code := { maxStack := 1, maxLocals := 1, code := jdk_38_method_8_code, exceptionTable := #[], attributes := #[] }
def k17m3 : Method := { name := "size", desc := "()I", sig := { parameters := [], returnType := some .int }, accessFlags := 1, code := some k17c3 }
def k17c4 : Code := { maxStack := 2, maxLocals := 2, code := jdk_38_method_18_code, exceptionTable := #[], attributes := #[] }
def k17m4 : Method := { name := "elementData", desc := "(I)Ljava/lang/Object;", sig := { parameters := [.int], returnType := some (.object "java/lang/Object") }, accessFlags := 0, code := some k17c4 }
def k17c5 : Code := { maxStack := 2, maxLocals := 2, code := jdk_38_method_20_code, exceptionTable := #[], attributes := #[] }
def k17m5 : Method := { name := "get", desc := "(I)Ljava/lang/Object;", sig := { parameters := [.int], returnType := some (.object "java/lang/Object") }, accessFlags := 1, code := some k17c5 }
def k17c6 : Code := { maxStack := 3, maxLocals := 4, code := jdk_38_method_24_code, exceptionTable := #[], attributes := #[] }
def k17m6 : Method := { name := "add", desc := "(Ljava/lang/Object;[Ljava/lang/Object;I)V", sig := { parameters := [(.object "java/lang/Object"), (.array (.object "java/lang/Object")), .int], returnType := none }, accessFlags := 2, code := some k17c6 }
def k17c7 : Code := { maxStack := 4, maxLocals := 2, code := jdk_38_method_25_code, exceptionTable := #[], attributes := #[] }
def k17m7 : Method := { name := "add", desc := "(Ljava/lang/Object;)Z", sig := { parameters := [(.object "java/lang/Object")], returnType := some .boolean }, accessFlags := 1, code := some k17c7 }
/-- java/util/ArrayList -/
def k17 : Class := { plain "java/util/ArrayList" (some 14) with
  accessFlags := 33
  interfaces := #[13, 15, 16, 2]
  cf := some (fileOf pool17 10 #[.nestMembers #[290, 276, 500, 502, 262, 267]] #[{ accessFlags := 1, nameIndex := 5, descriptorIndex := 6, attributes := #[] }, { accessFlags := 2, nameIndex := 71, descriptorIndex := 72, attributes := #[] }, { accessFlags := 2, nameIndex := 71, descriptorIndex := 47, attributes := #[] }, { accessFlags := 1, nameIndex := 50, descriptorIndex := 186, attributes := #[] }, { accessFlags := 0, nameIndex := 13, descriptorIndex := 125, attributes := #[] }, { accessFlags := 1, nameIndex := 381, descriptorIndex := 125, attributes := #[] }, { accessFlags := 2, nameIndex := 133, descriptorIndex := 134, attributes := #[] }, { accessFlags := 1, nameIndex := 133, descriptorIndex := 96, attributes := #[] }] 33 2 #[148, 329, 331, 333] #[{ accessFlags := 26, nameIndex := 335, descriptorIndex := 336, attributes := #[] }, { accessFlags := 26, nameIndex := 340, descriptorIndex := 51, attributes := #[] }, { accessFlags := 26, nameIndex := 17, descriptorIndex := 14, attributes := #[] }, { accessFlags := 26, nameIndex := 41, descriptorIndex := 14, attributes := #[] }, { accessFlags := 128, nameIndex := 13, descriptorIndex := 14, attributes := #[] }, { accessFlags := 2, nameIndex := 50, descriptorIndex := 51, attributes := #[] }])
  fields := #[{ name := "serialVersionUID", type := .long, accessFlags := 26, slot := 0, constantValue := 0 }, { name := "DEFAULT_CAPACITY", type := .int, accessFlags := 26, slot := 1, constantValue := 0 }, { name := "EMPTY_ELEMENTDATA", type := (.array (.object "java/lang/Object")), accessFlags := 26, slot := 2, constantValue := 0 }, { name := "DEFAULTCAPACITY_EMPTY_ELEMENTDATA", type := (.array (.object "java/lang/Object")), accessFlags := 26, slot := 3, constantValue := 0 }, { name := "elementData", type := (.array (.object "java/lang/Object")), accessFlags := 128, slot := 1, constantValue := 0 }, { name := "size", type := .int, accessFlags := 2, slot := 2, constantValue := 0 }]
  methods := #[k17m0, k17m1, k17m2, k17m3, k17m4, k17m5, k17m6, k17m7]
  instanceTypes := #[.int, (.array (.object "java/lang/Object")), .int]
  staticTypes := #[.long, .int, (.array (.object "java/lang/Object")), (.array (.object "java/lang/Object"))]
  resolved := Array.replicate 509 none
  statics := some 1 }

def pool18 : Array CpInfo := pool [(1, .methodref 2 3), (0, .class_ 4), (0, .nameAndType 5 6), (0, u "java/lang/Object"), (0, u "<init>"), (0, u "()V"), (0, .class_ 8), (0, u "java/lang/Record")] 13

def k18c0 : Code := { maxStack := 1, maxLocals := 1, code := jdk_30_method_1_code, exceptionTable := #[], attributes := #[] }
def k18m0 : Method := { name := "<init>", desc := "()V", sig := { parameters := [], returnType := none }, accessFlags := 4, code := some k18c0 }
/-- java/lang/Record -/
def k18 : Class := { plain "java/lang/Record" (some 0) with
  accessFlags := 1057
  interfaces := #[]
  cf := some (fileOf pool18 7 #[] #[{ accessFlags := 4, nameIndex := 5, descriptorIndex := 6, attributes := #[] }] 1057 2 #[] #[])
  fields := #[]
  methods := #[k18m0]
  instanceTypes := #[]
  staticTypes := #[]
  resolved := Array.replicate 22 none
  statics := none }

def pool19 : Array CpInfo := pool [(1, .methodref 2 3), (0, .class_ 4), (0, .nameAndType 5 6), (0, u "java/lang/Record"), (0, u "<init>"), (0, u "()V"), (0, .fieldref 8 9), (0, .class_ 10), (0, .nameAndType 11 12), (0, u "com/example/atomic_lock/atomiclock/backend/HeldLock"), (0, u "name"), (0, u "Ljava/lang/String;"), (0, .fieldref 8 14), (0, .nameAndType 15 12), (0, u "ownerToken"), (0, .fieldref 8 17), (0, .nameAndType 18 19), (0, u "fencingToken"), (0, u "Ljava/util/OptionalLong;"), (0, .interfaceMethodref 21 22), (0, .class_ 23), (0, .nameAndType 24 25), (0, u "java/util/List"), (0, u "size"), (0, u "()I"), (0, .class_ 27), (0, u "java/lang/StringBuilder"), (0, .methodref 26 3), (0, .string 30), (0, u "lock '"), (0, .methodref 26 32), (0, .nameAndType 33 34), (0, u "append"), (0, u "(Ljava/lang/String;)Ljava/lang/StringBuilder;"), (0, .interfaceMethodref 21 36), (0, .nameAndType 37 38), (0, u "get"), (0, u "(I)Ljava/lang/Object;"), (0, .methodref 8 40), (0, .nameAndType 11 41), (0, u "()Ljava/lang/String;"), (0, .string 43), (0, u "'"), (0, .methodref 26 45), (0, .nameAndType 46 41), (0, u "toString"), (0, .methodref 26 48), (0, .nameAndType 33 49), (0, u "(I)Ljava/lang/StringBuilder;"), (0, .string 51), (0, u " locks"), (11, u "(Ljava/lang/String;Ljava/lang/String;Ljava/util/OptionalLong;)V"), (3, u "describe"), (0, u "(Ljava/util/List;)Ljava/lang/String;")] 29

def k19c0 : Code := { maxStack := 2, maxLocals := 4, code := prog_11_method_1_code, exceptionTable := #[], attributes := #[] }
def k19m0 : Method := { name := "<init>", desc := "(Ljava/lang/String;Ljava/lang/String;Ljava/util/OptionalLong;)V", sig := { parameters := [(.object "java/lang/String"), (.object "java/lang/String"), (.object "java/util/OptionalLong")], returnType := none }, accessFlags := 1, code := some k19c0 }
def k19c1 : Code := { maxStack := 3, maxLocals := 1, code := prog_11_method_2_code, exceptionTable := #[], attributes := #[] }
def k19m1 : Method := { name := "describe", desc := "(Ljava/util/List;)Ljava/lang/String;", sig := { parameters := [(.object "java/util/List")], returnType := some (.object "java/lang/String") }, accessFlags := 8, code := some k19c1 }
def k19c2 : Code := { maxStack := 1, maxLocals := 1, code := prog_11_method_6_code, exceptionTable := #[], attributes := #[] }
def k19m2 : Method := { name := "name", desc := "()Ljava/lang/String;", sig := { parameters := [], returnType := some (.object "java/lang/String") }, accessFlags := 1, code := some k19c2 }
/-- com/example/atomic_lock/atomiclock/backend/HeldLock -/
def k19 : Class := { plain "com/example/atomic_lock/atomiclock/backend/HeldLock" (some 18) with
  accessFlags := 49
  interfaces := #[]
  cf := some (fileOf pool19 8 #[] #[{ accessFlags := 1, nameIndex := 5, descriptorIndex := 63, attributes := #[] }, { accessFlags := 8, nameIndex := 67, descriptorIndex := 68, attributes := #[] }, { accessFlags := 1, nameIndex := 11, descriptorIndex := 41, attributes := #[] }] 49 2 #[] #[{ accessFlags := 18, nameIndex := 11, descriptorIndex := 12, attributes := #[] }, { accessFlags := 18, nameIndex := 15, descriptorIndex := 12, attributes := #[] }, { accessFlags := 18, nameIndex := 18, descriptorIndex := 19, attributes := #[] }])
  fields := #[{ name := "name", type := (.object "java/lang/String"), accessFlags := 18, slot := 0, constantValue := 0 }, { name := "ownerToken", type := (.object "java/lang/String"), accessFlags := 18, slot := 1, constantValue := 0 }, { name := "fencingToken", type := (.object "java/util/OptionalLong"), accessFlags := 18, slot := 2, constantValue := 0 }]
  methods := #[k19m0, k19m1, k19m2]
  instanceTypes := #[(.object "java/lang/String"), (.object "java/lang/String"), (.object "java/util/OptionalLong")]
  staticTypes := #[]
  resolved := Array.replicate 98 none
  statics := none }

def pool20 : Array CpInfo := pool [(1, .class_ 2), (0, u "java/lang/Appendable"), (0, .class_ 4), (0, u "java/lang/Object")] 9

/-- java/lang/Appendable -/
def k20 : Class := { plain "java/lang/Appendable" (some 0) with
  accessFlags := 1537
  interfaces := #[]
  cf := some (fileOf pool20 1 #[] #[] 1537 3 #[] #[])
  fields := #[]
  methods := #[]
  instanceTypes := #[]
  staticTypes := #[]
  resolved := Array.replicate 14 none
  statics := none }

def pool21 : Array CpInfo := pool [(1, .class_ 2), (0, u "java/lang/String"), (0, .methodref 4 5), (0, .class_ 6), (0, .nameAndType 7 8), (0, u "java/lang/Object"), (0, u "<init>"), (0, u "()V"), (1, .class_ 12), (1, u "java/lang/AbstractStringBuilder"), (0, u "EMPTYVALUE"), (0, u "[B"), (0, .fieldref 10 16), (0, .nameAndType 17 14), (0, u "value"), (0, .fieldref 1 19), (0, .nameAndType 20 21), (0, u "COMPACT_STRINGS"), (0, u "Z"), (0, .fieldref 10 23), (0, .nameAndType 24 25), (0, u "coder"), (0, u "B"), (6, .methodref 1 33), (0, .nameAndType 34 35), (0, u "length"), (0, u "()I"), (0, .class_ 37), (0, u "java/lang/Integer"), (2, .methodref 1 41), (0, .nameAndType 24 42), (0, u "()B"), (2, u "append"), (0, u "(Ljava/lang/String;)Ljava/lang/AbstractStringBuilder;"), (1, .class_ 49), (0, u "java/lang/CharSequence"), (19, u "(Ljava/lang/String;)V"), (5, u "maybeLatin1"), (3, .fieldref 10 80), (0, .nameAndType 81 82), (0, u "count"), (0, u "I"), (0, .methodref 10 84), (0, .nameAndType 85 86), (0, u "isLatin1"), (0, u "()Z"), (13, .methodref 10 101), (0, .nameAndType 102 103), (0, u "ensureCapacityInternal"), (0, u "(I)V"), (3, u "(I)I"), (80, u "getChars"), (19, .methodref 10 209), (0, .nameAndType 210 211), (0, u "putStringAt"), (0, u "(ILjava/lang/String;)V"), (5, u "inflateIfNeededFor"), (2, .nameAndType 221 222), (0, u "getBytes"), (0, u "([BIB)V"), (22, .methodref 36 246), (0, .nameAndType 247 107), (0, u "stringSize"), (0, .methodref 36 249), (0, .nameAndType 188 250), (0, u "(II[B)I"), (146, .methodref 10 398), (0, .nameAndType 217 69), (0, .methodref 1 220), (3, u "()[B"), (40, .class_ 445), (0, u "java/lang/Appendable"), (65, u "(I)Ljava/lang/AbstractStringBuilder;"), (40, u "getValue")] 56

def k21m0 : Method := { name := "<init>", desc := "()V", sig := { parameters := [], returnType := none }, accessFlags := 0, code := none }
def k21c1 : Code := { maxStack := 2, maxLocals := 2, code := jdk_68_method_2_code, exceptionTable := #[], attributes := #[] }
def k21m1 : Method := { name := "<init>", desc := "(I)V", sig := { parameters := [.int], returnType := none }, accessFlags := 0, code := some k21c1 }
def k21c2 : Code := { maxStack := 1, maxLocals := 1, code := jdk_68_method_6_code, exceptionTable := #[], attributes := #[] }
def k21m2 : Method := { name := "length", desc := "()I", sig := { parameters := [], returnType := some .int }, accessFlags := 1, code := some k21c2 }
def k21c3 : Code := { maxStack := 4, maxLocals := 3, code := jdk_68_method_9_code, exceptionTable := #[], attributes := #[] }
def k21m3 : Method := { name := "ensureCapacityInternal", desc := "(I)V", sig := { parameters := [.int], returnType := none }, accessFlags := 2, code := some k21c3 }
def k21c4 : Code := { maxStack := 3, maxLocals := 3, code := jdk_68_method_22_code, exceptionTable := #[], attributes := #[] }
def k21m4 : Method := { name := "append", desc := "(Ljava/lang/String;)Ljava/lang/AbstractStringBuilder;", sig := { parameters := [(.object "java/lang/String")], returnType := some (.object "java/lang/AbstractStringBuilder") }, accessFlags := 1, code := some k21c4 }
def k21c5 : Code := { maxStack := 4, maxLocals := 4, code := jdk_68_method_32_code, exceptionTable := #[], attributes := #[] }
def k21m5 : Method := { name := "append", desc := "(I)Ljava/lang/AbstractStringBuilder;", sig := { parameters := [.int], returnType := some (.object "java/lang/AbstractStringBuilder") }, accessFlags := 1, code := some k21c5 }
def k21c6 : Code := { maxStack := 1, maxLocals := 1, code := jdk_68_method_64_code, exceptionTable := #[], attributes := #[] }
def k21m6 : Method := { name := "getValue", desc := "()[B", sig := { parameters := [], returnType := some (.array .byte) }, accessFlags := 16, code := some k21c6 }
def k21c7 : Code := { maxStack := 1, maxLocals := 1, code := jdk_68_method_68_code, exceptionTable := #[], attributes := #[] }
def k21m7 : Method := { name := "isLatin1", desc := "()Z", sig := { parameters := [], returnType := some .boolean }, accessFlags := 16, code := some k21c7 }
def k21c8 : Code := { maxStack := 2, maxLocals := 2, code := jdk_68_method_71_code, exceptionTable := #[], attributes := #[] }
def k21m8 : Method := { name := "inflateIfNeededFor", desc := "(Ljava/lang/String;)V", sig := { parameters := [(.object "java/lang/String")], returnType := none }, accessFlags := 2, code := some k21c8 }
def k21c9 : Code := { maxStack := 4, maxLocals := 3, code := jdk_68_method_73_code, exceptionTable := #[], attributes := #[] }
def k21m9 : Method := { name := "putStringAt", desc := "(ILjava/lang/String;)V", sig := { parameters := [.int, (.object "java/lang/String")], returnType := none }, accessFlags := 2, code := some k21c9 }
/-- java/lang/AbstractStringBuilder -/
def k21 : Class := { plain "java/lang/AbstractStringBuilder" (some 0) with
  accessFlags := 1056
  interfaces := #[20, 4]
  cf := some (fileOf pool21 10 #[] #[{ accessFlags := 0, nameIndex := 7, descriptorIndex := 8, attributes := #[] }, { accessFlags := 0, nameIndex := 7, descriptorIndex := 103, attributes := #[] }, { accessFlags := 1, nameIndex := 34, descriptorIndex := 35, attributes := #[] }, { accessFlags := 2, nameIndex := 102, descriptorIndex := 103, attributes := #[] }, { accessFlags := 1, nameIndex := 45, descriptorIndex := 46, attributes := #[] }, { accessFlags := 1, nameIndex := 45, descriptorIndex := 511, attributes := #[] }, { accessFlags := 16, nameIndex := 552, descriptorIndex := 403, attributes := #[] }, { accessFlags := 16, nameIndex := 85, descriptorIndex := 86, attributes := #[] }, { accessFlags := 2, nameIndex := 217, descriptorIndex := 69, attributes := #[] }, { accessFlags := 2, nameIndex := 210, descriptorIndex := 211, attributes := #[] }] 1056 4 #[444, 48] #[{ accessFlags := 0, nameIndex := 17, descriptorIndex := 14, attributes := #[] }, { accessFlags := 0, nameIndex := 24, descriptorIndex := 25, attributes := #[] }, { accessFlags := 0, nameIndex := 75, descriptorIndex := 21, attributes := #[] }, { accessFlags := 0, nameIndex := 81, descriptorIndex := 82, attributes := #[] }, { accessFlags := 26, nameIndex := 13, descriptorIndex := 14, attributes := #[] }])
  fields := #[{ name := "value", type := (.array .byte), accessFlags := 0, slot := 0, constantValue := 0 }, { name := "coder", type := .byte, accessFlags := 0, slot := 1, constantValue := 0 }, { name := "maybeLatin1", type := .boolean, accessFlags := 0, slot := 2, constantValue := 0 }, { name := "count", type := .int, accessFlags := 0, slot := 3, constantValue := 0 }, { name := "EMPTYVALUE", type := (.array .byte), accessFlags := 26, slot := 0, constantValue := 0 }]
  methods := #[k21m0, k21m1, k21m2, k21m3, k21m4, k21m5, k21m6, k21m7, k21m8, k21m9]
  instanceTypes := #[(.array .byte), .byte, .boolean, .int]
  staticTypes := #[(.array .byte)]
  resolved := Array.replicate 609 none
  statics := none }

def pool22 : Array CpInfo := pool [(1, .methodref 2 3), (0, .class_ 4), (0, .nameAndType 5 6), (0, u "java/lang/AbstractStringBuilder"), (0, u "<init>"), (0, u "(I)V"), (11, .class_ 20), (1, u "java/lang/String"), (3, .class_ 26), (1, u "java/lang/StringBuilder"), (0, u "append"), (0, u "(Ljava/lang/String;)Ljava/lang/StringBuilder;"), (0, .methodref 2 30), (0, .nameAndType 27 31), (0, u "(Ljava/lang/String;)Ljava/lang/AbstractStringBuilder;"), (21, .methodref 2 54), (0, .nameAndType 27 55), (0, u "(I)Ljava/lang/AbstractStringBuilder;"), (81, .methodref 18 138), (0, .nameAndType 5 139), (0, u "(Ljava/lang/StringBuilder;)V"), (5, u "()V"), (10, u "()I"), (111, u "(I)Ljava/lang/StringBuilder;"), (74, .methodref 2 344), (0, .nameAndType 345 156), (0, u "length"), (3, .class_ 350), (0, u "java/lang/Appendable"), (0, .class_ 352), (0, u "java/io/Serializable"), (0, .class_ 354), (0, u "java/lang/Comparable"), (0, .class_ 356), (0, u "java/lang/CharSequence"), (0, u "serialVersionUID"), (0, u "J"), (40, u "toString"), (0, u "()Ljava/lang/String;")] 21

def k22c0 : Code := { maxStack := 2, maxLocals := 1, code := jdk_67_method_1_code, exceptionTable := #[], attributes := #[] }
def k22m0 : Method := { name := "<init>", desc := "()V", sig := { parameters := [], returnType := none }, accessFlags := 1, code := some k22c0 }
def k22c1 : Code := { maxStack := 2, maxLocals := 2, code := jdk_67_method_7_code, exceptionTable := #[], attributes := #[] }
def k22m1 : Method := { name := "append", desc := "(Ljava/lang/String;)Ljava/lang/StringBuilder;", sig := { parameters := [(.object "java/lang/String")], returnType := some (.object "java/lang/StringBuilder") }, accessFlags := 1, code := some k22c1 }
def k22c2 : Code := { maxStack := 2, maxLocals := 2, code := jdk_67_method_15_code, exceptionTable := #[], attributes := #[] }
def k22m2 : Method := { name := "append", desc := "(I)Ljava/lang/StringBuilder;", sig := { parameters := [.int], returnType := some (.object "java/lang/StringBuilder") }, accessFlags := 1, code := some k22c2 }
def k22c3 : Code := { maxStack := 3, maxLocals := 1, code := jdk_67_method_42_code, exceptionTable := #[], attributes := #[] }
def k22m3 : Method := { name := "toString", desc := "()Ljava/lang/String;", sig := { parameters := [], returnType := some (.object "java/lang/String") }, accessFlags := 1, code := some k22c3 }
def k22c4 : Code := { maxStack := 1, maxLocals := 1, code := jdk_67_method_93_code, exceptionTable := #[], attributes := #[] }
def k22m4 : Method := { name := "length", desc := "()I", sig := { parameters := [], returnType := some .int }, accessFlags := 4161, code := some k22c4 }
/-- java/lang/StringBuilder -/
def k22 : Class := { plain "java/lang/StringBuilder" (some 21) with
  accessFlags := 49
  interfaces := #[20, 2, 3, 4]
  cf := some (fileOf pool22 24 #[] #[{ accessFlags := 1, nameIndex := 5, descriptorIndex := 145, attributes := #[] }, { accessFlags := 1, nameIndex := 27, descriptorIndex := 28, attributes := #[] }, { accessFlags := 1, nameIndex := 27, descriptorIndex := 268, attributes := #[] }, { accessFlags := 1, nameIndex := 399, descriptorIndex := 400, attributes := #[] }, { accessFlags := 4161, nameIndex := 345, descriptorIndex := 156, attributes := #[] }] 49 2 #[349, 351, 353, 355] #[{ accessFlags := 24, nameIndex := 357, descriptorIndex := 358, attributes := #[] }])
  fields := #[{ name := "serialVersionUID", type := .long, accessFlags := 24, slot := 0, constantValue := 0 }]
  methods := #[k22m0, k22m1, k22m2, k22m3, k22m4]
  instanceTypes := #[(.array .byte), .byte, .boolean, .int]
  staticTypes := #[.long]
  resolved := Array.replicate 422 none
  statics := none }

def pool23 : Array CpInfo := pool [(2, .class_ 4), (1, u "java/lang/Object"), (0, u "<init>"), (0, u "()V"), (1, .class_ 10), (1, u "java/lang/Number"), (2, .class_ 14), (0, u "java/io/Serializable"), (0, u "serialVersionUID"), (0, u "J")] 20

def k23m0 : Method := { name := "<init>", desc := "()V", sig := { parameters := [], returnType := none }, accessFlags := 1, code := none }
/-- java/lang/Number -/
def k23 : Class := { plain "java/lang/Number" (some 0) with
  accessFlags := 1057
  interfaces := #[2]
  cf := some (fileOf pool23 8 #[] #[{ accessFlags := 1, nameIndex := 5, descriptorIndex := 6, attributes := #[] }] 1057 2 #[13] #[{ accessFlags := 26, nameIndex := 15, descriptorIndex := 16, attributes := #[] }])
  fields := #[{ name := "serialVersionUID", type := .long, accessFlags := 26, slot := 0, constantValue := 0 }]
  methods := #[k23m0]
  instanceTypes := #[]
  staticTypes := #[.long]
  resolved := Array.replicate 37 none
  statics := none }

def pool24 : Array CpInfo := pool [(1, .class_ 2), (0, u "java/lang/Integer"), (16, u "digits"), (0, u "[C"), (33, u "(I)I"), (19, u "stringSize"), (2, u "getChars"), (0, u "(II[B)I"), (4, .fieldref 1 84), (0, .nameAndType 85 86), (0, u "DigitOnes"), (0, u "[B"), (2, u "DigitTens"), (99, .class_ 190), (0, u "java/lang/Integer$IntegerCache"), (3, u "I"), (8, .class_ 204), (0, u "java/lang/Number"), (2, u "value"), (94, u "TYPE"), (0, u "Ljava/lang/Class;"), (0, .class_ 305), (0, u "java/lang/Comparable"), (0, .class_ 307), (0, u "java/lang/constant/Constable"), (0, .class_ 309), (0, u "java/lang/constant/ConstantDesc"), (0, u "MIN_VALUE"), (1, u "MAX_VALUE"), (3, u "SIZE"), (1, u "BYTES"), (1, u "serialVersionUID"), (0, u "J")] 131

def k24c0 : Code := { maxStack := 4, maxLocals := 7, code := jdk_33_method_12_code, exceptionTable := #[], attributes := #[] }
def k24m0 : Method := { name := "getChars", desc := "(II[B)I", sig := { parameters := [.int, .int, (.array .byte)], returnType := some .int }, accessFlags := 8, code := some k24c0 }
def k24c1 : Code := { maxStack := 2, maxLocals := 4, code := jdk_33_method_13_code, exceptionTable := #[], attributes := #[] }
def k24m1 : Method := { name := "stringSize", desc := "(I)I", sig := { parameters := [.int], returnType := some .int }, accessFlags := 8, code := some k24c1 }
/-- java/lang/Integer -/
def k24 : Class := { plain "java/lang/Integer" (some 23) with
  accessFlags := 49
  interfaces := #[3, 5, 6]
  cf := some (fileOf pool24 1 #[.nestMembers #[189]] #[{ accessFlags := 8, nameIndex := 77, descriptorIndex := 78, attributes := #[] }, { accessFlags := 8, nameIndex := 74, descriptorIndex := 54, attributes := #[] }] 49 203 #[304, 306, 308] #[{ accessFlags := 25, nameIndex := 310, descriptorIndex := 194, attributes := #[] }, { accessFlags := 25, nameIndex := 312, descriptorIndex := 194, attributes := #[] }, { accessFlags := 25, nameIndex := 302, descriptorIndex := 303, attributes := #[] }, { accessFlags := 24, nameIndex := 19, descriptorIndex := 20, attributes := #[] }, { accessFlags := 24, nameIndex := 89, descriptorIndex := 86, attributes := #[] }, { accessFlags := 24, nameIndex := 85, descriptorIndex := 86, attributes := #[] }, { accessFlags := 18, nameIndex := 207, descriptorIndex := 194, attributes := #[] }, { accessFlags := 25, nameIndex := 316, descriptorIndex := 194, attributes := #[] }, { accessFlags := 25, nameIndex := 318, descriptorIndex := 194, attributes := #[] }, { accessFlags := 26, nameIndex := 320, descriptorIndex := 321, attributes := #[] }])
  fields := #[{ name := "MIN_VALUE", type := .int, accessFlags := 25, slot := 0, constantValue := 0 }, { name := "MAX_VALUE", type := .int, accessFlags := 25, slot := 1, constantValue := 0 }, { name := "TYPE", type := (.object "java/lang/Class"), accessFlags := 25, slot := 2, constantValue := 0 }, { name := "digits", type := (.array .char), accessFlags := 24, slot := 3, constantValue := 0 }, { name := "DigitTens", type := (.array .byte), accessFlags := 24, slot := 4, constantValue := 0 }, { name := "DigitOnes", type := (.array .byte), accessFlags := 24, slot := 5, constantValue := 0 }, { name := "value", type := .int, accessFlags := 18, slot := 0, constantValue := 0 }, { name := "SIZE", type := .int, accessFlags := 25, slot := 6, constantValue := 0 }, { name := "BYTES", type := .int, accessFlags := 25, slot := 7, constantValue := 0 }, { name := "serialVersionUID", type := .long, accessFlags := 26, slot := 8, constantValue := 0 }]
  methods := #[k24m0, k24m1]
  instanceTypes := #[.int]
  staticTypes := #[.int, .int, (.object "java/lang/Class"), (.array .char), (.array .byte), (.array .byte), .int, .int, .long]
  resolved := Array.replicate 453 none
  statics := some 2 }

def pool25 : Array CpInfo := pool [(2, .class_ 4), (1, u "java/lang/Object"), (0, u "<init>"), (0, u "()V"), (1, .class_ 10), (1, u "java/lang/System"), (0, u "allowSecurityManager"), (0, u "I"), (16, u "cons"), (0, u "Ljava/io/Console;"), (77, .class_ 110), (1, u "java/lang/System$CallersHolder"), (43, u "initialErrStream"), (0, u "Ljava/io/PrintStream;"), (19, u "security"), (0, u "Ljava/lang/SecurityManager;"), (31, .class_ 209), (0, u "java/lang/System$1"), (7, u "props"), (0, u "Ljava/util/Properties;"), (2, u "lineSeparator"), (0, u "Ljava/lang/String;"), (96, .class_ 321), (1, u "java/lang/System$LoggerFinder"), (5, .class_ 328), (0, u "java/lang/System$Logger"), (67, u "err"), (2, u "out"), (91, u "notSupportedJnuEncoding"), (15, u "in"), (17, u "initialIn"), (0, u "Ljava/io/InputStream;"), (35, u "bootLayer"), (0, u "Ljava/lang/ModuleLayer;"), (99, .class_ 664), (0, u "java/lang/System$2"), (9, u "NEVER"), (2, u "MAYBE"), (49, u "arraycopy"), (0, u "(Ljava/lang/Object;ILjava/lang/Object;II)V"), (72, .class_ 802), (0, u "java/lang/System$Logger$Level")] 31

def k25m0 : Method := { name := "<init>", desc := "()V", sig := { parameters := [], returnType := none }, accessFlags := 2, code := none }
def k25m1 : Method := { name := "arraycopy", desc := "(Ljava/lang/Object;ILjava/lang/Object;II)V", sig := { parameters := [(.object "java/lang/Object"), .int, (.object "java/lang/Object"), .int, .int], returnType := none }, accessFlags := 265, code := none }
/-- java/lang/System -/
def k25 : Class := { plain "java/lang/System" (some 0) with
  accessFlags := 49
  interfaces := #[]
  cf := some (fileOf pool25 8 #[.nestMembers #[319, 327, 801, 108, 663, 208]] #[{ accessFlags := 2, nameIndex := 5, descriptorIndex := 6, attributes := #[] }, { accessFlags := 265, nameIndex := 727, descriptorIndex := 728, attributes := #[] }] 49 2 #[] #[{ accessFlags := 25, nameIndex := 507, descriptorIndex := 526, attributes := #[] }, { accessFlags := 25, nameIndex := 399, descriptorIndex := 155, attributes := #[] }, { accessFlags := 25, nameIndex := 396, descriptorIndex := 155, attributes := #[] }, { accessFlags := 10, nameIndex := 525, descriptorIndex := 526, attributes := #[] }, { accessFlags := 26, nameIndex := 674, descriptorIndex := 12, attributes := #[] }, { accessFlags := 26, nameIndex := 677, descriptorIndex := 12, attributes := #[] }, { accessFlags := 10, nameIndex := 11, descriptorIndex := 12, attributes := #[] }, { accessFlags := 74, nameIndex := 175, descriptorIndex := 176, attributes := #[] }, { accessFlags := 10, nameIndex := 491, descriptorIndex := 222, attributes := #[] }, { accessFlags := 74, nameIndex := 29, descriptorIndex := 30, attributes := #[] }, { accessFlags := 74, nameIndex := 154, descriptorIndex := 155, attributes := #[] }, { accessFlags := 10, nameIndex := 217, descriptorIndex := 218, attributes := #[] }, { accessFlags := 10, nameIndex := 221, descriptorIndex := 222, attributes := #[] }, { accessFlags := 8, nameIndex := 562, descriptorIndex := 563, attributes := #[] }])
  fields := #[{ name := "in", type := (.object "java/io/InputStream"), accessFlags := 25, slot := 0, constantValue := 0 }, { name := "out", type := (.object "java/io/PrintStream"), accessFlags := 25, slot := 1, constantValue := 0 }, { name := "err", type := (.object "java/io/PrintStream"), accessFlags := 25, slot := 2, constantValue := 0 }, { name := "initialIn", type := (.object "java/io/InputStream"), accessFlags := 10, slot := 3, constantValue := 0 }, { name := "NEVER", type := .int, accessFlags := 26, slot := 4, constantValue := 0 }, { name := "MAYBE", type := .int, accessFlags := 26, slot := 5, constantValue := 0 }, { name := "allowSecurityManager", type := .int, accessFlags := 10, slot := 6, constantValue := 0 }, { name := "security", type := (.object "java/lang/SecurityManager"), accessFlags := 74, slot := 7, constantValue := 0 }, { name := "notSupportedJnuEncoding", type := (.object "java/lang/String"), accessFlags := 10, slot := 8, constantValue := 0 }, { name := "cons", type := (.object "java/io/Console"), accessFlags := 74, slot := 9, constantValue := 0 }, { name := "initialErrStream", type := (.object "java/io/PrintStream"), accessFlags := 74, slot := 10, constantValue := 0 }, { name := "props", type := (.object "java/util/Properties"), accessFlags := 10, slot := 11, constantValue := 0 }, { name := "lineSeparator", type := (.object "java/lang/String"), accessFlags := 10, slot := 12, constantValue := 0 }, { name := "bootLayer", type := (.object "java/lang/ModuleLayer"), accessFlags := 8, slot := 13, constantValue := 0 }]
  methods := #[k25m0, k25m1]
  instanceTypes := #[]
  staticTypes := #[(.object "java/io/InputStream"), (.object "java/io/PrintStream"), (.object "java/io/PrintStream"), (.object "java/io/InputStream"), .int, .int, .int, (.object "java/lang/SecurityManager"), (.object "java/lang/String"), (.object "java/io/Console"), (.object "java/io/PrintStream"), (.object "java/util/Properties"), (.object "java/lang/String"), (.object "java/lang/ModuleLayer")]
  resolved := Array.replicate 834 none
  statics := none }

def pool26 : Array CpInfo := pool [(2, .class_ 4), (1, u "java/lang/Object"), (0, u "<init>"), (0, u "()V"), (7, .class_ 16), (1, u "java/util/Arrays"), (57, .class_ 76), (1, u "java/util/Arrays$NaturalOrder"), (36, .class_ 115), (1, u "java/util/Arrays$LegacyMergeSort"), (1, u "Z"), (21, u "copyOfRange"), (10, .methodref 151 152), (0, .class_ 153), (0, .nameAndType 154 155), (0, u "java/lang/System"), (0, u "arraycopy"), (0, u "(Ljava/lang/Object;ILjava/lang/Object;II)V"), (148, .methodref 305 306), (0, .class_ 307), (0, .nameAndType 308 309), (0, u "java/lang/Math"), (0, u "min"), (0, u "(II)I"), (29, .methodref 14 340), (0, .nameAndType 341 342), (0, u "copyOfRangeByte"), (0, u "([BII)[B"), (0, .methodref 14 344), (0, .nameAndType 345 346), (0, u "checkLength"), (0, u "(II)V"), (28, .class_ 376), (0, u "java/util/Arrays$ArrayList"), (68, u "$assertionsDisabled"), (269, u "MIN_ARRAY_SORT_GRAN"), (0, u "I"), (2, u "INSERTIONSORT_THRESHOLD"), (255, .class_ 976), (0, u "java/util/Arrays$ArrayItr")] 52

def k26m0 : Method := { name := "<init>", desc := "()V", sig := { parameters := [], returnType := none }, accessFlags := 2, code := none }
def k26c1 : Code := { maxStack := 4, maxLocals := 2, code := jdk_65_method_131_code, exceptionTable := #[], attributes := #[] }
def k26m1 : Method := { name := "checkLength", desc := "(II)V", sig := { parameters := [.int, .int], returnType := none }, accessFlags := 10, code := some k26c1 }
def k26c2 : Code := { maxStack := 3, maxLocals := 3, code := jdk_65_method_132_code, exceptionTable := #[], attributes := #[] }
def k26m2 : Method := { name := "copyOfRange", desc := "([BII)[B", sig := { parameters := [(.array .byte), .int, .int], returnType := some (.array .byte) }, accessFlags := 9, code := some k26c2 }
def k26c3 : Code := { maxStack := 6, maxLocals := 5, code := jdk_65_method_133_code, exceptionTable := #[], attributes := #[] }
def k26m3 : Method := { name := "copyOfRangeByte", desc := "([BII)[B", sig := { parameters := [(.array .byte), .int, .int], returnType := some (.array .byte) }, accessFlags := 10, code := some k26c3 }
/-- java/util/Arrays -/
def k26 : Class := { plain "java/util/Arrays" (some 0) with
  accessFlags := 49
  interfaces := #[]
  cf := some (fileOf pool26 14 #[.nestMembers #[975, 375, 113, 74]] #[{ accessFlags := 2, nameIndex := 5, descriptorIndex := 6, attributes := #[] }, { accessFlags := 10, nameIndex := 345, descriptorIndex := 346, attributes := #[] }, { accessFlags := 9, nameIndex := 139, descriptorIndex := 342, attributes := #[] }, { accessFlags := 10, nameIndex := 341, descriptorIndex := 342, attributes := #[] }] 49 2 #[] #[{ accessFlags := 26, nameIndex := 715, descriptorIndex := 716, attributes := #[] }, { accessFlags := 26, nameIndex := 719, descriptorIndex := 716, attributes := #[] }, { accessFlags := 4120, nameIndex := 445, descriptorIndex := 117, attributes := #[] }])
  fields := #[{ name := "MIN_ARRAY_SORT_GRAN", type := .int, accessFlags := 26, slot := 0, constantValue := 0 }, { name := "INSERTIONSORT_THRESHOLD", type := .int, accessFlags := 26, slot := 1, constantValue := 0 }, { name := "$assertionsDisabled", type := .boolean, accessFlags := 4120, slot := 2, constantValue := 0 }]
  methods := #[k26m0, k26m1, k26m2, k26m3]
  instanceTypes := #[]
  staticTypes := #[.int, .int, .boolean]
  resolved := Array.replicate 1029 none
  statics := none }

def pool27 : Array CpInfo := pool [(1, .class_ 2), (0, u "java/lang/Math"), (1, .class_ 6), (1, u "java/lang/Object"), (0, u "<init>"), (0, u "()V"), (89, .class_ 100), (1, u "java/lang/Math$RandomNumberGeneratorHolder"), (71, u "negativeZeroFloatBits"), (0, u "J"), (2, u "negativeZeroDoubleBits"), (21, u "max"), (2, u "min"), (43, u "$assertionsDisabled"), (0, u "Z"), (88, u "(II)I"), (2, u "twoToTheDoubleScaleDown"), (0, u "D"), (4, u "twoToTheDoubleScaleUp"), (9, u "E"), (3, u "PI"), (2, u "TAU"), (2, u "DEGREES_TO_RADIANS"), (0, u "RADIANS_TO_DEGREES")] 94

def k27m0 : Method := { name := "<init>", desc := "()V", sig := { parameters := [], returnType := none }, accessFlags := 2, code := none }
def k27c1 : Code := { maxStack := 2, maxLocals := 2, code := jdk_29_method_65_code, exceptionTable := #[], attributes := #[] }
def k27m1 : Method := { name := "max", desc := "(II)I", sig := { parameters := [.int, .int], returnType := some .int }, accessFlags := 9, code := some k27c1 }
def k27c2 : Code := { maxStack := 2, maxLocals := 2, code := jdk_29_method_69_code, exceptionTable := #[], attributes := #[] }
def k27m2 : Method := { name := "min", desc := "(II)I", sig := { parameters := [.int, .int], returnType := some .int }, accessFlags := 9, code := some k27c2 }
/-- java/lang/Math -/
def k27 : Class := { plain "java/lang/Math" (some 0) with
  accessFlags := 49
  interfaces := #[]
  cf := some (fileOf pool27 1 #[.nestMembers #[98]] #[{ accessFlags := 2, nameIndex := 7, descriptorIndex := 8, attributes := #[] }, { accessFlags := 9, nameIndex := 198, descriptorIndex := 335, attributes := #[] }, { accessFlags := 9, nameIndex := 201, descriptorIndex := 335, attributes := #[] }] 49 4 #[] #[{ accessFlags := 25, nameIndex := 354, descriptorIndex := 339, attributes := #[] }, { accessFlags := 25, nameIndex := 358, descriptorIndex := 339, attributes := #[] }, { accessFlags := 25, nameIndex := 361, descriptorIndex := 339, attributes := #[] }, { accessFlags := 26, nameIndex := 364, descriptorIndex := 339, attributes := #[] }, { accessFlags := 26, nameIndex := 365, descriptorIndex := 339, attributes := #[] }, { accessFlags := 26, nameIndex := 172, descriptorIndex := 173, attributes := #[] }, { accessFlags := 26, nameIndex := 176, descriptorIndex := 173, attributes := #[] }, { accessFlags := 8, nameIndex := 344, descriptorIndex := 339, attributes := #[] }, { accessFlags := 8, nameIndex := 338, descriptorIndex := 339, attributes := #[] }, { accessFlags := 4120, nameIndex := 245, descriptorIndex := 246, attributes := #[] }])
  fields := #[{ name := "E", type := .double, accessFlags := 25, slot := 0, constantValue := 0 }, { name := "PI", type := .double, accessFlags := 25, slot := 1, constantValue := 0 }, { name := "TAU", type := .double, accessFlags := 25, slot := 2, constantValue := 0 }, { name := "DEGREES_TO_RADIANS", type := .double, accessFlags := 26, slot := 3, constantValue := 0 }, { name := "RADIANS_TO_DEGREES", type := .double, accessFlags := 26, slot := 4, constantValue := 0 }, { name := "negativeZeroFloatBits", type := .long, accessFlags := 26, slot := 5, constantValue := 0 }, { name := "negativeZeroDoubleBits", type := .long, accessFlags := 26, slot := 6, constantValue := 0 }, { name := "twoToTheDoubleScaleUp", type := .double, accessFlags := 8, slot := 7, constantValue := 0 }, { name := "twoToTheDoubleScaleDown", type := .double, accessFlags := 8, slot := 8, constantValue := 0 }, { name := "$assertionsDisabled", type := .boolean, accessFlags := 4120, slot := 9, constantValue := 0 }]
  methods := #[k27m0, k27m1, k27m2]
  instanceTypes := #[]
  staticTypes := #[.double, .double, .double, .double, .double, .long, .long, .double, .double, .boolean]
  resolved := Array.replicate 460 none
  statics := none }

def pool28 : Array CpInfo := pool [(1, .class_ 2), (0, u "java/lang/String"), (1, .class_ 6), (1, u "java/lang/Object"), (0, u "<init>"), (0, u "()V"), (0, .methodref 1 10), (0, .nameAndType 11 12), (0, u "checkIndex"), (0, u "(II)V"), (1, .class_ 16), (1, u "java/lang/StringLatin1"), (36, u "([BI)C"), (36, u "canEncode"), (14, u "(C)Z"), (15, u "$assertionsDisabled"), (0, u "Z"), (98, .class_ 223), (1, u "java/lang/StringLatin1$LinesSpliterator"), (28, u "charAt"), (127, u "toBytes"), (1, u "(C)[B"), (7, .class_ 391), (0, u "java/lang/StringLatin1$CharsSpliterator")] 3

def k28m0 : Method := { name := "<init>", desc := "()V", sig := { parameters := [], returnType := none }, accessFlags := 0, code := none }
def k28c1 : Code := { maxStack := 2, maxLocals := 2, code := jdk_43_method_2_code, exceptionTable := #[], attributes := #[] }
def k28m1 : Method := { name := "charAt", desc := "([BI)C", sig := { parameters := [(.array .byte), .int], returnType := some .char }, accessFlags := 9, code := some k28c1 }
def k28c2 : Code := { maxStack := 2, maxLocals := 1, code := jdk_43_method_3_code, exceptionTable := #[], attributes := #[] }
def k28m2 : Method := { name := "canEncode", desc := "(C)Z", sig := { parameters := [.char], returnType := some .boolean }, accessFlags := 9, code := some k28c2 }
def k28c3 : Code := { maxStack := 4, maxLocals := 1, code := jdk_43_method_46_code, exceptionTable := #[], attributes := #[] }
def k28m3 : Method := { name := "toBytes", desc := "(C)[B", sig := { parameters := [.char], returnType := some (.array .byte) }, accessFlags := 9, code := some k28c3 }
/-- java/lang/StringLatin1 -/
def k28 : Class := { plain "java/lang/StringLatin1" (some 0) with
  accessFlags := 48
  interfaces := #[]
  cf := some (fileOf pool28 14 #[.nestMembers #[390, 221]] #[{ accessFlags := 0, nameIndex := 7, descriptorIndex := 8, attributes := #[] }, { accessFlags := 9, nameIndex := 252, descriptorIndex := 53, attributes := #[] }, { accessFlags := 9, nameIndex := 90, descriptorIndex := 105, attributes := #[] }, { accessFlags := 9, nameIndex := 380, descriptorIndex := 382, attributes := #[] }] 48 4 #[] #[{ accessFlags := 4120, nameIndex := 121, descriptorIndex := 122, attributes := #[] }])
  fields := #[{ name := "$assertionsDisabled", type := .boolean, accessFlags := 4120, slot := 0, constantValue := 0 }]
  methods := #[k28m0, k28m1, k28m2, k28m3]
  instanceTypes := #[]
  staticTypes := #[.boolean]
  resolved := Array.replicate 395 none
  statics := none }

def pool29 : Array CpInfo := pool [(2, .class_ 4), (1, u "java/lang/Object"), (0, u "<init>"), (0, u "()V"), (17, .class_ 26), (1, u "jdk/internal/util/Preconditions"), (6, u "checkIndex"), (21, .class_ 56), (0, u "jdk/internal/util/Preconditions$4"), (57, .class_ 115), (0, u "jdk/internal/util/Preconditions$1"), (7, u "SIOOBE_FORMATTER"), (0, u "Ljava/util/function/BiFunction;"), (0, .class_ 126), (0, u "jdk/internal/util/Preconditions$2"), (3, u "AIOOBE_FORMATTER"), (0, .class_ 132), (0, u "jdk/internal/util/Preconditions$3"), (3, u "IOOBE_FORMATTER"), (41, u "(IILjava/util/function/BiFunction;)I")] 15

def k29m0 : Method := { name := "<init>", desc := "()V", sig := { parameters := [], returnType := none }, accessFlags := 1, code := none }
def k29c1 : Code := { maxStack := 3, maxLocals := 3, code := jdk_41_method_11_code, exceptionTable := #[], attributes := #[] }
def k29m1 : Method := { name := "checkIndex", desc := "(IILjava/util/function/BiFunction;)I", sig := { parameters := [.int, .int, (.object "java/util/function/BiFunction")], returnType := some .int }, accessFlags := 9, code := some k29c1 }
/-- jdk/internal/util/Preconditions -/
def k29 : Class := { plain "jdk/internal/util/Preconditions" (some 0) with
  accessFlags := 33
  interfaces := #[]
  cf := some (fileOf pool29 24 #[.nestMembers #[55, 131, 125, 114]] #[{ accessFlags := 1, nameIndex := 5, descriptorIndex := 6, attributes := #[] }, { accessFlags := 9, nameIndex := 33, descriptorIndex := 178, attributes := #[] }] 33 2 #[] #[{ accessFlags := 25, nameIndex := 123, descriptorIndex := 124, attributes := #[] }, { accessFlags := 25, nameIndex := 130, descriptorIndex := 124, attributes := #[] }, { accessFlags := 25, nameIndex := 136, descriptorIndex := 124, attributes := #[] }])
  fields := #[{ name := "SIOOBE_FORMATTER", type := (.object "java/util/function/BiFunction"), accessFlags := 25, slot := 0, constantValue := 0 }, { name := "AIOOBE_FORMATTER", type := (.object "java/util/function/BiFunction"), accessFlags := 25, slot := 1, constantValue := 0 }, { name := "IOOBE_FORMATTER", type := (.object "java/util/function/BiFunction"), accessFlags := 25, slot := 2, constantValue := 0 }]
  methods := #[k29m0, k29m1]
  instanceTypes := #[]
  staticTypes := #[(.object "java/util/function/BiFunction"), (.object "java/util/function/BiFunction"), (.object "java/util/function/BiFunction")]
  resolved := Array.replicate 194 none
  statics := some 3 }

def pool30 : Array CpInfo := pool [(2, .class_ 4), (1, u "java/lang/Object"), (0, u "<init>"), (0, u "()V"), (35, .class_ 44), (1, u "java/util/Objects"), (60, .methodref 106 107), (0, .class_ 108), (0, .nameAndType 109 110), (0, u "jdk/internal/util/Preconditions"), (0, u "checkIndex"), (0, u "(IILjava/util/function/BiFunction;)I"), (60, u "(II)I")] 12

def k30m0 : Method := { name := "<init>", desc := "()V", sig := { parameters := [], returnType := none }, accessFlags := 2, code := none }
def k30c1 : Code := { maxStack := 3, maxLocals := 2, code := jdk_31_method_17_code, exceptionTable := #[], attributes := #[] }
def k30m1 : Method := { name := "checkIndex", desc := "(II)I", sig := { parameters := [.int, .int], returnType := some .int }, accessFlags := 9, code := some k30c1 }
/-- java/util/Objects -/
def k30 : Class := { plain "java/util/Objects" (some 0) with
  accessFlags := 49
  interfaces := #[]
  cf := some (fileOf pool30 42 #[] #[{ accessFlags := 2, nameIndex := 5, descriptorIndex := 6, attributes := #[] }, { accessFlags := 9, nameIndex := 109, descriptorIndex := 171, attributes := #[] }] 49 2 #[] #[])
  fields := #[]
  methods := #[k30m0, k30m1]
  instanceTypes := #[]
  staticTypes := #[]
  resolved := Array.replicate 184 none
  statics := none }

def pool31 : Array CpInfo := pool [(9, u "<init>"), (6, .class_ 18), (1, u "java/lang/Object"), (0, u "()V"), (1, .class_ 23), (1, u "jdk/internal/util/ArraysSupport"), (0, u "LOG2_ARRAY_LONG_INDEX_SCALE"), (0, u "I"), (2, u "U"), (0, u "Ljdk/internal/misc/Unsafe;"), (8, u "BIG_ENDIAN"), (0, u "Z"), (8, u "LOG2_BYTE_BIT_SIZE"), (4, u "LOG2_ARRAY_INT_INDEX_SCALE"), (54, u "JLA"), (0, u "Ljdk/internal/access/JavaLangAccess;"), (11, u "LOG2_ARRAY_BOOLEAN_INDEX_SCALE"), (9, u "LOG2_ARRAY_BYTE_INDEX_SCALE"), (5, u "LOG2_ARRAY_CHAR_INDEX_SCALE"), (5, u "LOG2_ARRAY_SHORT_INDEX_SCALE"), (18, u "LOG2_ARRAY_FLOAT_INDEX_SCALE"), (24, u "LOG2_ARRAY_DOUBLE_INDEX_SCALE"), (89, u "T_BOOLEAN"), (2, u "T_CHAR"), (1, u "T_FLOAT"), (1, u "T_DOUBLE"), (1, u "T_BYTE"), (1, u "T_SHORT"), (1, u "T_INT"), (1, u "T_LONG"), (1, u "SOFT_MAX_ARRAY_LENGTH")] 83

def k31m0 : Method := { name := "<init>", desc := "()V", sig := { parameters := [], returnType := none }, accessFlags := 2, code := none }
/-- jdk/internal/util/ArraysSupport -/
def k31 : Class := { plain "jdk/internal/util/ArraysSupport" (some 0) with
  accessFlags := 33
  interfaces := #[]
  cf := some (fileOf pool31 21 #[] #[{ accessFlags := 2, nameIndex := 9, descriptorIndex := 19, attributes := #[] }] 33 16 #[] #[{ accessFlags := 24, nameIndex := 28, descriptorIndex := 29, attributes := #[] }, { accessFlags := 26, nameIndex := 38, descriptorIndex := 39, attributes := #[] }, { accessFlags := 25, nameIndex := 121, descriptorIndex := 25, attributes := #[] }, { accessFlags := 25, nameIndex := 131, descriptorIndex := 25, attributes := #[] }, { accessFlags := 25, nameIndex := 137, descriptorIndex := 25, attributes := #[] }, { accessFlags := 25, nameIndex := 143, descriptorIndex := 25, attributes := #[] }, { accessFlags := 25, nameIndex := 53, descriptorIndex := 25, attributes := #[] }, { accessFlags := 25, nameIndex := 24, descriptorIndex := 25, attributes := #[] }, { accessFlags := 25, nameIndex := 162, descriptorIndex := 25, attributes := #[] }, { accessFlags := 25, nameIndex := 187, descriptorIndex := 25, attributes := #[] }, { accessFlags := 26, nameIndex := 48, descriptorIndex := 25, attributes := #[] }, { accessFlags := 25, nameIndex := 277, descriptorIndex := 25, attributes := #[] }, { accessFlags := 25, nameIndex := 280, descriptorIndex := 25, attributes := #[] }, { accessFlags := 25, nameIndex := 282, descriptorIndex := 25, attributes := #[] }, { accessFlags := 25, nameIndex := 284, descriptorIndex := 25, attributes := #[] }, { accessFlags := 25, nameIndex := 286, descriptorIndex := 25, attributes := #[] }, { accessFlags := 25, nameIndex := 288, descriptorIndex := 25, attributes := #[] }, { accessFlags := 25, nameIndex := 290, descriptorIndex := 25, attributes := #[] }, { accessFlags := 25, nameIndex := 292, descriptorIndex := 25, attributes := #[] }, { accessFlags := 26, nameIndex := 108, descriptorIndex := 109, attributes := #[] }, { accessFlags := 25, nameIndex := 294, descriptorIndex := 25, attributes := #[] }])
  fields := #[{ name := "U", type := (.object "jdk/internal/misc/Unsafe"), accessFlags := 24, slot := 0, constantValue := 0 }, { name := "BIG_ENDIAN", type := .boolean, accessFlags := 26, slot := 1, constantValue := 0 }, { name := "LOG2_ARRAY_BOOLEAN_INDEX_SCALE", type := .int, accessFlags := 25, slot := 2, constantValue := 0 }, { name := "LOG2_ARRAY_BYTE_INDEX_SCALE", type := .int, accessFlags := 25, slot := 3, constantValue := 0 }, { name := "LOG2_ARRAY_CHAR_INDEX_SCALE", type := .int, accessFlags := 25, slot := 4, constantValue := 0 }, { name := "LOG2_ARRAY_SHORT_INDEX_SCALE", type := .int, accessFlags := 25, slot := 5, constantValue := 0 }, { name := "LOG2_ARRAY_INT_INDEX_SCALE", type := .int, accessFlags := 25, slot := 6, constantValue := 0 }, { name := "LOG2_ARRAY_LONG_INDEX_SCALE", type := .int, accessFlags := 25, slot := 7, constantValue := 0 }, { name := "LOG2_ARRAY_FLOAT_INDEX_SCALE", type := .int, accessFlags := 25, slot := 8, constantValue := 0 }, { name := "LOG2_ARRAY_DOUBLE_INDEX_SCALE", type := .int, accessFlags := 25, slot := 9, constantValue := 0 }, { name := "LOG2_BYTE_BIT_SIZE", type := .int, accessFlags := 26, slot := 10, constantValue := 0 }, { name := "T_BOOLEAN", type := .int, accessFlags := 25, slot := 11, constantValue := 0 }, { name := "T_CHAR", type := .int, accessFlags := 25, slot := 12, constantValue := 0 }, { name := "T_FLOAT", type := .int, accessFlags := 25, slot := 13, constantValue := 0 }, { name := "T_DOUBLE", type := .int, accessFlags := 25, slot := 14, constantValue := 0 }, { name := "T_BYTE", type := .int, accessFlags := 25, slot := 15, constantValue := 0 }, { name := "T_SHORT", type := .int, accessFlags := 25, slot := 16, constantValue := 0 }, { name := "T_INT", type := .int, accessFlags := 25, slot := 17, constantValue := 0 }, { name := "T_LONG", type := .int, accessFlags := 25, slot := 18, constantValue := 0 }, { name := "JLA", type := (.object "jdk/internal/access/JavaLangAccess"), accessFlags := 26, slot := 19, constantValue := 0 }, { name := "SOFT_MAX_ARRAY_LENGTH", type := .int, accessFlags := 25, slot := 20, constantValue := 0 }]
  methods := #[k31m0]
  instanceTypes := #[]
  staticTypes := #[(.object "jdk/internal/misc/Unsafe"), .boolean, .int, .int, .int, .int, .int, .int, .int, .int, .int, .int, .int, .int, .int, .int, .int, .int, .int, (.object "jdk/internal/access/JavaLangAccess"), .int]
  resolved := Array.replicate 378 none
  statics := none }

/-- the primitive byte -/
def k32 : Class := { plain "byte" none with kind := .primitive 'B', accessFlags := 0x411 }
/-- [B -/
def k33 : Class := { plain "[B" (some 0) with kind := .array 32 .byte, interfaces := #[16, 2], accessFlags := 1041 }

/-- the primitive char -/
def k34 : Class := { plain "char" none with kind := .primitive 'C', accessFlags := 0x411 }
/-- [C -/
def k35 : Class := { plain "[C" (some 0) with kind := .array 34 .char, interfaces := #[16, 2], accessFlags := 1041 }

/-- [Ljava/lang/Object; -/
def k36 : Class := { plain "[Ljava/lang/Object;" (some 0) with kind := .array 0 (.object "java/lang/Object"), interfaces := #[16, 2], accessFlags := 1041 }

def heap : Heap := #[{ cls := 7, slots := #[.long 0, .int 1, .null, .int 0, .null, .int 0, .int 0], vm := .statics 7 },
  { cls := 17, slots := #[.long 0, .int 0, .ref 6, .ref 7], vm := .statics 17 },
  { cls := 24, slots := #[.int 0, .int 0, .null, .null, .ref 5, .ref 4, .int 0, .int 0, .long 0], vm := .statics 24 },
  { cls := 29, slots := #[.null, .null, .null], vm := .statics 29 },
  { cls := 33, slots := #[.int 48, .int 49, .int 50, .int 51, .int 52, .int 53, .int 54, .int 55, .int 56, .int 57, .int 48, .int 49, .int 50, .int 51, .int 52, .int 53, .int 54, .int 55, .int 56, .int 57, .int 48, .int 49, .int 50, .int 51, .int 52, .int 53, .int 54, .int 55, .int 56, .int 57, .int 48, .int 49, .int 50, .int 51, .int 52, .int 53, .int 54, .int 55, .int 56, .int 57, .int 48, .int 49, .int 50, .int 51, .int 52, .int 53, .int 54, .int 55, .int 56, .int 57, .int 48, .int 49, .int 50, .int 51, .int 52, .int 53, .int 54, .int 55, .int 56, .int 57, .int 48, .int 49, .int 50, .int 51, .int 52, .int 53, .int 54, .int 55, .int 56, .int 57, .int 48, .int 49, .int 50, .int 51, .int 52, .int 53, .int 54, .int 55, .int 56, .int 57, .int 48, .int 49, .int 50, .int 51, .int 52, .int 53, .int 54, .int 55, .int 56, .int 57, .int 48, .int 49, .int 50, .int 51, .int 52, .int 53, .int 54, .int 55, .int 56, .int 57], vm := .none },
  { cls := 33, slots := #[.int 48, .int 48, .int 48, .int 48, .int 48, .int 48, .int 48, .int 48, .int 48, .int 48, .int 49, .int 49, .int 49, .int 49, .int 49, .int 49, .int 49, .int 49, .int 49, .int 49, .int 50, .int 50, .int 50, .int 50, .int 50, .int 50, .int 50, .int 50, .int 50, .int 50, .int 51, .int 51, .int 51, .int 51, .int 51, .int 51, .int 51, .int 51, .int 51, .int 51, .int 52, .int 52, .int 52, .int 52, .int 52, .int 52, .int 52, .int 52, .int 52, .int 52, .int 53, .int 53, .int 53, .int 53, .int 53, .int 53, .int 53, .int 53, .int 53, .int 53, .int 54, .int 54, .int 54, .int 54, .int 54, .int 54, .int 54, .int 54, .int 54, .int 54, .int 55, .int 55, .int 55, .int 55, .int 55, .int 55, .int 55, .int 55, .int 55, .int 55, .int 56, .int 56, .int 56, .int 56, .int 56, .int 56, .int 56, .int 56, .int 56, .int 56, .int 57, .int 57, .int 57, .int 57, .int 57, .int 57, .int 57, .int 57, .int 57, .int 57], vm := .none },
  { cls := 36, slots := #[], vm := .none },
  { cls := 36, slots := #[], vm := .none }]
def classes : Array Class := #[k0, k1, k2, k3, k4, k5, k6, k7, k8, k9, k10, k11, k12, k13, k14, k15, k16, k17, k18, k19, k20, k21, k22, k23, k24, k25, k26, k27, k28, k29, k30, k31, k32, k33, k34, k35, k36]
def interned : List (Array UInt16 × Addr) := []
def slotsUsed : Nat := 223
def theMethod : MethodId := ⟨1, 3⟩
def args0 : Array Value := #[.int 1, .int 2, .int 65, .int 66, .int 67]
def aboutOver (below : List Frame) : State where
  vm := { classes := classes, interned := interned.toArray }
  heap := heap
  slotsUsed := slotsUsed
  threads := #[{ frames := .invoking theMethod args0 :: below }]
def below0 : List Frame := [.native { method := ⟨0, 0⟩, args := #[] }]
def about1 : State := aboutOver below0
def p0 : Program := .bare "" "" ""
def e0 : Env := launch0.env 0 0 0
theorem w_frames : about1.frames = Frame.invoking theMethod args0 :: below0 := rfl
set_option maxRecDepth 65536 in
theorem w_args : argsFit about1.vm theMethod args0 = true := by decide +kernel
set_option maxRecDepth 65536 in
theorem w_heap : heapFits about1 = true := by decide +kernel
set_option maxRecDepth 65536 in
theorem w_runnable : about1.curStatus? = some .runnable := by decide +kernel
set_option maxRecDepth 65536 in
theorem w_alone : about1.alone = true := by decide +kernel
set_option maxRecDepth 65536 in
theorem w_named : about1.methodNamed? x = some theMethod := by decide +kernel
set_option maxRecDepth 65536 in
theorem w_hears : about1.hears theMethod below0 = true := by decide +kernel
set_option maxRecDepth 65536 in
theorem w_ripe : about1.ripe theMethod args0 below0 = true := by decide +kernel
theorem w_running : about1.status = .running := rfl
set_option maxRecDepth 65536 in
theorem w_room : about1.hasRoom e0.platform room_1 = true :=
  launch0.hasRoom_least _ room_1 (by decide +kernel) (by decide +kernel) (by decide +kernel) (by decide +kernel) (by decide +kernel) (by decide +kernel)
theorem allAtoms_all (ts : List Jvm.Cond) (a : Array Jvm.Value) (st : Jvm.State) : (allAtoms ts).before a st = ts.all (fun c => c.before a st) := by
  induction ts with
  | nil => rfl
  | cons c t ih =>
    show (Jvm.Cond.and c (allAtoms t)).before a st = _
    rw [Jvm.Cond.before_and, ih, List.all_cons]
def words1 : List Jvm.Cond := Jvm.Cond.code x code maxLocals ret :: tables_1
/-- a 'code' word, met by the world's own term for the bytes: nothing is compared byte by byte -/
theorem code_word {y : MethodName} {bytes : ByteArray} {mx : Nat} {rt : Option FieldType} {a : Array Value} {s : State} {m : MethodId} {meth : Method} {c : Code} (h1 : s.methodNamed? y = some m) (h2 : s.vm.method? m = some meth) (h3 : meth.code = some c) (h4 : c.code = bytes)
    (h5 : (c.maxLocals == mx && c.exceptionTable.isEmpty && decide (c.maxStack ≤ mostOperands) && decide (meth.sig.returnType = rt) && !meth.locks && decide (parseMethodDescriptor y.desc = some meth.sig)) = true) : (Jvm.Cond.code y bytes mx rt).before a s = true := by
  simp only [Bool.and_eq_true, beq_iff_eq, Bool.not_eq_true', decide_eq_true_eq] at h5
  obtain ⟨⟨⟨⟨⟨g1, g2⟩, g3⟩, g4⟩, g5⟩, g6⟩ := h5
  simp [Cond.before, Cond.holds, Cond.value, h1, h2, h3, h4, g1, g2, g3, g4, g5, g6]
def isCode : Jvm.Cond → Bool
  | .code _ _ _ _ => true
  | _ => false
theorem all_split {L : List Jvm.Cond} {P : Jvm.Cond → Bool} (h1 : L.all (fun c => isCode c || P c) = true) (h2 : ∀ c ∈ L.filter isCode, P c = true) : L.all P = true := by
  refine List.all_eq_true.mpr fun c hc => ?_
  have h := List.all_eq_true.mp h1 c hc
  rcases Bool.eq_false_or_eq_true (isCode c) with hi | hi
  · exact h2 c (List.mem_filter.mpr ⟨hc, hi⟩)
  · simpa [hi] using h
set_option maxRecDepth 65536 in
theorem w_c0 : (Jvm.Cond.code x code maxLocals ret).before args0 about1 = true := code_word (m := ⟨1, 3⟩) (meth := k1m3) (c := k1c3) (by decide +kernel) rfl rfl rfl (by decide +kernel)
set_option maxRecDepth 65536 in
theorem w_c1 : (Jvm.Cond.code ({ cls := "com/example/atomic_lock/atomiclock/backend/HeldLockDescribePinLaw", name := "name", desc := "(ICCC)Ljava/lang/String;" } : Jvm.MethodName) method_3_code (4 : Nat) (Option.some (Jvm.ClassFile.FieldType.object "java/lang/String"))).before args0 about1 = true := code_word (m := ⟨1, 2⟩) (meth := k1m2) (c := k1c2) (by decide +kernel) rfl rfl rfl (by decide +kernel)
set_option maxRecDepth 65536 in
theorem w_c2 : (Jvm.Cond.code ({ cls := "java/lang/String", name := "<init>", desc := "([C)V" } : Jvm.MethodName) jdk_42_method_3_code (2 : Nat) (Option.none : Option Jvm.ClassFile.FieldType)).before args0 about1 = true := code_word (m := ⟨7, 1⟩) (meth := k7m1) (c := k7c1) (by decide +kernel) rfl rfl rfl (by decide +kernel)
set_option maxRecDepth 65536 in
theorem w_c3 : (Jvm.Cond.code ({ cls := "java/lang/String", name := "<init>", desc := "([CIILjava/lang/Void;)V" } : Jvm.MethodName) jdk_42_method_149_code (6 : Nat) (Option.none : Option Jvm.ClassFile.FieldType)).before args0 about1 = true := code_word (m := ⟨7, 7⟩) (meth := k7m7) (c := k7c7) (by decide +kernel) rfl rfl rfl (by decide +kernel)
set_option maxRecDepth 65536 in
theorem w_c4 : (Jvm.Cond.code ({ cls := "java/lang/Object", name := "<init>", desc := "()V" } : Jvm.MethodName) object_method_1_code (1 : Nat) (Option.none : Option Jvm.ClassFile.FieldType)).before args0 about1 = true := code_word (m := ⟨0, 0⟩) (meth := k0m0) (c := k0c0) (by decide +kernel) rfl rfl rfl (by decide +kernel)
set_option maxRecDepth 65536 in
theorem w_c5 : (Jvm.Cond.code ({ cls := "java/lang/StringUTF16", name := "compress", desc := "([CII)[B" } : Jvm.MethodName) jdk_52_method_16_code (6 : Nat) (Option.some (Jvm.ClassFile.FieldType.array Jvm.ClassFile.FieldType.byte))).before args0 about1 = true := code_word (m := ⟨8, 2⟩) (meth := k8m2) (c := k8c2) (by decide +kernel) rfl rfl rfl (by decide +kernel)
set_option maxRecDepth 65536 in
theorem w_c6 : (Jvm.Cond.code ({ cls := "java/lang/StringUTF16", name := "compress", desc := "([CI[BII)I" } : Jvm.MethodName) jdk_52_method_21_code (7 : Nat) (Option.some Jvm.ClassFile.FieldType.int)).before args0 about1 = true := code_word (m := ⟨8, 3⟩) (meth := k8m3) (c := k8c3) (by decide +kernel) rfl rfl rfl (by decide +kernel)
set_option maxRecDepth 65536 in
theorem w_c7 : (Jvm.Cond.code ({ cls := "java/lang/StringUTF16", name := "coderFromArrayLen", desc := "([BI)B" } : Jvm.MethodName) jdk_52_method_15_code (2 : Nat) (Option.some Jvm.ClassFile.FieldType.byte)).before args0 about1 = true := code_word (m := ⟨8, 1⟩) (meth := k8m1) (c := k8c1) (by decide +kernel) rfl rfl rfl (by decide +kernel)
set_option maxRecDepth 65536 in
theorem w_c8 : (Jvm.Cond.code ({ cls := "java/util/ArrayList", name := "<init>", desc := "()V" } : Jvm.MethodName) jdk_38_method_2_code (1 : Nat) (Option.none : Option Jvm.ClassFile.FieldType)).before args0 about1 = true := code_word (m := ⟨17, 0⟩) (meth := k17m0) (c := k17c0) (by decide +kernel) rfl rfl rfl (by decide +kernel)
set_option maxRecDepth 65536 in
theorem w_c9 : (Jvm.Cond.code ({ cls := "java/util/AbstractList", name := "<init>", desc := "()V" } : Jvm.MethodName) jdk_39_method_1_code (1 : Nat) (Option.none : Option Jvm.ClassFile.FieldType)).before args0 about1 = true := code_word (m := ⟨14, 0⟩) (meth := k14m0) (c := k14c0) (by decide +kernel) rfl rfl rfl (by decide +kernel)
set_option maxRecDepth 65536 in
theorem w_c10 : (Jvm.Cond.code ({ cls := "java/util/AbstractCollection", name := "<init>", desc := "()V" } : Jvm.MethodName) jdk_22_method_1_code (1 : Nat) (Option.none : Option Jvm.ClassFile.FieldType)).before args0 about1 = true := code_word (m := ⟨11, 0⟩) (meth := k11m0) (c := k11c0) (by decide +kernel) rfl rfl rfl (by decide +kernel)
set_option maxRecDepth 65536 in
theorem w_c11 : (Jvm.Cond.code ({ cls := "com/example/atomic_lock/atomiclock/backend/HeldLock", name := "describe", desc := "(Ljava/util/List;)Ljava/lang/String;" } : Jvm.MethodName) prog_11_method_2_code (1 : Nat) (Option.some (Jvm.ClassFile.FieldType.object "java/lang/String"))).before args0 about1 = true := code_word (m := ⟨19, 1⟩) (meth := k19m1) (c := k19c1) (by decide +kernel) rfl rfl rfl (by decide +kernel)
set_option maxRecDepth 65536 in
theorem w_c12 : (Jvm.Cond.code ({ cls := "java/util/ArrayList", name := "size", desc := "()I" } : Jvm.MethodName) jdk_38_method_8_code (1 : Nat) (Option.some Jvm.ClassFile.FieldType.int)).before args0 about1 = true := code_word (m := ⟨17, 3⟩) (meth := k17m3) (c := k17c3) (by decide +kernel) rfl rfl rfl (by decide +kernel)
set_option maxRecDepth 65536 in
theorem w_c13 : (Jvm.Cond.code ({ cls := "java/lang/StringBuilder", name := "<init>", desc := "()V" } : Jvm.MethodName) jdk_67_method_1_code (1 : Nat) (Option.none : Option Jvm.ClassFile.FieldType)).before args0 about1 = true := code_word (m := ⟨22, 0⟩) (meth := k22m0) (c := k22c0) (by decide +kernel) rfl rfl rfl (by decide +kernel)
set_option maxRecDepth 65536 in
theorem w_c14 : (Jvm.Cond.code ({ cls := "java/lang/AbstractStringBuilder", name := "<init>", desc := "(I)V" } : Jvm.MethodName) jdk_68_method_2_code (2 : Nat) (Option.none : Option Jvm.ClassFile.FieldType)).before args0 about1 = true := code_word (m := ⟨21, 1⟩) (meth := k21m1) (c := k21c1) (by decide +kernel) rfl rfl rfl (by decide +kernel)
set_option maxRecDepth 65536 in
theorem w_c15 : (Jvm.Cond.code ({ cls := "java/lang/StringBuilder", name := "append", desc := "(I)Ljava/lang/StringBuilder;" } : Jvm.MethodName) jdk_67_method_15_code (2 : Nat) (Option.some (Jvm.ClassFile.FieldType.object "java/lang/StringBuilder"))).before args0 about1 = true := code_word (m := ⟨22, 2⟩) (meth := k22m2) (c := k22c2) (by decide +kernel) rfl rfl rfl (by decide +kernel)
set_option maxRecDepth 65536 in
theorem w_c16 : (Jvm.Cond.code ({ cls := "java/lang/AbstractStringBuilder", name := "append", desc := "(I)Ljava/lang/AbstractStringBuilder;" } : Jvm.MethodName) jdk_68_method_32_code (4 : Nat) (Option.some (Jvm.ClassFile.FieldType.object "java/lang/AbstractStringBuilder"))).before args0 about1 = true := code_word (m := ⟨21, 5⟩) (meth := k21m5) (c := k21c5) (by decide +kernel) rfl rfl rfl (by decide +kernel)
set_option maxRecDepth 65536 in
theorem w_c17 : (Jvm.Cond.code ({ cls := "java/lang/Integer", name := "stringSize", desc := "(I)I" } : Jvm.MethodName) jdk_33_method_13_code (4 : Nat) (Option.some Jvm.ClassFile.FieldType.int)).before args0 about1 = true := code_word (m := ⟨24, 1⟩) (meth := k24m1) (c := k24c1) (by decide +kernel) rfl rfl rfl (by decide +kernel)
set_option maxRecDepth 65536 in
theorem w_c18 : (Jvm.Cond.code ({ cls := "java/lang/AbstractStringBuilder", name := "ensureCapacityInternal", desc := "(I)V" } : Jvm.MethodName) jdk_68_method_9_code (3 : Nat) (Option.none : Option Jvm.ClassFile.FieldType)).before args0 about1 = true := code_word (m := ⟨21, 3⟩) (meth := k21m3) (c := k21c3) (by decide +kernel) rfl rfl rfl (by decide +kernel)
set_option maxRecDepth 65536 in
theorem w_c19 : (Jvm.Cond.code ({ cls := "java/lang/AbstractStringBuilder", name := "isLatin1", desc := "()Z" } : Jvm.MethodName) jdk_68_method_68_code (1 : Nat) (Option.some Jvm.ClassFile.FieldType.boolean)).before args0 about1 = true := code_word (m := ⟨21, 7⟩) (meth := k21m7) (c := k21c7) (by decide +kernel) rfl rfl rfl (by decide +kernel)
set_option maxRecDepth 65536 in
theorem w_c20 : (Jvm.Cond.code ({ cls := "java/lang/Integer", name := "getChars", desc := "(II[B)I" } : Jvm.MethodName) jdk_33_method_12_code (7 : Nat) (Option.some Jvm.ClassFile.FieldType.int)).before args0 about1 = true := code_word (m := ⟨24, 0⟩) (meth := k24m0) (c := k24c0) (by decide +kernel) rfl rfl rfl (by decide +kernel)
set_option maxRecDepth 65536 in
theorem w_c21 : (Jvm.Cond.code ({ cls := "java/lang/StringBuilder", name := "append", desc := "(Ljava/lang/String;)Ljava/lang/StringBuilder;" } : Jvm.MethodName) jdk_67_method_7_code (2 : Nat) (Option.some (Jvm.ClassFile.FieldType.object "java/lang/StringBuilder"))).before args0 about1 = true := code_word (m := ⟨22, 1⟩) (meth := k22m1) (c := k22c1) (by decide +kernel) rfl rfl rfl (by decide +kernel)
set_option maxRecDepth 65536 in
theorem w_c22 : (Jvm.Cond.code ({ cls := "java/lang/AbstractStringBuilder", name := "append", desc := "(Ljava/lang/String;)Ljava/lang/AbstractStringBuilder;" } : Jvm.MethodName) jdk_68_method_22_code (3 : Nat) (Option.some (Jvm.ClassFile.FieldType.object "java/lang/AbstractStringBuilder"))).before args0 about1 = true := code_word (m := ⟨21, 4⟩) (meth := k21m4) (c := k21c4) (by decide +kernel) rfl rfl rfl (by decide +kernel)
set_option maxRecDepth 65536 in
theorem w_c23 : (Jvm.Cond.code ({ cls := "java/lang/String", name := "length", desc := "()I" } : Jvm.MethodName) jdk_42_method_54_code (1 : Nat) (Option.some Jvm.ClassFile.FieldType.int)).before args0 about1 = true := code_word (m := ⟨7, 3⟩) (meth := k7m3) (c := k7c3) (by decide +kernel) rfl rfl rfl (by decide +kernel)
set_option maxRecDepth 65536 in
theorem w_c24 : (Jvm.Cond.code ({ cls := "java/lang/String", name := "coder", desc := "()B" } : Jvm.MethodName) jdk_42_method_152_code (1 : Nat) (Option.some Jvm.ClassFile.FieldType.byte)).before args0 about1 = true := code_word (m := ⟨7, 10⟩) (meth := k7m10) (c := k7c10) (by decide +kernel) rfl rfl rfl (by decide +kernel)
set_option maxRecDepth 65536 in
theorem w_c25 : (Jvm.Cond.code ({ cls := "java/lang/AbstractStringBuilder", name := "putStringAt", desc := "(ILjava/lang/String;)V" } : Jvm.MethodName) jdk_68_method_73_code (3 : Nat) (Option.none : Option Jvm.ClassFile.FieldType)).before args0 about1 = true := code_word (m := ⟨21, 9⟩) (meth := k21m9) (c := k21c9) (by decide +kernel) rfl rfl rfl (by decide +kernel)
set_option maxRecDepth 65536 in
theorem w_c26 : (Jvm.Cond.code ({ cls := "java/lang/AbstractStringBuilder", name := "inflateIfNeededFor", desc := "(Ljava/lang/String;)V" } : Jvm.MethodName) jdk_68_method_71_code (2 : Nat) (Option.none : Option Jvm.ClassFile.FieldType)).before args0 about1 = true := code_word (m := ⟨21, 8⟩) (meth := k21m8) (c := k21c8) (by decide +kernel) rfl rfl rfl (by decide +kernel)
set_option maxRecDepth 65536 in
theorem w_c27 : (Jvm.Cond.code ({ cls := "java/lang/String", name := "getBytes", desc := "([BIB)V" } : Jvm.MethodName) jdk_42_method_147_code (4 : Nat) (Option.none : Option Jvm.ClassFile.FieldType)).before args0 about1 = true := code_word (m := ⟨7, 6⟩) (meth := k7m6) (c := k7c6) (by decide +kernel) rfl rfl rfl (by decide +kernel)
set_option maxRecDepth 65536 in
theorem w_c28 : (Jvm.Cond.code ({ cls := "java/lang/StringBuilder", name := "toString", desc := "()Ljava/lang/String;" } : Jvm.MethodName) jdk_67_method_42_code (1 : Nat) (Option.some (Jvm.ClassFile.FieldType.object "java/lang/String"))).before args0 about1 = true := code_word (m := ⟨22, 3⟩) (meth := k22m3) (c := k22c3) (by decide +kernel) rfl rfl rfl (by decide +kernel)
set_option maxRecDepth 65536 in
theorem w_c29 : (Jvm.Cond.code ({ cls := "java/lang/String", name := "<init>", desc := "(Ljava/lang/StringBuilder;)V" } : Jvm.MethodName) jdk_42_method_53_code (2 : Nat) (Option.none : Option Jvm.ClassFile.FieldType)).before args0 about1 = true := code_word (m := ⟨7, 2⟩) (meth := k7m2) (c := k7c2) (by decide +kernel) rfl rfl rfl (by decide +kernel)
set_option maxRecDepth 65536 in
theorem w_c30 : (Jvm.Cond.code ({ cls := "java/lang/String", name := "<init>", desc := "(Ljava/lang/AbstractStringBuilder;Ljava/lang/Void;)V" } : Jvm.MethodName) jdk_42_method_150_code (5 : Nat) (Option.none : Option Jvm.ClassFile.FieldType)).before args0 about1 = true := code_word (m := ⟨7, 8⟩) (meth := k7m8) (c := k7c8) (by decide +kernel) rfl rfl rfl (by decide +kernel)
set_option maxRecDepth 65536 in
theorem w_c31 : (Jvm.Cond.code ({ cls := "java/lang/AbstractStringBuilder", name := "getValue", desc := "()[B" } : Jvm.MethodName) jdk_68_method_64_code (1 : Nat) (Option.some (Jvm.ClassFile.FieldType.array Jvm.ClassFile.FieldType.byte))).before args0 about1 = true := code_word (m := ⟨21, 6⟩) (meth := k21m6) (c := k21c6) (by decide +kernel) rfl rfl rfl (by decide +kernel)
set_option maxRecDepth 65536 in
theorem w_c32 : (Jvm.Cond.code ({ cls := "java/lang/StringBuilder", name := "length", desc := "()I" } : Jvm.MethodName) jdk_67_method_93_code (1 : Nat) (Option.some Jvm.ClassFile.FieldType.int)).before args0 about1 = true := code_word (m := ⟨22, 4⟩) (meth := k22m4) (c := k22c4) (by decide +kernel) rfl rfl rfl (by decide +kernel)
set_option maxRecDepth 65536 in
theorem w_c33 : (Jvm.Cond.code ({ cls := "java/lang/AbstractStringBuilder", name := "length", desc := "()I" } : Jvm.MethodName) jdk_68_method_6_code (1 : Nat) (Option.some Jvm.ClassFile.FieldType.int)).before args0 about1 = true := code_word (m := ⟨21, 2⟩) (meth := k21m2) (c := k21c2) (by decide +kernel) rfl rfl rfl (by decide +kernel)
set_option maxRecDepth 65536 in
theorem w_c34 : (Jvm.Cond.code ({ cls := "java/util/Arrays", name := "copyOfRange", desc := "([BII)[B" } : Jvm.MethodName) jdk_65_method_132_code (3 : Nat) (Option.some (Jvm.ClassFile.FieldType.array Jvm.ClassFile.FieldType.byte))).before args0 about1 = true := code_word (m := ⟨26, 2⟩) (meth := k26m2) (c := k26c2) (by decide +kernel) rfl rfl rfl (by decide +kernel)
set_option maxRecDepth 65536 in
theorem w_c35 : (Jvm.Cond.code ({ cls := "java/util/Arrays", name := "copyOfRangeByte", desc := "([BII)[B" } : Jvm.MethodName) jdk_65_method_133_code (5 : Nat) (Option.some (Jvm.ClassFile.FieldType.array Jvm.ClassFile.FieldType.byte))).before args0 about1 = true := code_word (m := ⟨26, 3⟩) (meth := k26m3) (c := k26c3) (by decide +kernel) rfl rfl rfl (by decide +kernel)
set_option maxRecDepth 65536 in
theorem w_c36 : (Jvm.Cond.code ({ cls := "java/util/Arrays", name := "checkLength", desc := "(II)V" } : Jvm.MethodName) jdk_65_method_131_code (2 : Nat) (Option.none : Option Jvm.ClassFile.FieldType)).before args0 about1 = true := code_word (m := ⟨26, 1⟩) (meth := k26m1) (c := k26c1) (by decide +kernel) rfl rfl rfl (by decide +kernel)
set_option maxRecDepth 65536 in
theorem w_c37 : (Jvm.Cond.code ({ cls := "java/lang/Math", name := "min", desc := "(II)I" } : Jvm.MethodName) jdk_29_method_69_code (2 : Nat) (Option.some Jvm.ClassFile.FieldType.int)).before args0 about1 = true := code_word (m := ⟨27, 2⟩) (meth := k27m2) (c := k27c2) (by decide +kernel) rfl rfl rfl (by decide +kernel)
set_option maxRecDepth 65536 in
theorem w_c38 : (Jvm.Cond.code ({ cls := "com/example/atomic_lock/atomiclock/backend/HeldLockDescribePinLaw", name := "at", desc := "(Ljava/lang/String;IC)Z" } : Jvm.MethodName) method_2_code (3 : Nat) (Option.some Jvm.ClassFile.FieldType.boolean)).before args0 about1 = true := code_word (m := ⟨1, 1⟩) (meth := k1m1) (c := k1c1) (by decide +kernel) rfl rfl rfl (by decide +kernel)
set_option maxRecDepth 65536 in
theorem w_c39 : (Jvm.Cond.code ({ cls := "java/lang/String", name := "charAt", desc := "(I)C" } : Jvm.MethodName) jdk_42_method_56_code (2 : Nat) (Option.some Jvm.ClassFile.FieldType.char)).before args0 about1 = true := code_word (m := ⟨7, 4⟩) (meth := k7m4) (c := k7c4) (by decide +kernel) rfl rfl rfl (by decide +kernel)
set_option maxRecDepth 65536 in
theorem w_c40 : (Jvm.Cond.code ({ cls := "java/lang/String", name := "isLatin1", desc := "()Z" } : Jvm.MethodName) jdk_42_method_154_code (1 : Nat) (Option.some Jvm.ClassFile.FieldType.boolean)).before args0 about1 = true := code_word (m := ⟨7, 11⟩) (meth := k7m11) (c := k7c11) (by decide +kernel) rfl rfl rfl (by decide +kernel)
set_option maxRecDepth 65536 in
theorem w_c41 : (Jvm.Cond.code ({ cls := "java/lang/StringLatin1", name := "charAt", desc := "([BI)C" } : Jvm.MethodName) jdk_43_method_2_code (2 : Nat) (Option.some Jvm.ClassFile.FieldType.char)).before args0 about1 = true := code_word (m := ⟨28, 1⟩) (meth := k28m1) (c := k28c1) (by decide +kernel) rfl rfl rfl (by decide +kernel)
set_option maxRecDepth 65536 in
theorem w_c42 : (Jvm.Cond.code ({ cls := "java/lang/String", name := "checkIndex", desc := "(II)V" } : Jvm.MethodName) jdk_42_method_155_code (2 : Nat) (Option.none : Option Jvm.ClassFile.FieldType)).before args0 about1 = true := code_word (m := ⟨7, 12⟩) (meth := k7m12) (c := k7c12) (by decide +kernel) rfl rfl rfl (by decide +kernel)
set_option maxRecDepth 65536 in
theorem w_c43 : (Jvm.Cond.code ({ cls := "jdk/internal/util/Preconditions", name := "checkIndex", desc := "(IILjava/util/function/BiFunction;)I" } : Jvm.MethodName) jdk_41_method_11_code (3 : Nat) (Option.some Jvm.ClassFile.FieldType.int)).before args0 about1 = true := code_word (m := ⟨29, 1⟩) (meth := k29m1) (c := k29c1) (by decide +kernel) rfl rfl rfl (by decide +kernel)
set_option maxRecDepth 65536 in
theorem w_c44 : (Jvm.Cond.code ({ cls := "com/example/atomic_lock/atomiclock/backend/HeldLock", name := "<init>", desc := "(Ljava/lang/String;Ljava/lang/String;Ljava/util/OptionalLong;)V" } : Jvm.MethodName) prog_11_method_1_code (4 : Nat) (Option.none : Option Jvm.ClassFile.FieldType)).before args0 about1 = true := code_word (m := ⟨19, 0⟩) (meth := k19m0) (c := k19c0) (by decide +kernel) rfl rfl rfl (by decide +kernel)
set_option maxRecDepth 65536 in
theorem w_c45 : (Jvm.Cond.code ({ cls := "java/lang/Record", name := "<init>", desc := "()V" } : Jvm.MethodName) jdk_30_method_1_code (1 : Nat) (Option.none : Option Jvm.ClassFile.FieldType)).before args0 about1 = true := code_word (m := ⟨18, 0⟩) (meth := k18m0) (c := k18c0) (by decide +kernel) rfl rfl rfl (by decide +kernel)
set_option maxRecDepth 65536 in
theorem w_c46 : (Jvm.Cond.code ({ cls := "java/util/ArrayList", name := "add", desc := "(Ljava/lang/Object;)Z" } : Jvm.MethodName) jdk_38_method_25_code (2 : Nat) (Option.some Jvm.ClassFile.FieldType.boolean)).before args0 about1 = true := code_word (m := ⟨17, 7⟩) (meth := k17m7) (c := k17c7) (by decide +kernel) rfl rfl rfl (by decide +kernel)
set_option maxRecDepth 65536 in
theorem w_c47 : (Jvm.Cond.code ({ cls := "java/util/ArrayList", name := "add", desc := "(Ljava/lang/Object;[Ljava/lang/Object;I)V" } : Jvm.MethodName) jdk_38_method_24_code (4 : Nat) (Option.none : Option Jvm.ClassFile.FieldType)).before args0 about1 = true := code_word (m := ⟨17, 6⟩) (meth := k17m6) (c := k17c6) (by decide +kernel) rfl rfl rfl (by decide +kernel)
set_option maxRecDepth 65536 in
theorem w_c48 : (Jvm.Cond.code ({ cls := "java/util/ArrayList", name := "grow", desc := "()[Ljava/lang/Object;" } : Jvm.MethodName) jdk_38_method_7_code (1 : Nat) (Option.some (Jvm.ClassFile.FieldType.array (Jvm.ClassFile.FieldType.object "java/lang/Object")))).before args0 about1 = true := code_word (m := ⟨17, 2⟩) (meth := k17m2) (c := k17c2) (by decide +kernel) rfl rfl rfl (by decide +kernel)
set_option maxRecDepth 65536 in
theorem w_c49 : (Jvm.Cond.code ({ cls := "java/util/ArrayList", name := "grow", desc := "(I)[Ljava/lang/Object;" } : Jvm.MethodName) jdk_38_method_6_code (4 : Nat) (Option.some (Jvm.ClassFile.FieldType.array (Jvm.ClassFile.FieldType.object "java/lang/Object")))).before args0 about1 = true := code_word (m := ⟨17, 1⟩) (meth := k17m1) (c := k17c1) (by decide +kernel) rfl rfl rfl (by decide +kernel)
set_option maxRecDepth 65536 in
theorem w_c50 : (Jvm.Cond.code ({ cls := "java/lang/Math", name := "max", desc := "(II)I" } : Jvm.MethodName) jdk_29_method_65_code (2 : Nat) (Option.some Jvm.ClassFile.FieldType.int)).before args0 about1 = true := code_word (m := ⟨27, 1⟩) (meth := k27m1) (c := k27c1) (by decide +kernel) rfl rfl rfl (by decide +kernel)
set_option maxRecDepth 65536 in
theorem w_c51 : (Jvm.Cond.code ({ cls := "java/lang/String", name := "valueOf", desc := "(C)Ljava/lang/String;" } : Jvm.MethodName) jdk_42_method_139_code (1 : Nat) (Option.some (Jvm.ClassFile.FieldType.object "java/lang/String"))).before args0 about1 = true := code_word (m := ⟨7, 5⟩) (meth := k7m5) (c := k7c5) (by decide +kernel) rfl rfl rfl (by decide +kernel)
set_option maxRecDepth 65536 in
theorem w_c52 : (Jvm.Cond.code ({ cls := "java/lang/StringLatin1", name := "canEncode", desc := "(C)Z" } : Jvm.MethodName) jdk_43_method_3_code (1 : Nat) (Option.some Jvm.ClassFile.FieldType.boolean)).before args0 about1 = true := code_word (m := ⟨28, 2⟩) (meth := k28m2) (c := k28c2) (by decide +kernel) rfl rfl rfl (by decide +kernel)
set_option maxRecDepth 65536 in
theorem w_c53 : (Jvm.Cond.code ({ cls := "java/lang/StringLatin1", name := "toBytes", desc := "(C)[B" } : Jvm.MethodName) jdk_43_method_46_code (1 : Nat) (Option.some (Jvm.ClassFile.FieldType.array Jvm.ClassFile.FieldType.byte))).before args0 about1 = true := code_word (m := ⟨28, 3⟩) (meth := k28m3) (c := k28c3) (by decide +kernel) rfl rfl rfl (by decide +kernel)
set_option maxRecDepth 65536 in
theorem w_c54 : (Jvm.Cond.code ({ cls := "java/lang/String", name := "<init>", desc := "([BB)V" } : Jvm.MethodName) jdk_42_method_151_code (3 : Nat) (Option.none : Option Jvm.ClassFile.FieldType)).before args0 about1 = true := code_word (m := ⟨7, 9⟩) (meth := k7m9) (c := k7c9) (by decide +kernel) rfl rfl rfl (by decide +kernel)
set_option maxRecDepth 65536 in
theorem w_c55 : (Jvm.Cond.code ({ cls := "java/util/ArrayList", name := "get", desc := "(I)Ljava/lang/Object;" } : Jvm.MethodName) jdk_38_method_20_code (2 : Nat) (Option.some (Jvm.ClassFile.FieldType.object "java/lang/Object"))).before args0 about1 = true := code_word (m := ⟨17, 5⟩) (meth := k17m5) (c := k17c5) (by decide +kernel) rfl rfl rfl (by decide +kernel)
set_option maxRecDepth 65536 in
theorem w_c56 : (Jvm.Cond.code ({ cls := "java/util/Objects", name := "checkIndex", desc := "(II)I" } : Jvm.MethodName) jdk_31_method_17_code (2 : Nat) (Option.some Jvm.ClassFile.FieldType.int)).before args0 about1 = true := code_word (m := ⟨30, 1⟩) (meth := k30m1) (c := k30c1) (by decide +kernel) rfl rfl rfl (by decide +kernel)
set_option maxRecDepth 65536 in
theorem w_c57 : (Jvm.Cond.code ({ cls := "java/util/ArrayList", name := "elementData", desc := "(I)Ljava/lang/Object;" } : Jvm.MethodName) jdk_38_method_18_code (2 : Nat) (Option.some (Jvm.ClassFile.FieldType.object "java/lang/Object"))).before args0 about1 = true := code_word (m := ⟨17, 4⟩) (meth := k17m4) (c := k17c4) (by decide +kernel) rfl rfl rfl (by decide +kernel)
set_option maxRecDepth 65536 in
theorem w_c58 : (Jvm.Cond.code ({ cls := "com/example/atomic_lock/atomiclock/backend/HeldLock", name := "name", desc := "()Ljava/lang/String;" } : Jvm.MethodName) prog_11_method_6_code (1 : Nat) (Option.some (Jvm.ClassFile.FieldType.object "java/lang/String"))).before args0 about1 = true := code_word (m := ⟨19, 2⟩) (meth := k19m2) (c := k19c2) (by decide +kernel) rfl rfl rfl (by decide +kernel)
def codes1 : List Jvm.Cond := [Jvm.Cond.code x code maxLocals ret, Jvm.Cond.code ({ cls := "com/example/atomic_lock/atomiclock/backend/HeldLockDescribePinLaw", name := "name", desc := "(ICCC)Ljava/lang/String;" } : Jvm.MethodName) method_3_code (4 : Nat) (Option.some (Jvm.ClassFile.FieldType.object "java/lang/String")), Jvm.Cond.code ({ cls := "java/lang/String", name := "<init>", desc := "([C)V" } : Jvm.MethodName) jdk_42_method_3_code (2 : Nat) (Option.none : Option Jvm.ClassFile.FieldType), Jvm.Cond.code ({ cls := "java/lang/String", name := "<init>", desc := "([CIILjava/lang/Void;)V" } : Jvm.MethodName) jdk_42_method_149_code (6 : Nat) (Option.none : Option Jvm.ClassFile.FieldType), Jvm.Cond.code ({ cls := "java/lang/Object", name := "<init>", desc := "()V" } : Jvm.MethodName) object_method_1_code (1 : Nat) (Option.none : Option Jvm.ClassFile.FieldType), Jvm.Cond.code ({ cls := "java/lang/StringUTF16", name := "compress", desc := "([CII)[B" } : Jvm.MethodName) jdk_52_method_16_code (6 : Nat) (Option.some (Jvm.ClassFile.FieldType.array Jvm.ClassFile.FieldType.byte)), Jvm.Cond.code ({ cls := "java/lang/StringUTF16", name := "compress", desc := "([CI[BII)I" } : Jvm.MethodName) jdk_52_method_21_code (7 : Nat) (Option.some Jvm.ClassFile.FieldType.int), Jvm.Cond.code ({ cls := "java/lang/StringUTF16", name := "coderFromArrayLen", desc := "([BI)B" } : Jvm.MethodName) jdk_52_method_15_code (2 : Nat) (Option.some Jvm.ClassFile.FieldType.byte), Jvm.Cond.code ({ cls := "java/util/ArrayList", name := "<init>", desc := "()V" } : Jvm.MethodName) jdk_38_method_2_code (1 : Nat) (Option.none : Option Jvm.ClassFile.FieldType), Jvm.Cond.code ({ cls := "java/util/AbstractList", name := "<init>", desc := "()V" } : Jvm.MethodName) jdk_39_method_1_code (1 : Nat) (Option.none : Option Jvm.ClassFile.FieldType), Jvm.Cond.code ({ cls := "java/util/AbstractCollection", name := "<init>", desc := "()V" } : Jvm.MethodName) jdk_22_method_1_code (1 : Nat) (Option.none : Option Jvm.ClassFile.FieldType), Jvm.Cond.code ({ cls := "com/example/atomic_lock/atomiclock/backend/HeldLock", name := "describe", desc := "(Ljava/util/List;)Ljava/lang/String;" } : Jvm.MethodName) prog_11_method_2_code (1 : Nat) (Option.some (Jvm.ClassFile.FieldType.object "java/lang/String")), Jvm.Cond.code ({ cls := "java/util/ArrayList", name := "size", desc := "()I" } : Jvm.MethodName) jdk_38_method_8_code (1 : Nat) (Option.some Jvm.ClassFile.FieldType.int), Jvm.Cond.code ({ cls := "java/lang/StringBuilder", name := "<init>", desc := "()V" } : Jvm.MethodName) jdk_67_method_1_code (1 : Nat) (Option.none : Option Jvm.ClassFile.FieldType), Jvm.Cond.code ({ cls := "java/lang/AbstractStringBuilder", name := "<init>", desc := "(I)V" } : Jvm.MethodName) jdk_68_method_2_code (2 : Nat) (Option.none : Option Jvm.ClassFile.FieldType), Jvm.Cond.code ({ cls := "java/lang/StringBuilder", name := "append", desc := "(I)Ljava/lang/StringBuilder;" } : Jvm.MethodName) jdk_67_method_15_code (2 : Nat) (Option.some (Jvm.ClassFile.FieldType.object "java/lang/StringBuilder")), Jvm.Cond.code ({ cls := "java/lang/AbstractStringBuilder", name := "append", desc := "(I)Ljava/lang/AbstractStringBuilder;" } : Jvm.MethodName) jdk_68_method_32_code (4 : Nat) (Option.some (Jvm.ClassFile.FieldType.object "java/lang/AbstractStringBuilder")), Jvm.Cond.code ({ cls := "java/lang/Integer", name := "stringSize", desc := "(I)I" } : Jvm.MethodName) jdk_33_method_13_code (4 : Nat) (Option.some Jvm.ClassFile.FieldType.int), Jvm.Cond.code ({ cls := "java/lang/AbstractStringBuilder", name := "ensureCapacityInternal", desc := "(I)V" } : Jvm.MethodName) jdk_68_method_9_code (3 : Nat) (Option.none : Option Jvm.ClassFile.FieldType), Jvm.Cond.code ({ cls := "java/lang/AbstractStringBuilder", name := "isLatin1", desc := "()Z" } : Jvm.MethodName) jdk_68_method_68_code (1 : Nat) (Option.some Jvm.ClassFile.FieldType.boolean), Jvm.Cond.code ({ cls := "java/lang/Integer", name := "getChars", desc := "(II[B)I" } : Jvm.MethodName) jdk_33_method_12_code (7 : Nat) (Option.some Jvm.ClassFile.FieldType.int), Jvm.Cond.code ({ cls := "java/lang/StringBuilder", name := "append", desc := "(Ljava/lang/String;)Ljava/lang/StringBuilder;" } : Jvm.MethodName) jdk_67_method_7_code (2 : Nat) (Option.some (Jvm.ClassFile.FieldType.object "java/lang/StringBuilder")), Jvm.Cond.code ({ cls := "java/lang/AbstractStringBuilder", name := "append", desc := "(Ljava/lang/String;)Ljava/lang/AbstractStringBuilder;" } : Jvm.MethodName) jdk_68_method_22_code (3 : Nat) (Option.some (Jvm.ClassFile.FieldType.object "java/lang/AbstractStringBuilder")), Jvm.Cond.code ({ cls := "java/lang/String", name := "length", desc := "()I" } : Jvm.MethodName) jdk_42_method_54_code (1 : Nat) (Option.some Jvm.ClassFile.FieldType.int), Jvm.Cond.code ({ cls := "java/lang/String", name := "coder", desc := "()B" } : Jvm.MethodName) jdk_42_method_152_code (1 : Nat) (Option.some Jvm.ClassFile.FieldType.byte), Jvm.Cond.code ({ cls := "java/lang/AbstractStringBuilder", name := "putStringAt", desc := "(ILjava/lang/String;)V" } : Jvm.MethodName) jdk_68_method_73_code (3 : Nat) (Option.none : Option Jvm.ClassFile.FieldType), Jvm.Cond.code ({ cls := "java/lang/AbstractStringBuilder", name := "inflateIfNeededFor", desc := "(Ljava/lang/String;)V" } : Jvm.MethodName) jdk_68_method_71_code (2 : Nat) (Option.none : Option Jvm.ClassFile.FieldType), Jvm.Cond.code ({ cls := "java/lang/String", name := "getBytes", desc := "([BIB)V" } : Jvm.MethodName) jdk_42_method_147_code (4 : Nat) (Option.none : Option Jvm.ClassFile.FieldType), Jvm.Cond.code ({ cls := "java/lang/StringBuilder", name := "toString", desc := "()Ljava/lang/String;" } : Jvm.MethodName) jdk_67_method_42_code (1 : Nat) (Option.some (Jvm.ClassFile.FieldType.object "java/lang/String")), Jvm.Cond.code ({ cls := "java/lang/String", name := "<init>", desc := "(Ljava/lang/StringBuilder;)V" } : Jvm.MethodName) jdk_42_method_53_code (2 : Nat) (Option.none : Option Jvm.ClassFile.FieldType), Jvm.Cond.code ({ cls := "java/lang/String", name := "<init>", desc := "(Ljava/lang/AbstractStringBuilder;Ljava/lang/Void;)V" } : Jvm.MethodName) jdk_42_method_150_code (5 : Nat) (Option.none : Option Jvm.ClassFile.FieldType), Jvm.Cond.code ({ cls := "java/lang/AbstractStringBuilder", name := "getValue", desc := "()[B" } : Jvm.MethodName) jdk_68_method_64_code (1 : Nat) (Option.some (Jvm.ClassFile.FieldType.array Jvm.ClassFile.FieldType.byte)), Jvm.Cond.code ({ cls := "java/lang/StringBuilder", name := "length", desc := "()I" } : Jvm.MethodName) jdk_67_method_93_code (1 : Nat) (Option.some Jvm.ClassFile.FieldType.int), Jvm.Cond.code ({ cls := "java/lang/AbstractStringBuilder", name := "length", desc := "()I" } : Jvm.MethodName) jdk_68_method_6_code (1 : Nat) (Option.some Jvm.ClassFile.FieldType.int), Jvm.Cond.code ({ cls := "java/util/Arrays", name := "copyOfRange", desc := "([BII)[B" } : Jvm.MethodName) jdk_65_method_132_code (3 : Nat) (Option.some (Jvm.ClassFile.FieldType.array Jvm.ClassFile.FieldType.byte)), Jvm.Cond.code ({ cls := "java/util/Arrays", name := "copyOfRangeByte", desc := "([BII)[B" } : Jvm.MethodName) jdk_65_method_133_code (5 : Nat) (Option.some (Jvm.ClassFile.FieldType.array Jvm.ClassFile.FieldType.byte)), Jvm.Cond.code ({ cls := "java/util/Arrays", name := "checkLength", desc := "(II)V" } : Jvm.MethodName) jdk_65_method_131_code (2 : Nat) (Option.none : Option Jvm.ClassFile.FieldType), Jvm.Cond.code ({ cls := "java/lang/Math", name := "min", desc := "(II)I" } : Jvm.MethodName) jdk_29_method_69_code (2 : Nat) (Option.some Jvm.ClassFile.FieldType.int), Jvm.Cond.code ({ cls := "com/example/atomic_lock/atomiclock/backend/HeldLockDescribePinLaw", name := "at", desc := "(Ljava/lang/String;IC)Z" } : Jvm.MethodName) method_2_code (3 : Nat) (Option.some Jvm.ClassFile.FieldType.boolean), Jvm.Cond.code ({ cls := "java/lang/String", name := "charAt", desc := "(I)C" } : Jvm.MethodName) jdk_42_method_56_code (2 : Nat) (Option.some Jvm.ClassFile.FieldType.char), Jvm.Cond.code ({ cls := "java/lang/String", name := "isLatin1", desc := "()Z" } : Jvm.MethodName) jdk_42_method_154_code (1 : Nat) (Option.some Jvm.ClassFile.FieldType.boolean), Jvm.Cond.code ({ cls := "java/lang/StringLatin1", name := "charAt", desc := "([BI)C" } : Jvm.MethodName) jdk_43_method_2_code (2 : Nat) (Option.some Jvm.ClassFile.FieldType.char), Jvm.Cond.code ({ cls := "java/lang/String", name := "checkIndex", desc := "(II)V" } : Jvm.MethodName) jdk_42_method_155_code (2 : Nat) (Option.none : Option Jvm.ClassFile.FieldType), Jvm.Cond.code ({ cls := "jdk/internal/util/Preconditions", name := "checkIndex", desc := "(IILjava/util/function/BiFunction;)I" } : Jvm.MethodName) jdk_41_method_11_code (3 : Nat) (Option.some Jvm.ClassFile.FieldType.int), Jvm.Cond.code ({ cls := "com/example/atomic_lock/atomiclock/backend/HeldLock", name := "<init>", desc := "(Ljava/lang/String;Ljava/lang/String;Ljava/util/OptionalLong;)V" } : Jvm.MethodName) prog_11_method_1_code (4 : Nat) (Option.none : Option Jvm.ClassFile.FieldType), Jvm.Cond.code ({ cls := "java/lang/Record", name := "<init>", desc := "()V" } : Jvm.MethodName) jdk_30_method_1_code (1 : Nat) (Option.none : Option Jvm.ClassFile.FieldType), Jvm.Cond.code ({ cls := "java/util/ArrayList", name := "add", desc := "(Ljava/lang/Object;)Z" } : Jvm.MethodName) jdk_38_method_25_code (2 : Nat) (Option.some Jvm.ClassFile.FieldType.boolean), Jvm.Cond.code ({ cls := "java/util/ArrayList", name := "add", desc := "(Ljava/lang/Object;[Ljava/lang/Object;I)V" } : Jvm.MethodName) jdk_38_method_24_code (4 : Nat) (Option.none : Option Jvm.ClassFile.FieldType), Jvm.Cond.code ({ cls := "java/util/ArrayList", name := "grow", desc := "()[Ljava/lang/Object;" } : Jvm.MethodName) jdk_38_method_7_code (1 : Nat) (Option.some (Jvm.ClassFile.FieldType.array (Jvm.ClassFile.FieldType.object "java/lang/Object"))), Jvm.Cond.code ({ cls := "java/util/ArrayList", name := "grow", desc := "(I)[Ljava/lang/Object;" } : Jvm.MethodName) jdk_38_method_6_code (4 : Nat) (Option.some (Jvm.ClassFile.FieldType.array (Jvm.ClassFile.FieldType.object "java/lang/Object"))), Jvm.Cond.code ({ cls := "java/lang/Math", name := "max", desc := "(II)I" } : Jvm.MethodName) jdk_29_method_65_code (2 : Nat) (Option.some Jvm.ClassFile.FieldType.int), Jvm.Cond.code ({ cls := "java/lang/String", name := "valueOf", desc := "(C)Ljava/lang/String;" } : Jvm.MethodName) jdk_42_method_139_code (1 : Nat) (Option.some (Jvm.ClassFile.FieldType.object "java/lang/String")), Jvm.Cond.code ({ cls := "java/lang/StringLatin1", name := "canEncode", desc := "(C)Z" } : Jvm.MethodName) jdk_43_method_3_code (1 : Nat) (Option.some Jvm.ClassFile.FieldType.boolean), Jvm.Cond.code ({ cls := "java/lang/StringLatin1", name := "toBytes", desc := "(C)[B" } : Jvm.MethodName) jdk_43_method_46_code (1 : Nat) (Option.some (Jvm.ClassFile.FieldType.array Jvm.ClassFile.FieldType.byte)), Jvm.Cond.code ({ cls := "java/lang/String", name := "<init>", desc := "([BB)V" } : Jvm.MethodName) jdk_42_method_151_code (3 : Nat) (Option.none : Option Jvm.ClassFile.FieldType), Jvm.Cond.code ({ cls := "java/util/ArrayList", name := "get", desc := "(I)Ljava/lang/Object;" } : Jvm.MethodName) jdk_38_method_20_code (2 : Nat) (Option.some (Jvm.ClassFile.FieldType.object "java/lang/Object")), Jvm.Cond.code ({ cls := "java/util/Objects", name := "checkIndex", desc := "(II)I" } : Jvm.MethodName) jdk_31_method_17_code (2 : Nat) (Option.some Jvm.ClassFile.FieldType.int), Jvm.Cond.code ({ cls := "java/util/ArrayList", name := "elementData", desc := "(I)Ljava/lang/Object;" } : Jvm.MethodName) jdk_38_method_18_code (2 : Nat) (Option.some (Jvm.ClassFile.FieldType.object "java/lang/Object")), Jvm.Cond.code ({ cls := "com/example/atomic_lock/atomiclock/backend/HeldLock", name := "name", desc := "()Ljava/lang/String;" } : Jvm.MethodName) prog_11_method_6_code (1 : Nat) (Option.some (Jvm.ClassFile.FieldType.object "java/lang/String"))]
set_option maxRecDepth 65536 in
theorem codes_eq : words1.filter isCode = codes1 := rfl
theorem w_codes : ∀ c ∈ words1.filter isCode, c.before args0 about1 = true := by
  rw [codes_eq]
  intro c hc
  simp only [codes1, List.mem_cons, List.not_mem_nil, or_false] at hc
  rcases hc with rfl | rfl | rfl | rfl | rfl | rfl | rfl | rfl | rfl | rfl | rfl | rfl | rfl | rfl | rfl | rfl | rfl | rfl | rfl | rfl | rfl | rfl | rfl | rfl | rfl | rfl | rfl | rfl | rfl | rfl | rfl | rfl | rfl | rfl | rfl | rfl | rfl | rfl | rfl | rfl | rfl | rfl | rfl | rfl | rfl | rfl | rfl | rfl | rfl | rfl | rfl | rfl | rfl | rfl | rfl | rfl | rfl | rfl | rfl
  · exact w_c0
  · exact w_c1
  · exact w_c2
  · exact w_c3
  · exact w_c4
  · exact w_c5
  · exact w_c6
  · exact w_c7
  · exact w_c8
  · exact w_c9
  · exact w_c10
  · exact w_c11
  · exact w_c12
  · exact w_c13
  · exact w_c14
  · exact w_c15
  · exact w_c16
  · exact w_c17
  · exact w_c18
  · exact w_c19
  · exact w_c20
  · exact w_c21
  · exact w_c22
  · exact w_c23
  · exact w_c24
  · exact w_c25
  · exact w_c26
  · exact w_c27
  · exact w_c28
  · exact w_c29
  · exact w_c30
  · exact w_c31
  · exact w_c32
  · exact w_c33
  · exact w_c34
  · exact w_c35
  · exact w_c36
  · exact w_c37
  · exact w_c38
  · exact w_c39
  · exact w_c40
  · exact w_c41
  · exact w_c42
  · exact w_c43
  · exact w_c44
  · exact w_c45
  · exact w_c46
  · exact w_c47
  · exact w_c48
  · exact w_c49
  · exact w_c50
  · exact w_c51
  · exact w_c52
  · exact w_c53
  · exact w_c54
  · exact w_c55
  · exact w_c56
  · exact w_c57
  · exact w_c58
set_option maxRecDepth 65536 in
theorem w_t1 : (words1.take 24).all (fun c => isCode c || c.before args0 about1) = true := by decide +kernel
set_option maxRecDepth 65536 in
theorem w_t2 : ((words1.drop 24).take 24).all (fun c => isCode c || c.before args0 about1) = true := by decide +kernel
set_option maxRecDepth 65536 in
theorem w_t3 : (((words1.drop 24).drop 24).take 24).all (fun c => isCode c || c.before args0 about1) = true := by decide +kernel
set_option maxRecDepth 65536 in
theorem w_t4 : ((((words1.drop 24).drop 24).drop 24).take 24).all (fun c => isCode c || c.before args0 about1) = true := by decide +kernel
set_option maxRecDepth 65536 in
theorem w_t5 : (((((words1.drop 24).drop 24).drop 24).drop 24).take 24).all (fun c => isCode c || c.before args0 about1) = true := by decide +kernel
set_option maxRecDepth 65536 in
theorem w_t6 : ((((((words1.drop 24).drop 24).drop 24).drop 24).drop 24).take 24).all (fun c => isCode c || c.before args0 about1) = true := by decide +kernel
set_option maxRecDepth 65536 in
theorem w_t7 : (((((((words1.drop 24).drop 24).drop 24).drop 24).drop 24).drop 24).take 24).all (fun c => isCode c || c.before args0 about1) = true := by decide +kernel
set_option maxRecDepth 65536 in
theorem w_t8 : ((((((((words1.drop 24).drop 24).drop 24).drop 24).drop 24).drop 24).drop 24).take 24).all (fun c => isCode c || c.before args0 about1) = true := by decide +kernel
set_option maxRecDepth 65536 in
theorem w_t9 : (((((((((words1.drop 24).drop 24).drop 24).drop 24).drop 24).drop 24).drop 24).drop 24).take 24).all (fun c => isCode c || c.before args0 about1) = true := by decide +kernel
set_option maxRecDepth 65536 in
theorem w_t10 : ((((((((((words1.drop 24).drop 24).drop 24).drop 24).drop 24).drop 24).drop 24).drop 24).drop 24).take 24).all (fun c => isCode c || c.before args0 about1) = true := by decide +kernel
set_option maxRecDepth 65536 in
theorem w_t11 : (((((((((((words1.drop 24).drop 24).drop 24).drop 24).drop 24).drop 24).drop 24).drop 24).drop 24).drop 24).take 24).all (fun c => isCode c || c.before args0 about1) = true := by decide +kernel
set_option maxRecDepth 65536 in
theorem w_t12 : ((((((((((((words1.drop 24).drop 24).drop 24).drop 24).drop 24).drop 24).drop 24).drop 24).drop 24).drop 24).drop 24).take 24).all (fun c => isCode c || c.before args0 about1) = true := by decide +kernel
set_option maxRecDepth 65536 in
theorem w_t13 : (((((((((((((words1.drop 24).drop 24).drop 24).drop 24).drop 24).drop 24).drop 24).drop 24).drop 24).drop 24).drop 24).drop 24).take 24).all (fun c => isCode c || c.before args0 about1) = true := by decide +kernel
set_option maxRecDepth 65536 in
theorem w_t14 : (((((((((((((words1.drop 24).drop 24).drop 24).drop 24).drop 24).drop 24).drop 24).drop 24).drop 24).drop 24).drop 24).drop 24).drop 24).all (fun c => isCode c || c.before args0 about1) = true := by decide +kernel
theorem w_tables : (allAtoms (Jvm.Cond.code x code maxLocals ret :: tables_1)).before args0 about1 = true := by
  rw [allAtoms_all]
  show words1.all (fun c => c.before args0 about1) = true
  refine all_split ?_ w_codes
  rw [← List.take_append_drop 24 words1, List.all_append, w_t1, ← List.take_append_drop 24 (words1.drop 24), List.all_append, w_t2, ← List.take_append_drop 24 ((words1.drop 24).drop 24), List.all_append, w_t3, ← List.take_append_drop 24 (((words1.drop 24).drop 24).drop 24), List.all_append, w_t4, ← List.take_append_drop 24 ((((words1.drop 24).drop 24).drop 24).drop 24), List.all_append, w_t5, ← List.take_append_drop 24 (((((words1.drop 24).drop 24).drop 24).drop 24).drop 24), List.all_append, w_t6, ← List.take_append_drop 24 ((((((words1.drop 24).drop 24).drop 24).drop 24).drop 24).drop 24), List.all_append, w_t7, ← List.take_append_drop 24 (((((((words1.drop 24).drop 24).drop 24).drop 24).drop 24).drop 24).drop 24), List.all_append, w_t8, ← List.take_append_drop 24 ((((((((words1.drop 24).drop 24).drop 24).drop 24).drop 24).drop 24).drop 24).drop 24), List.all_append, w_t9, ← List.take_append_drop 24 (((((((((words1.drop 24).drop 24).drop 24).drop 24).drop 24).drop 24).drop 24).drop 24).drop 24), List.all_append, w_t10, ← List.take_append_drop 24 ((((((((((words1.drop 24).drop 24).drop 24).drop 24).drop 24).drop 24).drop 24).drop 24).drop 24).drop 24), List.all_append, w_t11, ← List.take_append_drop 24 (((((((((((words1.drop 24).drop 24).drop 24).drop 24).drop 24).drop 24).drop 24).drop 24).drop 24).drop 24).drop 24), List.all_append, w_t12, ← List.take_append_drop 24 ((((((((((((words1.drop 24).drop 24).drop 24).drop 24).drop 24).drop 24).drop 24).drop 24).drop 24).drop 24).drop 24).drop 24), List.all_append, w_t13, w_t14]
  rfl
set_option maxRecDepth 65536 in
theorem w_rest : rest_1_c.before args0 about1 = true := by decide +kernel
set_option maxRecDepth 65536 in
theorem w_case : (Jvm.Cond.and given_1 narrow_1).before args0 about1 = true := by decide +kernel
set_option maxRecDepth 65536 in
theorem w_consts : constsHeld consts_1 about1 := Jvm.Lit.constsHeldB_iff.mp (by decide +kernel)
theorem w_applies : (headSpec (Jvm.Cond.code x code maxLocals ret :: tables_1) room_1).applies x e0.platform about1 = true :=
  (Spec.applies_iff w_frames).mpr ⟨w_running, w_runnable, w_alone, w_named, w_hears, w_ripe, w_room, w_tables⟩
theorem atStart : AtStart classFile x code maxLocals ret World_1 tables_1 room_1 Calls_1 rest_1 Pre_1 launch0 p0 e0 about1 theMethod args0 below0 :=
  ⟨lists_1, trivial, launch0.admits_env _ _ _, launch0.least_env, fairChoices_fair.cas, fairChoices_fair.clock, w_frames, w_args, w_heap, w_applies, ⟨w_consts, trivial⟩, w_rest, w_case⟩
end start1
theorem witness_1 : WitnessClaimed_1 := ⟨start1.p0, start1.e0, start1.about1, start1.theMethod, start1.args0, start1.below0, start1.atStart⟩
end Jvm.Pilot.@@N@@
