import JvmDerived
import JvmDerived.Pilot.@@N@@Statement
import JvmDerived.Pilot.@@N@@Code
set_option linter.unusedVariables false
set_option linter.unusedSimpArgs false

namespace Jvm.Pilot.@@N@@
open Jvm Jvm.ClassFile Sem Op Lib Jvm.Free Jvm.Stand Jvm.LawKit Jvm.RoadKit Bundle Jvm.Pilot.@@N@@.Jvm.D

/-- no literal's text is asked -/
def Hd (Z : State) (ms : List Addr) (vm : Vm) (h : Heap) : Prop := True
theorem Hd.warm {Z b : State} {ms : List Addr} {h : Heap} {vm' : Vm} (J : Hd Z ms b.vm h) (q : b.WarmedH vm') : Hd Z ms vm' h := trivial
theorem Hd.ext {Z : State} {ms : List Addr} {h h' : Heap} {vm : Vm} (J : Hd Z ms vm h) (E : Ext h h') : Hd Z ms vm h' := trivial
theorem Hd.add {Z : State} {ms : List Addr} {h h' : Heap} {vm : Vm} {x : Addr} (J : Hd Z ms vm h) (E : Ext h h') (q : x = h.size) (q' : x < h'.size) : Hd Z (x :: ms) vm h' := trivial
theorem Hd.wr {Z : State} {ms : List Addr} {h h' : Heap} {vm : Vm} {x : Addr} {sl : Nat} {v : Value} (J : Hd Z ms vm h) (W : Wr h h' x sl v) (q : True) : Hd Z ms vm h' := trivial
theorem Hd.sub {Z : State} {ms ms' : List Addr} {h : Heap} {vm : Vm} (J : Hd Z ms vm h) (q : ∀ x ∈ ms', x ∈ ms) : Hd Z ms' vm h := trivial
theorem Hd.keep {Z : State} {ms ws : List Addr} {h h' : Heap} {vm : Vm} (J : Hd Z ms vm h) (K : Keep h h' ws) (q : ∀ x ∈ ws, True) : Hd Z ms vm h' := trivial

section OwnKit
variable {p : Program} {l : Launch} {e : Env} {R : Room} {s b : State} {m : MethodId} {args : Array Value} {below : List Frame} {meth : Method} {c : Code} {T T' : State} {locs : List Loc} {cells slots : Nat} {Z : State} {a0 : Array Value} {h h' : Heap} {K N : Nat} {Q : Option Value → Vm → Heap → List Loc → Prop} {g g' : JFrame} {ms : List Addr}
/-- from the frame g over T the body comes to its end, and there Q holds (the end in the wide sense: literals may have been loaded) -/
def Go (p : Program) (e : Env) (s : State) (below : List Frame) (K N : Nat) (J : Vm → Heap → Prop) (Q : Option Value → Vm → Heap → List Loc → Prop) (T : State) (g : JFrame) : Prop :=
  ∃ s₂ o, Steps p.tables e below (T.setTop g) s₂ ∧ s₂.status = .running ∧ Ended s₂ below o ∧ ∃ v L, o = .returned v ∧ Q v s₂.vm s₂.heap L ∧ J s₂.vm s₂.heap ∧ ReturnedEndW s o s₂ L K N
theorem Go.of {J : Vm → Heap → Prop} (st : ∀ t, Steps p.tables e below (T'.setTop g') t → Steps p.tables e below (T.setTop g) t) (q : Go p e s below K N J Q T' g') : Go p e s below K N J Q T g := by
  obtain ⟨s2, o, h1, r⟩ := q
  exact ⟨s2, o, st _ h1, r⟩
/-- two roads meet again: what comes behind is proved once -/
theorem Go.join {J : Vm → Heap → Prop} {α : Type} (P : α → Prop) (f : α → JFrame) (A : ∀ x, P x → Go p e s below K N J Q T (f x)) (C : (∀ x, P x → Go p e s below K N J Q T (f x)) → Go p e s below K N J Q T g) : Go p e s below K N J Q T g := C A
/-- the tables at hand: b is the start s with warmer tables, their new pairs booked below the heap's size -/
def Bs (s b : State) (h : Heap) : Prop := ∃ vm k, b = s.setVm vm ∧ s.Since vm k ∧ k ≤ h.size
theorem Bs.start (s : State) (h : Heap) : Bs s s h := ⟨s.vm, 0, rfl, (State.WarmedH.refl s).since 0, Nat.zero_le _⟩
theorem Bs.mono (B : Bs s b h) (q : h.size ≤ h'.size) : Bs s b h' := by
  obtain ⟨vm, k, e, hS, hk⟩ := B
  exact ⟨vm, k, e, hS, Nat.le_trans hk q⟩
theorem rend_mono {t : State} {o : Outcome} {L : List Loc} {k n k' n' : Nat} (q : ReturnedEndW s o t L k n) (hk : k ≤ k') (hn : n ≤ n') : ReturnedEndW s o t L k' n' := ⟨q.1, q.2.1, q.2.2.1, q.2.2.2.mono hk hn⟩
theorem own_retI (X : Stand p l e R s m args below meth c T locs cells slots) (hx : p.tables.exec = Jvm.exec) {pc : Nat} {Ls : Array Slot} {z : Int32} {rest : List Value} (hret : meth.sig.returnType = some .int) (hd : decode c.code pc = .ok (.ireturn, 1)) {fs : List Frame}
    (hl : ∀ (f : JFrame) (acts : List Action), f.method = m → f.locked = none → f.entered = [] → (doReturn e (T.setTop f) acts (some (.int z))).1 = T.setFrames fs) : Steps p.tables e below (T.setTop (mkF m pc Ls (.int z :: rest))) (T.setFrames fs) := by
  have hm' : T.vm.method? m = some meth := X.method'
  have hn : narrow .int (.int z) = .int z := rfl
  show Steps p.tables e below (T.setTop { method := m, pc := pc, locals := Ls, stack := _ :: rest, locked := none }) _
  jvm_step X.here [X.here.top, hx, hd, hm', hret, hn]
  first | (intro acts; rw [hl _ acts rfl rfl rfl]) | rw [hl _ _ rfl rfl rfl]
  exact Steps.refl _
theorem Go.retI (X : Stand p l e R b m args below meth c T locs cells slots) (hx : p.tables.exec = Jvm.exec) (hlk : meth.locks = false) (B : Bs s b h) (J : Hd Z ms b.vm h) (eT : T.heap = h) {pc : Nat} {Ls : Array Slot} {z : Int32} {rest : List Value} (hret : meth.sig.returnType = some .int) (hd : decode c.code pc = .ok (.ireturn, 1)) (hK : cells ≤ K) (hN : slots ≤ N)
    (hQ : ∀ vm, b.WarmedH vm → Q (some (.int z)) vm h locs) : Go p e s below K N (Hd Z ms) Q T (mkF m pc Ls (.int z :: rest)) := by
  obtain ⟨vm, k, rfl, hS, hk⟩ := B
  subst eT
  obtain ⟨fs, hr, hrun, hended, hW⟩ := X.leaveW hS hk (v := some (.int z)) (fun q => by rw [hret] at q; cases q) hlk
  exact ⟨_, _, own_retI X hx hret hd hr, hrun, hended, _, _, rfl, hQ _ X.warmed, J.warm X.warmed, rend_mono hW hK hN⟩
theorem Go.retN (X : Stand p l e R b m args below meth c T locs cells slots) (hx : p.tables.exec = Jvm.exec) (hlk : meth.locks = false) (B : Bs s b h) (J : Hd Z ms b.vm h) (eT : T.heap = h) {pc : Nat} {Ls : Array Slot} {z z' : Int32} {t : FieldType} {rest : List Value} (hret : meth.sig.returnType = some t) (ht : t = .boolean ∨ t = .byte ∨ t = .char ∨ t = .short) (hd : decode c.code pc = .ok (.ireturn, 1)) (hz : nar t z = z') (hK : cells ≤ K) (hN : slots ≤ N)
    (hQ : ∀ vm, b.WarmedH vm → Q (some (.int z')) vm h locs) : Go p e s below K N (Hd Z ms) Q T (mkF m pc Ls (.int z :: rest)) := by
  obtain ⟨vm, k, rfl, hS, hk⟩ := B
  subst eT hz
  obtain ⟨fs, hr, hrun, hended, hW⟩ := X.leaveW hS hk (v := some (.int (nar t z))) (fun q => by rw [hret] at q; cases q) hlk
  exact ⟨_, _, Jvm.RoadKit.retN X hx hret ht hd hr, hrun, hended, _, _, rfl, hQ _ X.warmed, J.warm X.warmed, rend_mono hW hK hN⟩
theorem Go.retA (X : Stand p l e R b m args below meth c T locs cells slots) (hx : p.tables.exec = Jvm.exec) (hlk : meth.locks = false) (B : Bs s b h) (J : Hd Z ms b.vm h) (eT : T.heap = h) {pc : Nat} {Ls : Array Slot} {w : Value} {t : FieldType} {rest : List Value} (hret : meth.sig.returnType = some t) (ht : t.isReference = true) (hw : w.isRef = true) (hd : decode c.code pc = .ok (.areturn, 1)) (hK : cells ≤ K) (hN : slots ≤ N)
    (hQ : ∀ vm, b.WarmedH vm → Q (some w) vm h locs) : Go p e s below K N (Hd Z ms) Q T (mkF m pc Ls (w :: rest)) := by
  obtain ⟨vm, k, rfl, hS, hk⟩ := B
  subst eT
  obtain ⟨fs, hr, hrun, hended, hW⟩ := X.leaveW hS hk (v := some w) (fun q => by rw [hret] at q; cases q) hlk
  have hn : narrow t w = w := by
    cases t <;> first | (cases ht; done) | (cases w <;> first | rfl | (cases hw; done))
  exact ⟨_, _, retOut X hx hret hn (Or.inr (Or.inr (Or.inr (Or.inr ⟨rfl, ht, hw⟩)))) hd hr, hrun, hended, _, _, rfl, hQ _ X.warmed, J.warm X.warmed, rend_mono hW hK hN⟩
theorem Go.retV (X : Stand p l e R b m args below meth c T locs cells slots) (hx : p.tables.exec = Jvm.exec) (hlk : meth.locks = false) (B : Bs s b h) (J : Hd Z ms b.vm h) (eT : T.heap = h) {pc : Nat} {Ls : Array Slot} (hret : meth.sig.returnType = none) (hd : decode c.code pc = .ok (.return_, 1)) (hK : cells ≤ K) (hN : slots ≤ N)
    (hQ : ∀ vm, b.WarmedH vm → Q none vm h locs) : Go p e s below K N (Hd Z ms) Q T (mkF m pc Ls []) := by
  obtain ⟨vm, k, rfl, hS, hk⟩ := B
  subst eT
  obtain ⟨fs, hr, hrun, hended, hW⟩ := X.leaveW hS hk (v := none) (fun _ => rfl) hlk
  exact ⟨_, _, X.returnOut hx hret hd hr, hrun, hended, _, _, rfl, hQ _ X.warmed, J.warm X.warmed, rend_mono hW hK hN⟩
/-- a body's contract in this family -/
def Con (l : Launch) (Z : State) (ms : List Addr) (y : MethodName) (bytes : ByteArray) (maxL : Nat) (ret : Option FieldType) (ws : List Jvm.Cond) (rm : Room) (as' : Array Value) (h : Heap) (Q : Option Value → Vm → Heap → List Loc → Prop) : Prop :=
  MetFree l y (head1 (Jvm.Cond.code y bytes maxL ret :: ws) rm) (fun a U => a = as' ∧ Z.Warmed39 U.vm ∧ U.heap = h ∧ Hd Z ms U.vm U.heap) (fun _ _ _ _ _ => True) (fun _ U o U' => ∃ v L, o = .returned v ∧ Q v U'.vm U'.heap L ∧ Hd Z ms U'.vm U'.heap ∧ ReturnedEndW U o U' L rm.cells rm.slots)
/-- what a walk knows of the body that it walks -/
def Cx (Z : State) (p : Program) (b : State) (m : MethodId) (meth : Method) (c : Code) (own : String) (bytes : ByteArray) (ml : Nat) (nm : String) (rt : Option FieldType) : Prop :=
  p.tables.exec = Jvm.exec ∧ Z.Warmed39 b.vm ∧ b.vm.findClass own = some m.cls ∧ c.code = bytes ∧ c.maxLocals = ml ∧ meth.name = nm ∧ meth.sig.returnType = rt ∧ meth.locks = false
theorem Con.mk {y : MethodName} {bytes : ByteArray} {maxL : Nat} {ret : Option FieldType} {ws : List Jvm.Cond} {rm : Room} {as' : Array Value} (hp : plainFor y = true)
    (body : ∀ p e s m below meth c s₁, Cx Z p s m meth c y.cls bytes maxL y.name ret → Stand p l e rm s m as' below meth c s₁ [] 0 0 → s₁.heap = h → s.heap = h → Hd Z ms s.vm h → Bs s s h → s.methodNamed? y = some m → Go p e s below rm.cells rm.slots (Hd Z ms) Q s₁ (entryFrame m as' maxL)) : Con l Z ms y bytes maxL ret ws rm as' h Q := by
  refine MetFree.of_bodySF hp hisR ?_
  intro p e s m args below meth c s₁ Bd hml0 hP hK
  obtain ⟨rfl, hZ, hh, hJ⟩ := hP
  exact body p e s m below meth c s₁ ⟨Bd.exec, hZ, findClass_of_methodNamed Bd.named, Bd.bytes, hml0, (name_of_methodNamed Bd.named Bd.method).1, Bd.returns, Bd.notSynchronized⟩ (Stand.of_body Bd) (by rw [← hh, Bd.state]; rfl) hh (hh ▸ hJ) (Bs.start s h) Bd.named
section Calls
variable {y : MethodName} {bytes mybytes : ByteArray} {maxL ml : Nat} {ret rt : Option FieldType} {rm : Room} {own nm : String} {index W : Nat} {argsL rest : List Value} {Q' : Option Value → Vm → Heap → List Loc → Prop}
/-- two roads meet again behind calls that leave the heap as it was -/
theorem Go.joinC {Jq : Vm → Heap → Prop} {α : Type} {n : Nat} (Cc : Cx Z p b m meth c own mybytes ml nm rt) (X : Stand p l e R b m args below meth c T locs cells slots) (hJ : Hd Z ms b.vm h) (hN : Fr n locs) (P : α → Prop) (f : α → JFrame)
    (A : ∀ x b' T' locs', Cx Z p b' m meth c own mybytes ml nm rt → Stand p l e R b' m args below meth c T' locs' cells slots → T'.heap = h → Bs s b' h → Hd Z ms b'.vm h → Fr n locs' → P x → Go p e s below K N Jq Q T' (f x))
    (C : (∀ x b' T' locs', Cx Z p b' m meth c own mybytes ml nm rt → Stand p l e R b' m args below meth c T' locs' cells slots → T'.heap = h → Bs s b' h → Hd Z ms b'.vm h → Fr n locs' → P x → Go p e s below K N Jq Q T' (f x)) → Go p e s below K N Jq Q T g) : Go p e s below K N Jq Q T g := C A
/-- what a call leaves: the tables at hand may be others -/
def Called (Z : State) (ms : List Addr) (p : Program) (l : Launch) (e : Env) (R : Room) (s : State) (m : MethodId) (args : Array Value) (below : List Frame) (meth : Method) (c : Code) (own : String) (mybytes : ByteArray) (ml : Nat) (nm : String) (rt : Option FieldType) (locs : List Loc) (cells slots : Nat) (h : Heap) (Q' : Option Value → Vm → Heap → List Loc → Prop) (T : State) (g : JFrame) (len : Nat) (rest : List Value) : Prop :=
  ∃ v b' T' h' L, T'.heap = h' ∧ Cx Z p b' m meth c own mybytes ml nm rt ∧ Stand p l e R b' m args below meth c T' (locs ++ L) cells slots ∧ Bs s b' h' ∧ Hd Z ms b'.vm h' ∧ h.size ≤ h'.size ∧ Q' v b'.vm h' L ∧ ∀ t, Steps p.tables e below (T'.setTop { g with pc := g.pc + len, stack := v.toList ++ rest }) t → Steps p.tables e below (T.setTop g) t
theorem own_back {as' : Array Value} {len : Nat} (hM : Con l Z ms y bytes maxL ret [] rm as' h Q') (hZ : Z.Warmed39 b.vm) (J : Hd Z ms b.vm h) (wc : (Jvm.Cond.code y bytes maxL ret).before a0 Z = true) (wz : (Jvm.Cond.initialized y.cls).before a0 Z = true) (hf : rm.frames + 1 ≤ R.frames) (hl : W + (maxL + 11) + rm.locals ≤ R.locals) :
    BackS l R p e below b args y len W (fun A a => a = as' ∧ A.U.heap = h ∧ A.cells + rm.cells ≤ R.cells ∧ A.slots + rm.slots ≤ R.slots)
      (fun A _ v B => ∃ L, (Q' v B.U.vm B.U.heap L ∧ Hd Z ms B.U.vm B.U.heap) ∧ B.locs = A.locs ++ L ∧ B.cells = A.cells + rm.cells ∧ B.slots = A.slots + rm.slots) :=
  BackS.of_freeW (bytes := bytes) (maxL := maxL) (ret := ret) (E := fun _ _ o t L k n => k = rm.cells ∧ n = rm.slots ∧ ∃ v, o = .returned v ∧ Q' v t.vm t.heap L ∧ Hd Z ms t.vm t.heap) hM hf hl
    (fun m meth c A a Y hp => have hU : Z.Warmed39 A.U.vm := wtrans hZ Y.warmed
      ⟨by show (Jvm.Cond.and _ .tt).before a A.U = true; rw [Cond.before_and, mv hU wc]; rfl, mv hU wc, mv hU wz, hp.2.2.1, hp.2.2.2⟩)
    (fun m meth c A a g mk Y hp => ⟨hp.1, wtrans hZ Y.warmed, hp.2.1, by show Hd Z ms A.U.vm A.U.heap; rw [hp.2.1]; exact J.warm Y.warmed⟩) (fun _ _ _ _ _ _ _ _ _ => trivial)
    (fun _ _ _ _ ⟨v, L, h1, h2, h3, h4⟩ => ⟨L, _, _, h4, rfl, rfl, v, h1, h2, h3⟩)
    (fun m meth c A a g mk v t L k n Y hp _ _ ⟨e1, e2, v', e3, e4, e5⟩ => by cases e3; subst e1 e2; exact ⟨L, ⟨e4, e5⟩, rfl, rfl, rfl⟩)
theorem own_done {len : Nat} {v : Option Value} {B : Pt} (Cc : Cx Z p b m meth c own mybytes ml nm rt) (hB : Bs s b h) (eT : T.heap = h) (X1 : Stand p l e R (b.setVm B.U.vm) m args below meth c B.U B.locs B.cells B.slots) (hS : b.Since B.U.vm B.U.heap.size) (hg : T.heap.size ≤ B.U.heap.size)
    (hq : ∃ L, (Q' v B.U.vm B.U.heap L ∧ Hd Z ms B.U.vm B.U.heap) ∧ B.locs = locs ++ L ∧ B.cells = cells + rm.cells ∧ B.slots = slots + rm.slots) (st : ∀ t, Steps p.tables e below (B.U.setTop { g with pc := g.pc + len, stack := v.toList ++ rest }) t → Steps p.tables e below (T.setTop g) t) :
    Called Z ms p l e R s m args below meth c own mybytes ml nm rt locs (cells + rm.cells) (slots + rm.slots) h Q' T g len rest := by
  obtain ⟨T1, L1, k1, n1⟩ := B
  obtain ⟨Lc, ⟨hQ, hJ⟩, l1, y1, z1⟩ := hq
  dsimp only [Pt.U, Pt.locs, Pt.cells, Pt.slots] at X1 l1 y1 z1 st hQ hJ hS hg
  subst l1 y1 z1
  obtain ⟨vm, k, rfl, hS0, hk⟩ := hB
  obtain ⟨hx, hZ, hown, r⟩ := Cc
  exact ⟨v, (s.setVm vm).setVm T1.vm, T1, _, Lc, rfl, ⟨hx, State.Warmed39.trans hZ hS.1, (hS.1.alike.findClass _ _).trans hown, r⟩, X1, ⟨T1.vm, T1.heap.size, rfl, hS0.trans hS (Nat.le_trans hk (eT ▸ hg)), Nat.le_refl _⟩, hJ, eT ▸ hg, hQ, st⟩
theorem own_callS (Cc : Cx Z p b m meth c own mybytes ml nm rt) (hB : Bs s b h) (J : Hd Z ms b.vm h) (X : Stand p l e R b m args below meth c T locs cells slots)
    (wl : (Jvm.Cond.methodLink own index y).before a0 Z = true) (wst : (Jvm.Cond.static y).before a0 Z = true) (wi : (Jvm.Cond.initialized y.cls).before a0 Z = true) (wc : (Jvm.Cond.code y bytes maxL ret).before a0 Z = true) (hy : y.cls ≠ "java/lang/invoke/MethodHandle" ∧ y.cls ≠ "java/lang/invoke/VarHandle")
    (hM : Con l Z ms y bytes maxL ret [] rm argsL.toArray h Q') (eT : T.heap = h) (hg : g.method = m) (hsize : g.locals.size = c.maxLocals) (hlen : ∀ sig, parseMethodDescriptor y.desc = some sig → argsL.length = sig.parameters.length) (hstack : g.stack = argsL.reverse ++ rest)
    (hW : 2 * g.monitorRoom + (rest.map fun v => v.category).sum ≤ W) (hdg : decode c.code g.pc = .ok (.invokestatic index, 3)) (hf : rm.frames + 1 ≤ R.frames) (hl : W + (maxL + 11) + rm.locals ≤ R.locals) (hc : cells + rm.cells ≤ R.cells) (hs : slots + rm.slots ≤ R.slots) :
    Called Z ms p l e R s m args below meth c own mybytes ml nm rt locs (cells + rm.cells) (slots + rm.slots) h Q' T g 3 rest := by
  obtain ⟨hx, hZ, hown, -⟩ := id Cc
  obtain ⟨v, _, B, -, X1, hS, hgr, hq, st⟩ := callSS X hx (y := y) hown (mvT hZ wl) (mvT hZ wst) (mvT hZ wi) (mvT hZ wc) hy (own_back (W := W) hM hZ J wc wi hf hl) hg hsize (argsL := argsL) (rest := rest) hlen hstack hW hdg (fun _ _ => ⟨rfl, eT, hc, hs⟩)
  exact own_done Cc hB eT X1 hS hgr hq (fun _ hr => st.trans hr)
theorem own_callI (Cc : Cx Z p b m meth c own mybytes ml nm rt) (hB : Bs s b h) (J : Hd Z ms b.vm h) (X : Stand p l e R b m args below meth c T locs cells slots) (hin : y.name = "<init>")
    (wl : (Jvm.Cond.methodLink own index y).before a0 Z = true) (wim : (Jvm.Cond.instanceMethod y).before a0 Z = true) (wi : (Jvm.Cond.initialized y.cls).before a0 Z = true) (wc : (Jvm.Cond.code y bytes maxL none).before a0 Z = true) (hy : y.cls ≠ "java/lang/invoke/MethodHandle" ∧ y.cls ≠ "java/lang/invoke/VarHandle")
    {a : Addr} (hM : Con l Z ms y bytes maxL none [] rm (Value.ref a :: argsL).toArray h Q') (eT : T.heap = h) (hg : g.method = m) (hsize : g.locals.size = c.maxLocals) (hlen : ∀ sig, parseMethodDescriptor y.desc = some sig → argsL.length = sig.parameters.length) (hstack : g.stack = argsL.reverse ++ .ref a :: rest)
    (hW : 2 * g.monitorRoom + (rest.map fun v => v.category).sum ≤ W) (hdg : decode c.code g.pc = .ok (.invokespecial index, 3)) (hf : rm.frames + 1 ≤ R.frames) (hl : W + (maxL + 11) + rm.locals ≤ R.locals) (hc : cells + rm.cells ≤ R.cells) (hs : slots + rm.slots ≤ R.slots) :
    Called Z ms p l e R s m args below meth c own mybytes ml nm rt locs (cells + rm.cells) (slots + rm.slots) h Q' T g 3 rest := by
  obtain ⟨hx, hZ, hown, -⟩ := id Cc
  obtain ⟨v, _, B, -, X1, hS, hgr, hq, st⟩ := X.specialBackS hx (y := y) hin hown (mvT hZ wl) (mvT hZ wim) (mvT hZ wc) hy (own_back (W := W) hM hZ J wc wi hf hl) hg hsize (Steps.refl _) (a := a) (argsL := argsL) (rest := rest) hlen hstack hW hdg (fun _ _ => ⟨rfl, eT, hc, hs⟩)
  exact own_done Cc hB eT X1 hS hgr hq (fun _ hr => st.trans hr)
theorem own_callV (Cc : Cx Z p b m meth c own mybytes ml nm rt) (hB : Bs s b h) (J : Hd Z ms b.vm h) (X : Stand p l e R b m args below meth c T locs cells slots) {z : MethodName} {C : String}
    (wl : (Jvm.Cond.methodLink own index y).before a0 Z = true) (wd : (Jvm.Cond.declares y).before a0 Z = true) (nf : NotFace b y) (wsel : (Jvm.Cond.selects C y z).before a0 Z = true) (wim : (Jvm.Cond.instanceMethod z).before a0 Z = true) (wi : (Jvm.Cond.initialized z.cls).before a0 Z = true) (wc : (Jvm.Cond.code z bytes maxL ret).before a0 Z = true) (hy : y.cls ≠ "java/lang/invoke/MethodHandle" ∧ y.cls ≠ "java/lang/invoke/VarHandle")
    {a : Addr} (E : Exa Z h a C) (hM : Con l Z ms z bytes maxL ret [] rm (Value.ref a :: argsL).toArray h Q') (eT : T.heap = h) (hg : g.method = m) (hsize : g.locals.size = c.maxLocals) (hlen : ∀ sig, parseMethodDescriptor y.desc = some sig → argsL.length = sig.parameters.length) (hstack : g.stack = argsL.reverse ++ .ref a :: rest)
    (hW : 2 * g.monitorRoom + (rest.map fun v => v.category).sum ≤ W) (hdg : decode c.code g.pc = .ok (.invokevirtual index, 3)) (hf : rm.frames + 1 ≤ R.frames) (hl : W + (maxL + 11) + rm.locals ≤ R.locals) (hc : cells + rm.cells ≤ R.cells) (hs : slots + rm.slots ≤ R.slots) :
    Called Z ms p l e R s m args below meth c own mybytes ml nm rt locs (cells + rm.cells) (slots + rm.slots) h Q' T g 3 rest := by
  obtain ⟨hx, hZ, hown, -⟩ := id Cc
  obtain ⟨cq, kq, qa, qb, qc⟩ := isOf hZ eT E
  obtain ⟨v, _, B, -, X1, hS, hgr, hq, st⟩ := X.virtualBackS hx (y := y) (z := z) hown (mvT hZ wl) (mvT hZ wd) nf (mvT hZ wsel) (mvT hZ wim) hy (own_back (W := W) hM hZ J wc wi hf hl) qa qc hg hsize (Steps.refl _) (argsL := argsL) (rest := rest) hlen hstack hW hdg (fun _ _ => ⟨rfl, eT, hc, hs⟩)
  exact own_done Cc hB eT X1 hS hgr hq (fun _ hr => st.trans hr)
/-- an inherited method, by the class that the entry names -/
theorem own_callU (Cc : Cx Z p b m meth c own mybytes ml nm rt) (hB : Bs s b h) (J : Hd Z ms b.vm h) (X : Stand p l e R b m args below meth c T locs cells slots) {z : MethodName} {C owner : String}
    (wl : (Jvm.Cond.methodLink own index y).before a0 Z = true) (wsm : (Jvm.Cond.sameMethod y.cls owner y.name y.desc).before a0 Z = true) (wd : (Jvm.Cond.declares ⟨owner, y.name, y.desc⟩).before a0 Z = true) (wsel : (Jvm.Cond.selects C y z).before a0 Z = true) (wim : (Jvm.Cond.instanceMethod z).before a0 Z = true) (wi : (Jvm.Cond.initialized z.cls).before a0 Z = true) (wc : (Jvm.Cond.code z bytes maxL ret).before a0 Z = true) (ho : owner ≠ "java/lang/invoke/MethodHandle" ∧ owner ≠ "java/lang/invoke/VarHandle")
    {a : Addr} (E : Exa Z h a C) (hM : Con l Z ms z bytes maxL ret [] rm (Value.ref a :: argsL).toArray h Q') (eT : T.heap = h) (hg : g.method = m) (hsize : g.locals.size = c.maxLocals) (hlen : ∀ sig, parseMethodDescriptor y.desc = some sig → argsL.length = sig.parameters.length) (hstack : g.stack = argsL.reverse ++ .ref a :: rest)
    (hW : 2 * g.monitorRoom + (rest.map fun v => v.category).sum ≤ W) (hdg : decode c.code g.pc = .ok (.invokevirtual index, 3)) (hf : rm.frames + 1 ≤ R.frames) (hl : W + (maxL + 11) + rm.locals ≤ R.locals) (hc : cells + rm.cells ≤ R.cells) (hs : slots + rm.slots ≤ R.slots) :
    Called Z ms p l e R s m args below meth c own mybytes ml nm rt locs (cells + rm.cells) (slots + rm.slots) h Q' T g 3 rest := by
  obtain ⟨hx, hZ, hown, -⟩ := id Cc
  obtain ⟨cq, kq, qa, qb, qc⟩ := isOf hZ eT E
  obtain ⟨v, _, B, -, X1, hS, hgr, hq, st⟩ := X.virtualBackUpS hx (x := y) (y := z) hown (mvT hZ wl) (mvT hZ wsm) (mvT hZ wd) ho (mvT hZ wsel) (mvT hZ wim) (own_back (W := W) hM hZ J wc wi hf hl) qa qc hg hsize (Steps.refl _) (argsL := argsL) (rest := rest) hlen hstack hW hdg (fun _ _ => ⟨rfl, eT, hc, hs⟩)
  exact own_done Cc hB eT X1 hS hgr hq (fun _ hr => st.trans hr)
/-- through an interface -/
theorem own_callF (Cc : Cx Z p b m meth c own mybytes ml nm rt) (hB : Bs s b h) (J : Hd Z ms b.vm h) (X : Stand p l e R b m args below meth c T locs cells slots) {z : MethodName} {C : String} {count : Nat}
    (wl : (Jvm.Cond.methodLink own index y).before a0 Z = true) (wd : (Jvm.Cond.declares y).before a0 Z = true) (wfc : (Jvm.Cond.interfaceMethod y.cls y.cls y.name y.desc).before a0 Z = true) (hfc : ((Jvm.Cond.interfaceMethod y.cls y.cls y.name y.desc).onTables && (Jvm.Cond.interfaceMethod y.cls y.cls y.name y.desc).keepsFace) = true) (wsel : (Jvm.Cond.selects C y z).before a0 Z = true) (wim : (Jvm.Cond.instanceMethod z).before a0 Z = true) (wpb : (Jvm.Cond.publicMethod z).before a0 Z = true) (wun : (Jvm.Cond.unhidden C y.name y.desc).before a0 Z = true) (wca : (Jvm.Cond.castable C y.cls).before a0 Z = true)
    (wi : (Jvm.Cond.initialized z.cls).before a0 Z = true) (wc : (Jvm.Cond.code z bytes maxL ret).before a0 Z = true) (hy : y.cls ≠ "java/lang/invoke/MethodHandle" ∧ y.cls ≠ "java/lang/invoke/VarHandle")
    {a : Addr} (E : Exa Z h a C) (hM : Con l Z ms z bytes maxL ret [] rm (Value.ref a :: argsL).toArray h Q') (eT : T.heap = h) (hg : g.method = m) (hsize : g.locals.size = c.maxLocals) (hlen : ∀ sig, parseMethodDescriptor y.desc = some sig → argsL.length = sig.parameters.length) (hstack : g.stack = argsL.reverse ++ .ref a :: rest)
    (hW : 2 * g.monitorRoom + (rest.map fun v => v.category).sum ≤ W) (hdg : decode c.code g.pc = .ok (.invokeinterface index count, 5)) (hf : rm.frames + 1 ≤ R.frames) (hl : W + (maxL + 11) + rm.locals ≤ R.locals) (hc : cells + rm.cells ≤ R.cells) (hs : slots + rm.slots ≤ R.slots) :
    Called Z ms p l e R s m args below meth c own mybytes ml nm rt locs (cells + rm.cells) (slots + rm.slots) h Q' T g 5 rest := by
  obtain ⟨hx, hZ, hown, -⟩ := id Cc
  obtain ⟨cq, kq, qa, qb, qc⟩ := isOf hZ eT E
  obtain ⟨v, _, B, -, X1, hS, hgr, hq, st⟩ := X.interfaceBackS hx (xi := y) (y := z) hown (mvT hZ wl) (mvT hZ wd) (mvT hZ wfc hfc) (mvT hZ wsel) (mvT hZ wim) (mvT hZ wpb) (mvT hZ wun) (mvT hZ wca) hy (own_back (W := W) hM hZ J wc wi hf hl) qa qb qc hg hsize (Steps.refl _) (argsL := argsL) (rest := rest) hlen hstack hW hdg (fun _ _ => ⟨rfl, eT, hc, hs⟩)
  exact own_done Cc hB eT X1 hS hgr hq (fun _ hr => st.trans hr)
/-- super.m() -/
theorem own_callP (Cc : Cx Z p b m meth c own mybytes ml nm rt) (hB : Bs s b h) (J : Hd Z ms b.vm h) (X : Stand p l e R b m args below meth c T locs cells slots) {C : String}
    (wl : (Jvm.Cond.methodLink own index y).before a0 Z = true) (wsm : (Jvm.Cond.sameMethod y.cls y.cls y.name y.desc).before a0 Z = true) (wim : (Jvm.Cond.instanceMethod y).before a0 Z = true) (wsu : (Jvm.Cond.superclass own y.cls).before a0 Z = true) (hn : y.name ≠ "<init>") (wi : (Jvm.Cond.initialized y.cls).before a0 Z = true) (wc : (Jvm.Cond.code y bytes maxL ret).before a0 Z = true)
    {a : Addr} (E : Exa Z h a C) (hM : Con l Z ms y bytes maxL ret [] rm (Value.ref a :: argsL).toArray h Q') (eT : T.heap = h) (hg : g.method = m) (hsize : g.locals.size = c.maxLocals) (hlen : ∀ sig, parseMethodDescriptor y.desc = some sig → argsL.length = sig.parameters.length) (hstack : g.stack = argsL.reverse ++ .ref a :: rest)
    (hW : 2 * g.monitorRoom + (rest.map fun v => v.category).sum ≤ W) (hdg : decode c.code g.pc = .ok (.invokespecial index, 3)) (hf : rm.frames + 1 ≤ R.frames) (hl : W + (maxL + 11) + rm.locals ≤ R.locals) (hc : cells + rm.cells ≤ R.cells) (hs : slots + rm.slots ≤ R.slots) :
    Called Z ms p l e R s m args below meth c own mybytes ml nm rt locs (cells + rm.cells) (slots + rm.slots) h Q' T g 3 rest := by
  obtain ⟨hx, hZ, hown, -⟩ := id Cc
  obtain ⟨v, _, B, -, X1, hS, hgr, hq, st⟩ := superBackS X hx hZ (y := y) hown wl wsm wim wsu hn (own_back (W := W) hM hZ J wc wi hf hl) eT (Ins.self E) hg hsize wc (argsL := argsL) (rest := rest) hlen hstack hW hdg (fun _ _ => ⟨rfl, eT, hc, hs⟩)
  exact own_done Cc hB eT X1 hS hgr hq (fun _ hr => st.trans hr)
/-- a private method -/
theorem own_callR (Cc : Cx Z p b m meth c own mybytes ml nm rt) (hB : Bs s b h) (J : Hd Z ms b.vm h) (X : Stand p l e R b m args below meth c T locs cells slots) {C : String}
    (wl : (Jvm.Cond.methodLink own index y).before a0 Z = true) (wim : (Jvm.Cond.instanceMethod y).before a0 Z = true) (wsel : (Jvm.Cond.selects y.cls y y).before a0 Z = true) (wpr : (Jvm.Cond.privateMethod y).before a0 Z = true) (wi : (Jvm.Cond.initialized y.cls).before a0 Z = true) (wc : (Jvm.Cond.code y bytes maxL ret).before a0 Z = true) (hy : y.cls ≠ "java/lang/invoke/MethodHandle" ∧ y.cls ≠ "java/lang/invoke/VarHandle")
    {a : Addr} (E : Exa Z h a C) (hM : Con l Z ms y bytes maxL ret [] rm (Value.ref a :: argsL).toArray h Q') (eT : T.heap = h) (hg : g.method = m) (hsize : g.locals.size = c.maxLocals) (hlen : ∀ sig, parseMethodDescriptor y.desc = some sig → argsL.length = sig.parameters.length) (hstack : g.stack = argsL.reverse ++ .ref a :: rest)
    (hW : 2 * g.monitorRoom + (rest.map fun v => v.category).sum ≤ W) (hdg : decode c.code g.pc = .ok (.invokevirtual index, 3)) (hf : rm.frames + 1 ≤ R.frames) (hl : W + (maxL + 11) + rm.locals ≤ R.locals) (hc : cells + rm.cells ≤ R.cells) (hs : slots + rm.slots ≤ R.slots) :
    Called Z ms p l e R s m args below meth c own mybytes ml nm rt locs (cells + rm.cells) (slots + rm.slots) h Q' T g 3 rest := by
  obtain ⟨hx, hZ, hown, -⟩ := id Cc
  obtain ⟨cl, q1, q2⟩ := E.cell
  obtain ⟨v, _, B, -, X1, hS, hgr, hq, st⟩ := X.privateBackS hx (y := y) hown (mvT hZ wl) (mvT hZ wim) (mvT hZ wsel) (Cond.privateMethod_at (mvP hZ wpr (args := #[]))) (mvT hZ wc) hy (own_back (W := W) hM hZ J wc wi hf hl) hg hsize (Steps.refl _) (a := a) (by rw [eT]; exact q1) q2 (argsL := argsL) (rest := rest) hlen hstack hW hdg (fun _ _ => ⟨rfl, eT, hc, hs⟩)
  exact own_done Cc hB eT X1 hS hgr hq (fun _ hr => st.trans hr)
/-- a nest-mate's constructor -/
theorem own_callN (Cc : Cx Z p b m meth c own mybytes ml nm rt) (hB : Bs s b h) (J : Hd Z ms b.vm h) (X : Stand p l e R b m args below meth c T locs cells slots) (hin : y.name = "<init>") {host : String}
    (wl : (Jvm.Cond.methodLinkNest own index y host).before a0 Z = true) (wim : (Jvm.Cond.instanceMethod y).before a0 Z = true) (wi : (Jvm.Cond.initialized y.cls).before a0 Z = true) (wc : (Jvm.Cond.code y bytes maxL none).before a0 Z = true) (hy : y.cls ≠ "java/lang/invoke/MethodHandle" ∧ y.cls ≠ "java/lang/invoke/VarHandle")
    {a : Addr} (hM : Con l Z ms y bytes maxL none [] rm (Value.ref a :: argsL).toArray h Q') (eT : T.heap = h) (hg : g.method = m) (hsize : g.locals.size = c.maxLocals) (hlen : ∀ sig, parseMethodDescriptor y.desc = some sig → argsL.length = sig.parameters.length) (hstack : g.stack = argsL.reverse ++ .ref a :: rest)
    (hW : 2 * g.monitorRoom + (rest.map fun v => v.category).sum ≤ W) (hdg : decode c.code g.pc = .ok (.invokespecial index, 3)) (hf : rm.frames + 1 ≤ R.frames) (hl : W + (maxL + 11) + rm.locals ≤ R.locals) (hc : cells + rm.cells ≤ R.cells) (hs : slots + rm.slots ≤ R.slots) :
    Called Z ms p l e R s m args below meth c own mybytes ml nm rt locs (cells + rm.cells) (slots + rm.slots) h Q' T g 3 rest := by
  obtain ⟨hx, hZ, hown, -⟩ := id Cc
  have wl' : (Jvm.Cond.methodLinkNest own index y host).before args b = true := (Cond.methodLinkNest_wide hZ wl :)
  obtain ⟨v, _, B, -, X1, hS, hgr, hq, st⟩ := X.specialBackNestS hx (y := y) hin hown wl' (mvT hZ wim) (mvT hZ wc) hy (own_back (W := W) hM hZ J wc wi hf hl) hg hsize (Steps.refl _) (a := a) (argsL := argsL) (rest := rest) hlen hstack hW hdg (fun _ _ => ⟨rfl, eT, hc, hs⟩)
  exact own_done Cc hB eT X1 hS hgr hq (fun _ hr => st.trans hr)
end Calls
theorem own_nf {s : State} {args : Array Value} {C : String} {y z : MethodName} (hsel : (Jvm.Cond.selects C z z).before args s = true) (hc : z.cls = y.cls) : NotFace s y := fun r0 h0 => by
  obtain ⟨c2, r2, m2, -, -, q3, -⟩ := Cond.selects_spec hsel
  obtain ⟨kr, k1, k2⟩ := notFace_of_selects hsel m2 q3
  have a := findClass_of_methodNamed h0
  have b := findClass_of_methodNamed q3
  rw [hc] at b
  have e : r0.cls = m2.cls := Option.some.inj (a.symm.trans b)
  exact ⟨kr, by rw [e]; exact k1, k2⟩
theorem own_sm {y : MethodName} (wim : (Jvm.Cond.instanceMethod y).before a0 Z = true) (nf : NotFace Z y) (hy : y.cls ≠ "java/lang/invoke/MethodHandle" ∧ y.cls ≠ "java/lang/invoke/VarHandle") : (Jvm.Cond.sameMethod y.cls y.cls y.name y.desc).before a0 Z = true := by
  obtain ⟨mk, methM, hnamed, -⟩ := Cond.instanceMethod_spec wim
  obtain ⟨kr, k1, k2⟩ := nf _ hnamed
  have hf := State.methodFound?_of_named hnamed hy
  have hc := findClass_of_methodNamed hnamed
  have hn' : Z.methodNamed? ⟨y.cls, y.name, y.desc⟩ = some mk := hnamed
  simp [Cond.before, Cond.holds, Cond.value, hc, hf, hn', k1, k2]
theorem own_decl {y : MethodName} {bytes : ByteArray} {maxL : Nat} {ret : Option FieldType} (wim : (Jvm.Cond.instanceMethod y).before a0 Z = true) (wc : (Jvm.Cond.code y bytes maxL ret).before a0 Z = true) : (Jvm.Cond.declares y).before a0 Z = true := by
  obtain ⟨mk, methM, hnamed, hmethM, hst, -⟩ := Cond.instanceMethod_spec wim
  obtain ⟨m2, cM, q1, -, -, -, -, -, -, hsig⟩ := Cond.code_spec hnamed wc
  cases hmethM.symm.trans q1
  simp [Cond.before, Cond.holds, Cond.value, hnamed, hmethM, hst, hsig]
theorem keep_ext (q : Keep h h' []) : Ext h h' := ⟨q.1, fun a c r => q.2.1 a c r (fun z => nomatch z)⟩
theorem ext_keep (q : Ext h h') : Keep h h' [] := (Keep.refl h []).ext q
theorem own_ole {n0 : Nat} (O : Old Z n0 h) : n0 ≤ h.size := O.1 ▸ O.2.1
/-- an equation of the case's words -/
theorem own_eqI {t : Term} {n : Int32} (q : (Jvm.Cond.eq t (.int n)).value args s none s [] = some true) : t.eval args s none [] s = some (.int n) := by
  cases ha : t.eval args s none [] s with
  | none => simp [Cond.value, ha] at q
  | some x => cases x <;> simp [Cond.value, Term.eval, ha] at q ⊢; exact q
end OwnKit

/-- a literal is loaded; what it says isn't asked -/
theorem own_ldcS {p : Program} {l : Launch} {e : Env} {R : Room} {s b : State} {m : MethodId} {args : Array Value} {below : List Frame} {meth : Method} {c : Code} {T : State} {locs : List Loc} {cells slots : Nat} {Z : State} {a0 : Array Value} {h : Heap} {ms : List Addr} {own nm text : String} {mybytes : ByteArray} {ml index n : Nat} {rt : Option FieldType} {g : JFrame}
    (Cc : Cx Z p b m meth c own mybytes ml nm rt) (hB : Bs s b h) (J : Hd Z ms b.vm h) (X : Stand p l e R b m args below meth c T locs cells slots) (w : (Jvm.Cond.stringLink own index text).before a0 Z = true) (wS : ∀ a ∈ Bundle.stringAtoms, a.before a0 Z = true) (eT : T.heap = h) (hg : g.method = m) (hd : decode c.code g.pc = .ok (.ldc index, 2)) (hn : 4 * text.toList.length ≤ n) (hbig : n ≤ 536870912) (hc : cells + 2 ≤ R.cells) (hl : slots + (n + 4) ≤ R.slots) :
    ∃ (a : Addr) (b' T' : State) (h' : Heap), T'.heap = h' ∧ Cx Z p b' m meth c own mybytes ml nm rt ∧ Stand p l e R b' m args below meth c T' locs (cells + 2) (slots + (n + 4)) ∧ Bs s b' h' ∧ Hd Z ms b'.vm h' ∧ Ext h h' ∧ ∀ t, Steps p.tables e below (T'.setTop { g with pc := g.pc + 2, stack := .ref a :: g.stack }) t → Steps p.tables e below (T.setTop g) t := by
  obtain ⟨vm, k, rfl, hS, hk⟩ := hB
  obtain ⟨hx, hZ, hown, r⟩ := Cc
  obtain ⟨a, T', h', k1, X', e', E, hS', hk', hZ', hown', st⟩ := ldcS X hx hZ hown w wS eT hS hk hg hd hn hbig hc hl
  exact ⟨a, _, T', h', e', ⟨hx, hZ', hown', r⟩, X', ⟨T'.vm, k1, rfl, hS', hk'⟩, trivial, E, st⟩
/-- the Class object of a class, as the start says -/
def Mr (Z : State) (C : String) (m : Addr) : Prop := ∃ (c : ClassId) (k : Class), Z.vm.findClass C = some c ∧ Z.vm.classes[c]? = some k ∧ k.mirror = some m
section OwnMir
variable {p : Program} {l : Launch} {e : Env} {R : Room} {s : State} {m : MethodId} {args : Array Value} {below : List Frame} {meth : Method} {c : Code} {T : State} {locs : List Loc} {cells slots : Nat} {Z : State} {a0 : Array Value} {h : Heap} {own C : String} {index : Nat} {a mr : Addr} {g : JFrame} {rest : List Value}
theorem own_gcls (X : Stand p l e R s m args below meth c T locs cells slots) (hx : p.tables.exec = Jvm.exec) (hZ : Z.Warmed39 s.vm) (hown : s.vm.findClass own = some m.cls)
    (w1 : (Jvm.Cond.methodLink own index ⟨"java/lang/Object", "getClass", "()Ljava/lang/Class;"⟩).before a0 Z = true) (w2 : (Jvm.Cond.declares ⟨"java/lang/Object", "getClass", "()Ljava/lang/Class;"⟩).before a0 Z = true) (w3 : (Jvm.Cond.noSuperclass "java/lang/Object").before a0 Z = true) (w4 : (Jvm.Cond.selects C ⟨"java/lang/Object", "getClass", "()Ljava/lang/Class;"⟩ ⟨"java/lang/Object", "getClass", "()Ljava/lang/Class;"⟩).before a0 Z = true)
    (w5 : (Jvm.Cond.instanceMethod ⟨"java/lang/Object", "getClass", "()Ljava/lang/Class;"⟩).before a0 Z = true) (w6 : (Jvm.Cond.native ⟨"java/lang/Object", "getClass", "()Ljava/lang/Class;"⟩).before a0 Z = true) (eT : T.heap = h) (E : Exa Z h a C) (M : Mr Z C mr)
    (hg : g.method = m) (hsize : g.locals.size = c.maxLocals) (hs : g.stack = .ref a :: rest) (hd : decode c.code g.pc = .ok (.invokevirtual index, 3)) (hf : 1 ≤ R.frames) {W : Nat} (hW : 2 * g.monitorRoom + (rest.map fun v => v.category).sum ≤ W) (hl : W + (nativeFrameWords "java/lang/Object" "getClass" 1 + 11) ≤ R.locals) :
    ∃ T', Stand p l e R s m args below meth c T' locs cells slots ∧ T'.heap = h ∧ ∀ target, Steps p.tables e below (T'.setTop { g with pc := g.pc + 3, stack := .ref mr :: rest }) target → Steps p.tables e below (T.setTop g) target := by
  obtain ⟨cB, kB, i1, i2, i3⟩ := isOf hZ eT E
  obtain ⟨cc, kc, m1, m2, m3⟩ := M
  rw [hZ.alike.findClass] at i1
  cases i1.symm.trans m1
  obtain ⟨k', q, ek⟩ := hZ.alike.2.2 _ _ m2
  obtain ⟨vm', X', st⟩ := X.getClassOf hx hown (mvT hZ w1) (mvT hZ w2) (nf_top (args := #[]) (mvT hZ w3)) (mvT hZ w4) (mvT hZ w5) (mvT hZ w6) (by rw [hZ.alike.findClass]; exact m1) i3 q (by rw [ek]; exact m3) hg hsize hs hd hf (by omega)
  exact ⟨_, X', eT, st⟩
theorem own_ldcM (X : Stand p l e R s m args below meth c T locs cells slots) (hx : p.tables.exec = Jvm.exec) (hZ : Z.Warmed39 s.vm) (hown : s.vm.findClass own = some m.cls) (w : (Jvm.Cond.classLink own index C).before a0 Z = true) (eT : T.heap = h) (M : Mr Z C mr) (hg : g.method = m) (hd : decode c.code g.pc = .ok (.ldc index, 2)) :
    ∃ T', Stand p l e R s m args below meth c T' locs cells slots ∧ T'.heap = h ∧ ∀ target, Steps p.tables e below (T'.setTop { g with pc := g.pc + 2, stack := .ref mr :: g.stack }) target → Steps p.tables e below (T.setTop g) target := by
  obtain ⟨cc, kc, m1, m2, m3⟩ := M
  obtain ⟨k', q, ek⟩ := hZ.alike.2.2 _ _ m2
  have f1 : s.vm.findClass C = some cc := by rw [hZ.alike.findClass]; exact m1
  have f2 : k'.mirror = some mr := by rw [ek]; exact m3
  obtain ⟨vm', X', st⟩ := X.ldcMirror hx hown (mvT hZ w) (a := mr) (by simp [Term.eval, f1, q, f2]) hg hd
  exact ⟨_, X', eT, st⟩
end OwnMir

section OwnStr
abbrev lo8 (x : Int32) : Int32 := x.toInt8.toInt32
theorem oi_toInt {i : Nat} (h : i < 2147483648) : (Int32.ofNat i).toInt = i := Int32.toInt_ofNat_small h
theorem oi_nn {i : Nat} (h : i < 2147483648) : ¬ Int32.ofNat i < 0 := by
  rw [Int32.lt_iff_toInt_lt, oi_toInt h, Int32.toInt_zero]; omega
theorem oi_nat {i : Nat} (h : i < 2147483648) : (Int32.ofNat i).toNatClampNeg = i := by
  have q := nat_of (oi_nn h)
  rw [oi_toInt h] at q; omega
theorem oi_lt {i n : Nat} (hi : i < 2147483648) (hn : n < 2147483648) (q : i < n) : Int32.ofNat i < Int32.ofNat n := by
  rw [Int32.lt_iff_toInt_lt, oi_toInt hi, oi_toInt hn]; omega
theorem oi_nlt {i n : Nat} (hi : i < 2147483648) (hn : n < 2147483648) (q : ¬ i < n) : ¬ Int32.ofNat i < Int32.ofNat n := by
  rw [Int32.lt_iff_toInt_lt, oi_toInt hi, oi_toInt hn]; omega
theorem oi_succ {i : Nat} (h : i + 1 < 2147483648) : Int32.ofNat i + (1 : Int32) = Int32.ofNat (i + 1) := by
  have q := c_iadd (Int32.ofNat i) 1
  have r := rng32 (Int32.ofNat i + 1)
  rw [oi_toInt (by omega), show (1 : Int32).toInt = 1 from rfl] at q
  apply Int32.toInt_inj.mp
  rw [oi_toInt h]; omega
theorem nar_b (x : Int32) : nar .byte (lo8 x) = lo8 x := by
  have a := c_i2b x
  have b := c_i2b (x.toInt8.toInt32)
  apply Int32.toInt_inj.mp
  show (x.toInt8.toInt32.toInt8.toInt32).toInt = x.toInt8.toInt32.toInt
  omega
theorem fits_b (x : Int32) : fits .byte (.int (lo8 x)) = true := fits_nar_byte x
theorem c_rng {x : Int32} (h0 : ¬ x < 0) (h1 : ¬ 65535 < x) : 0 ≤ x.toInt ∧ x.toInt ≤ 65535 := by
  rw [Int32.lt_iff_toInt_lt] at h0 h1
  exact ⟨by simpa using h0, by simpa using h1⟩
theorem nar_c {x : Int32} (h0 : ¬ x < 0) (h1 : ¬ 65535 < x) : nar .char x = x := by
  have a := c_rng h0 h1
  have b := c_i2c x
  apply Int32.toInt_inj.mp
  show (x.toUInt32.toUInt16.toUInt32.toInt32).toInt = x.toInt
  omega
theorem fits_c {x : Int32} (h0 : ¬ x < 0) (h1 : ¬ 65535 < x) : fits .char (.int x) = true := by
  have q := fits_nar_char x
  rwa [nar_c h0 h1] at q
theorem le255 {x : Int32} (h1 : ¬ 255 < x) : ¬ 65535 < x := by
  rw [Int32.lt_iff_toInt_lt] at h1 ⊢
  have a : (255 : Int32).toInt = 255 := by decide
  have b : (65535 : Int32).toInt = 65535 := by decide
  omega
theorem chr8 (x : Int32) : ¬ (x &&& (255 : Int32)).toUInt32.toUInt16.toUInt32.toInt32 < 0 ∧ ¬ 255 < (x &&& (255 : Int32)).toUInt32.toUInt16.toUInt32.toInt32 := by
  rw [i2c_mask]
  have q := c_and x 255 (by decide)
  have a : (255 : Int32).toInt = 255 := by decide
  rw [Int32.lt_iff_toInt_lt, Int32.lt_iff_toInt_lt, Int32.toInt_zero]
  omega
theorem own_push {Z : State} {h h' : Heap} {a : Addr} {k : ClassId} {ty : FieldType} {z j : Int32} {vs : List Value} {v dv : Value} (V : Arv Z h a k ty z vs dv) (W : Wr h h' a j.toNatClampNeg v) (hj : j.toNatClampNeg = vs.length) (hv : fits ty v = true) : Arv Z h' a k ty z (vs ++ [v]) dv := by
  obtain ⟨c, A, q1, S, q3, H, G⟩ := V.pad (pad_rep vs dv 1)
  have q := Arv.set A q1 S q3 H G hv W vs.length hj (by simp)
  simpa [List.set_append] using q
theorem getD_int (cs : List Int32) (i : Nat) : (cs.map Value.int).getD i (.int 0) = .int (cs.getD i 0) := by
  simp only [List.getD_eq_getElem?_getD, List.getElem?_map]
  cases cs[i]? <;> rfl
theorem take_push (cs : List Int32) {i : Nat} (h : i < cs.length) (f : Int32 → Value) : (cs.take i).map f ++ [f (cs.getD i 0)] = (cs.take (i + 1)).map f := by
  rw [List.take_succ_eq_append_getElem h, List.map_append, List.getD_eq_getElem?_getD, List.getElem?_eq_getElem h]; rfl
theorem mem_getD {cs : List Int32} {i : Nat} (h : i < cs.length) : cs.getD i 0 ∈ cs := by
  rw [List.getD_eq_getElem?_getD, List.getElem?_eq_getElem h]; exact List.getElem_mem h
theorem oi_inj {a b : Nat} (ha : a < 2147483648) (hb : b < 2147483648) (q : Int32.ofNat a = Int32.ofNat b) : a = b := by
  have r := congrArg Int32.toInt q
  rw [oi_toInt ha, oi_toInt hb] at r; omega
theorem oi_nil {cs : List Int32} {n : Nat} (hn : cs.length ≤ n) (q : Int32.ofNat cs.length = 0) (hs : n < 2147483648 := by decide) : cs = [] := by
  have r := oi_inj (b := 0) (by omega) (by decide) q
  exact List.eq_nil_of_length_eq_zero r
theorem asB {Z : State} {h : Heap} {t : Addr} {k : ClassId} {cs : List Int32} {dv : Value} (q : Arv Z h t k .byte (Int32.ofNat cs.length) (cs.map fun x => Value.int (lo8 x)) dv) : Arv Z h t k .byte (Int32.ofNat (cs.map lo8).length) ((cs.map lo8).map Value.int) dv := by
  rw [List.length_map, List.map_map]; exact q
theorem teq_all {b1 b2 : List Int32} {i : Nat} (hl : b1.length = b2.length) (hi : i + 0 = b1.length) (h : b1.take i = b2.take i) : b1 = b2 := by
  have e : i = b1.length := by omega
  rw [e, List.take_length, hl, List.take_length] at h; exact h
theorem teq_step {b1 b2 : List Int32} {i : Nat} (h : b1.take i = b2.take i) (h1 : i < b1.length) (h2 : i < b2.length) (q : b1.getD i 0 = b2.getD i 0) : b1.take (i + 1) = b2.take (i + 1) := by
  rw [List.getD_eq_getElem?_getD, List.getD_eq_getElem?_getD, List.getElem?_eq_getElem h1, List.getElem?_eq_getElem h2] at q
  rw [List.take_succ_eq_append_getElem h1, List.take_succ_eq_append_getElem h2, h]
  exact congrArg (fun z => b2.take i ++ [z]) q
theorem nar_z {x : Int32} (h : x = 1 ∨ x = 0) : nar .boolean x = x := by rcases h with rfl | rfl <;> decide
theorem fits_z {x : Int32} (h : x = 1 ∨ x = 0) : fits .boolean (.int x) = true := by rcases h with rfl | rfl <;> decide
theorem and3 (x : Int32) : x &&& 3 = 0 ∨ x &&& 3 = 1 ∨ x &&& 3 = 2 ∨ x &&& 3 = 3 := by
  have q := c_and x 3 (by decide)
  have a : (3 : Int32).toInt = 3 := by decide
  have r : (x &&& 3).toInt = 0 ∨ (x &&& 3).toInt = 1 ∨ (x &&& 3).toInt = 2 ∨ (x &&& 3).toInt = 3 := by omega
  rcases r with r | r | r | r
  · exact Or.inl (Int32.toInt_inj.mp r)
  · exact Or.inr (Or.inl (Int32.toInt_inj.mp r))
  · exact Or.inr (Or.inr (Or.inl (Int32.toInt_inj.mp r)))
  · exact Or.inr (Or.inr (Or.inr (Int32.toInt_inj.mp r)))
theorem rem3 (x : Int32) : (x &&& 3) % 3 = 0 ∨ (x &&& 3) % 3 = 1 ∨ (x &&& 3) % 3 = 2 := by
  rcases and3 x with r | r | r | r <;> rw [r] <;> decide
theorem lo8_inj {x y : Int32} (hx : ¬ x < 0 ∧ ¬ 255 < x) (hy : ¬ y < 0 ∧ ¬ 255 < y) (h : lo8 x = lo8 y) : x = y := by
  obtain ⟨x0, x1⟩ := hx
  obtain ⟨y0, y1⟩ := hy
  have a : (255 : Int32).toInt = 255 := by decide
  rw [Int32.lt_iff_toInt_lt, Int32.toInt_zero] at x0 y0
  rw [Int32.lt_iff_toInt_lt] at x1 y1
  have q : x.toInt8.toInt32.toInt = y.toInt8.toInt32.toInt := congrArg Int32.toInt h
  have cx := c_i2b x
  have cy := c_i2b y
  apply Int32.toInt_inj.mp
  omega
theorem q_back {q : Int32} (h : ¬ q < 0) : Int32.ofNat q.toNatClampNeg = q := by
  have a := nat_of h
  have r := rng32 q
  apply Int32.toInt_inj.mp
  rw [oi_toInt (by omega), a]
theorem own_idx {j : Int32} {n : Nat} (h : ¬ (j < 0 ∨ n ≤ j.toNatClampNeg)) : j.toNatClampNeg.toInt32 = j := q_back (fun q => h (Or.inl q))
end OwnStr

theorem own_wS (Z : State) (a0 : Array Value) (hw : ∀ d ∈ tables_1, d.before a0 Z = true) : ∀ a ∈ Bundle.stringAtoms, a.before a0 Z = true := by
  intro a ha
  simp only [Bundle.stringAtoms, List.mem_cons, List.not_mem_nil, or_false] at ha
  rcases ha with rfl | rfl | rfl | rfl | rfl | rfl | rfl
  · exact (hw _ (List.mem_of_getElem? (i := 2) rfl))
  · exact (hw _ (List.mem_of_getElem? (i := 3) rfl))
  · exact (hw _ (List.mem_of_getElem? (i := 4) rfl))
  · exact (hw _ (List.mem_of_getElem? (i := 5) rfl))
  · exact (hw _ (List.mem_of_getElem? (i := 6) rfl))
  · exact (hw _ (List.mem_of_getElem? (i := 7) rfl))
  · exact (hw _ (List.mem_of_getElem? (i := 8) rfl))

theorem pn0 : plainName "java/lang/StringLatin1" = true := by first | (simp [plainName, overriddenIn]; done) | decide +kernel
theorem d2_0 : decode jdk_43_method_3_code 0 = .ok (.iload_n 0, 1) := by decide +kernel
theorem d2_1 : decode jdk_43_method_3_code 1 = .ok (.sipush 255, 3) := by decide +kernel
theorem d2_4 : decode jdk_43_method_3_code 4 = .ok (.if_icmp .gt 7, 3) := by decide +kernel
theorem d2_7 : decode jdk_43_method_3_code 7 = .ok (.iconst 1, 1) := by decide +kernel
theorem d2_8 : decode jdk_43_method_3_code 8 = .ok (.goto 4, 3) := by decide +kernel
theorem d2_12 : decode jdk_43_method_3_code 12 = .ok (.ireturn, 1) := by decide +kernel
set_option maxRecDepth 65536 in
set_option maxHeartbeats 40000000 in
theorem rm2 (l : Launch) (Z : State) (a0 : Array Value) (hw : ∀ d ∈ tables_1, d.before a0 Z = true) (ws : List Jvm.Cond) (c1 : Int32) (ms : List Addr) (h0 : Heap) (n0 : Nat) (O0 : Old Z n0 h0) (nb : Nat) (hb0 : n0 ≤ nb) (hnb : nb ≤ h0.size) (q1 : ¬ 255 < c1) :
    Con l Z ms (⟨"java/lang/StringLatin1", "canEncode", "(C)Z"⟩ : MethodName) jdk_43_method_3_code 1 (some .boolean) ws ({ frames := 0, cells := 0, slots := 0, locals := 0 } : Room) #[(.int c1)] h0 (fun v vm h L => v = some (.int 1) ∧ Fr nb L ∧ h = h0) := by
  refine Con.mk (plainFor_of_name pn0) ?_
  intro p e s m below meth c s₁ Cc X0 e0 eb J0 B0 M0
  obtain ⟨hx, hZ, hown, hby, hml, hnm, hret, hlk⟩ := id Cc
  have N0 := Fr.nil h0.size
  have K0 := Keep.refl h0 []
  show Go p e s below _ _ _ _ s₁ (mkF m 0 #[.val (.int c1)] [])
  refine Go.of (fun _ hr => XS.iloadN X0.here hx rfl (hb hby d2_0) rfl  hr) ?_
  show Go p e s below _ _ _ _ s₁ (mkF m 1 #[.val (.int c1)] [(.int c1)])
  refine Go.of (fun _ hr => XS.sipush X0.here hx rfl (hb hby d2_1) hr) ?_
  show Go p e s below _ _ _ _ s₁ (mkF m 4 #[.val (.int c1)] [(.int (255 : Int32)), (.int c1)])
  refine Go.of (fun _ hr => XS.icmpNo X0.here hx rfl (hb hby d2_4) rfl (flt q1).2.2.1 hr) ?_
  show Go p e s below _ _ _ _ s₁ (mkF m 7 #[.val (.int c1)] [])
  refine Go.of (fun _ hr => XS.iconst X0.here hx rfl (hb hby d2_7) hr) ?_
  show Go p e s below _ _ _ _ s₁ (mkF m 8 #[.val (.int c1)] [(.int (1 : Int32))])
  refine Go.of (fun _ hr => XS.goto X0.here hx rfl (pc0 := 8) (pc' := 12) rfl (hb hby d2_8) (by decide) (by decide) hr) ?_
  show Go p e s below _ _ _ _ s₁ (mkF m 12 #[.val (.int c1)] [(.int (1 : Int32))])
  exact Go.retN X0 hx hlk B0 J0 e0 (t := .boolean) (z' := (1 : Int32)) hret (by simp) (hb hby d2_12) rfl (by decide) (by decide) (fun vm_ hw_ => ⟨rfl, (fun y hy => Nat.le_trans hnb (N0 y hy)), rfl⟩)

theorem d3_0 : decode jdk_43_method_46_code 0 = .ok (.iconst 1, 1) := by decide +kernel
theorem d3_1 : decode jdk_43_method_46_code 1 = .ok (.newarray .byte, 2) := by decide +kernel
theorem d3_3 : decode jdk_43_method_46_code 3 = .ok (.dup, 1) := by decide +kernel
theorem d3_4 : decode jdk_43_method_46_code 4 = .ok (.iconst 0, 1) := by decide +kernel
theorem d3_5 : decode jdk_43_method_46_code 5 = .ok (.iload_n 0, 1) := by decide +kernel
theorem d3_6 : decode jdk_43_method_46_code 6 = .ok (.i2b, 1) := by decide +kernel
theorem d3_7 : decode jdk_43_method_46_code 7 = .ok (.bastore, 1) := by decide +kernel
theorem d3_8 : decode jdk_43_method_46_code 8 = .ok (.areturn, 1) := by decide +kernel
set_option maxRecDepth 65536 in
set_option maxHeartbeats 40000000 in
theorem rm3 (l : Launch) (Z : State) (a0 : Array Value) (hw : ∀ d ∈ tables_1, d.before a0 Z = true) (ws : List Jvm.Cond) (c1 : Int32) (ms : List Addr) (h0 : Heap) (n0 : Nat) (O0 : Old Z n0 h0) (nb : Nat) (hb0 : n0 ≤ nb) (hnb : nb ≤ h0.size) :
    Con l Z ms (⟨"java/lang/StringLatin1", "toBytes", "(C)[B"⟩ : MethodName) jdk_43_method_46_code 1 (some (.array .byte)) ws ({ frames := 0, cells := 1, slots := 1, locals := 0 } : Room) #[(.int c1)] h0 (fun v vm h L => ∃ r k, v = some (.ref r) ∧ Fr nb L ∧ Ext h0 h ∧ h0.size ≤ r ∧ Arv Z h r k .byte 1 [.int (lo8 c1)] (.int 0)) := by
  refine Con.mk (plainFor_of_name pn0) ?_
  intro p e s m below meth c s₁ Cc X0 e0 eb J0 B0 M0
  obtain ⟨hx, hZ, hown, hby, hml, hnm, hret, hlk⟩ := id Cc
  have N0 := Fr.nil h0.size
  have K0 := Keep.refl h0 []
  show Go p e s below _ _ _ _ s₁ (mkF m 0 #[.val (.int c1)] [])
  refine Go.of (fun _ hr => XS.iconst X0.here hx rfl (hb hby d3_0) hr) ?_
  show Go p e s below _ _ _ _ s₁ (mkF m 1 #[.val (.int c1)] [(.int (1 : Int32))])
  obtain ⟨T101, h101, k101, X101, e101, E101, A101, st101⟩ := newP X0 hx hZ (hw _ (List.mem_of_getElem? (i := 4) rfl)) e0 (g := (mkF m 1 #[.val (.int c1)] [(.int (1 : Int32))])) rfl (hb hby d3_1) rfl (by decide) (cap := 1) (by decide) (by decide) (by decide) (by decide)
  obtain ⟨o101, g101⟩ : ∃ z, z = h0.size := ⟨_, rfl⟩
  rw [← g101] at A101 st101
  have V101 : Arv Z h101 o101 k101 .byte (1 : Int32) [(.int (0 : Int32))] (.int (0 : Int32)) := (Arv.new A101 (by decide)).pad (pad_rep [] (.int (0 : Int32)) 1)
  have lt101 : o101 < h101.size := A101.lt
  have J101 := J0.add E101 g101 lt101
  have B101 := B0.mono E101.1
  have O101 := O0.ext E101
  have sz101 : h0.size ≤ o101 := Nat.le_trans K0.1 (Nat.le_of_eq g101.symm)
  have fr101 : h0.size ≤ o101 := sz101
  have K101 := K0.ext E101
  refine Go.of (fun _ hr => st101 _ hr) ?_
  show Go p e s below _ _ _ _ T101 (mkF m 3 #[.val (.int c1)] [(.ref o101)])
  refine Go.of (fun _ hr => XS.dup X101.here hx rfl (hb hby d3_3) rfl rfl hr) ?_
  show Go p e s below _ _ _ _ T101 (mkF m 4 #[.val (.int c1)] [(.ref o101), (.ref o101)])
  refine Go.of (fun _ hr => XS.iconst X101.here hx rfl (hb hby d3_4) hr) ?_
  show Go p e s below _ _ _ _ T101 (mkF m 5 #[.val (.int c1)] [(.int (0 : Int32)), (.ref o101), (.ref o101)])
  refine Go.of (fun _ hr => XS.iloadN X101.here hx rfl (hb hby d3_5) rfl  hr) ?_
  show Go p e s below _ _ _ _ T101 (mkF m 6 #[.val (.int c1)] [(.int c1), (.int (0 : Int32)), (.ref o101), (.ref o101)])
  refine Go.of (fun _ hr => XS.i2b X101.here hx rfl (hb hby d3_6) rfl hr) ?_
  show Go p e s below _ _ _ _ T101 (mkF m 7 #[.val (.int c1)] [(.int (c1.toInt8.toInt32)), (.int (0 : Int32)), (.ref o101), (.ref o101)])
  obtain ⟨cl102, Ar102, q102, S102, N102_, H102, G102⟩ := id V101
  have hin102 : ¬ ((0 : Int32) < 0 ∨ cl102.slots.size ≤ ((0 : Int32)).toNatClampNeg) := inb_of S102 ⟨by decide, by decide⟩
  obtain ⟨T102, h102, X102, e102, W102, st102⟩ := stB X101 hx hZ e101 Ar102 (j := (0 : Int32)) hin102 (g := (mkF m 7 #[.val (.int c1)] [(.int (c1.toInt8.toInt32)), (.int (0 : Int32)), (.ref o101), (.ref o101)])) rfl rfl (hb hby d3_7)
  have W102' := W102
  rw [show nar .byte (c1.toInt8.toInt32) = (c1.toInt8.toInt32) from (nar_b _)] at W102'
  have V102 : Arv Z h102 o101 k101 .byte (1 : Int32) [(.int (c1.toInt8.toInt32))] (.int (0 : Int32)) := Arv.set Ar102 q102 S102 N102_ H102 G102 (fits_b _) W102' 0 rfl (by simp)
  have N102 := Fr.snoc X102 N0 fr101
  have J102 := J101.wr W102 trivial
  have B102 := B101.mono (Nat.le_of_eq W102.size.symm)
  have O102 := O101.wr W102 (Nat.le_trans (own_ole O0) fr101)
  have K102 := K101.wr W102 (Or.inr sz101)
  refine Go.of (fun _ hr => st102 _ hr) ?_
  show Go p e s below _ _ _ _ T102 (mkF m 8 #[.val (.int c1)] [(.ref o101)])
  exact Go.retA X102 hx hlk B102 (J102.sub fun x hx => (List.mem_cons_of_mem _ hx)) e102 hret rfl rfl (hb hby d3_8) (by decide) (by decide) (fun vm_ hw_ => ⟨_, _, rfl, (fun y hy => Nat.le_trans hnb (N102 y hy)), keep_ext K102, sz101, V102⟩)

theorem pn1 : plainName "java/lang/String" = true := by first | (simp [plainName, overriddenIn]; done) | decide +kernel
theorem d4_0 : decode jdk_42_method_151_code 0 = .ok (.aload_n 0, 1) := by decide +kernel
theorem d4_1 : decode jdk_42_method_151_code 1 = .ok (.invokespecial 1, 3) := by decide +kernel
theorem d4_4 : decode jdk_42_method_151_code 4 = .ok (.aload_n 0, 1) := by decide +kernel
theorem d4_5 : decode jdk_42_method_151_code 5 = .ok (.aload_n 1, 1) := by decide +kernel
theorem d4_6 : decode jdk_42_method_151_code 6 = .ok (.putfield 9, 3) := by decide +kernel
theorem d4_9 : decode jdk_42_method_151_code 9 = .ok (.aload_n 0, 1) := by decide +kernel
theorem d4_10 : decode jdk_42_method_151_code 10 = .ok (.iload_n 2, 1) := by decide +kernel
theorem d4_11 : decode jdk_42_method_151_code 11 = .ok (.putfield 15, 3) := by decide +kernel
theorem d4_14 : decode jdk_42_method_151_code 14 = .ok (.return_, 1) := by decide +kernel
set_option maxRecDepth 65536 in
set_option maxHeartbeats 40000000 in
theorem rm4 (l : Launch) (Z : State) (a0 : Array Value) (hw : ∀ d ∈ tables_1, d.before a0 Z = true) (ws : List Jvm.Cond) (a1 a2 : Addr) (u1 u2 : Value) (ms : List Addr) (h0 : Heap) (n0 : Nat) (O0 : Old Z n0 h0) (nb : Nat) (hb0 : n0 ≤ nb) (hnb : nb ≤ h0.size) (fr_a1 : nb ≤ a1) (hm_a1 : True) (E1 : Exa Z h0 a1 "java/lang/String") (F1 : Fld Z h0 a1 "java/lang/String" "value" "[B" u1) (F2 : Fld Z h0 a1 "java/lang/String" "coder" "B" u2) :
    Con l Z ms (⟨"java/lang/String", "<init>", "([BB)V"⟩ : MethodName) jdk_42_method_151_code 3 none ws ({ frames := 1, cells := 0, slots := 0, locals := 12 } : Room) #[(.ref a1), (.ref a2), (.int (0 : Int32))] h0 (fun v vm h L => v = none ∧ Fr nb L ∧ Keep h0 h [a1] ∧ Fld Z h a1 "java/lang/String" "value" "[B" (.ref a2) ∧ Fld Z h a1 "java/lang/String" "coder" "B" (.int 0)) := by
  refine Con.mk (plainFor_of_name pn1) ?_
  intro p e s m below meth c s₁ Cc X0 e0 eb J0 B0 M0
  obtain ⟨hx, hZ, hown, hby, hml, hnm, hret, hlk⟩ := id Cc
  have N0 := Fr.nil nb
  have K0 := Keep.refl h0 [a1]
  show Go p e s below _ _ _ _ s₁ (mkF m 0 #[.val (.ref a1), .val (.ref a2), .val (.int (0 : Int32))] [])
  refine Go.of (fun _ hr => XS.aloadN X0.here hx rfl (hb hby d4_0) rfl rfl hr) ?_
  show Go p e s below _ _ _ _ s₁ (mkF m 1 #[.val (.ref a1), .val (.ref a2), .val (.int (0 : Int32))] [(.ref a1)])
  obtain ⟨T101, X101, e101, st101⟩ := initO X0 hx hZ hown (hw _ (List.mem_of_getElem? (i := 25) rfl)) (hw _ (List.mem_of_getElem? (i := 26) rfl)) (hw _ (List.mem_of_getElem? (i := 27) rfl)) e0 (g := (mkF m 1 #[.val (.ref a1), .val (.ref a2), .val (.int (0 : Int32))] [(.ref a1)])) rfl (by rw [hml]; rfl) rfl (hb hby d4_1) (by decide) (W := 0) (by show 2 * 0 + _ ≤ _; exact Nat.le_of_eq rfl) (by decide)
  refine Go.of (fun _ hr => st101 _ hr) ?_
  show Go p e s below _ _ _ _ T101 (mkF m 4 #[.val (.ref a1), .val (.ref a2), .val (.int (0 : Int32))] [])
  refine Go.of (fun _ hr => XS.aloadN X101.here hx rfl (hb hby d4_4) rfl rfl hr) ?_
  show Go p e s below _ _ _ _ T101 (mkF m 5 #[.val (.ref a1), .val (.ref a2), .val (.int (0 : Int32))] [(.ref a1)])
  refine Go.of (fun _ hr => XS.aloadN X101.here hx rfl (hb hby d4_5) rfl rfl hr) ?_
  show Go p e s below _ _ _ _ T101 (mkF m 6 #[.val (.ref a1), .val (.ref a2), .val (.int (0 : Int32))] [(.ref a2), (.ref a1)])
  obtain ⟨T102, h102, X102, e102, W102, st102⟩ := putF X101 hx hZ hown (host := "") (Or.inl (hw _ (List.mem_of_getElem? (i := 28) rfl))) Via.refl e101 F1 E1 (Or.inr ⟨(hw _ (List.mem_of_getElem? (i := 5) rfl)), rfl, hnm⟩) (hw _ (List.mem_of_getElem? (i := 3) rfl)) (ty := (.array .byte)) (by decide) rfl rfl (g := (mkF m 6 #[.val (.ref a1), .val (.ref a2), .val (.int (0 : Int32))] [(.ref a2), (.ref a1)])) rfl rfl (hb hby d4_6)
  have N102 := Fr.snoc X102 N0 fr_a1
  have J102 := J0.wr W102 trivial
  have B102 := B0.mono (Nat.le_of_eq W102.size.symm)
  have O102 := O0.wr W102 (Nat.le_trans hb0 fr_a1)
  have K102 := K0.wr W102 (Or.inl (List.mem_of_getElem? (i := 0) rfl))
  have Fw102 := F1.same W102
  refine Go.of (fun _ hr => st102 _ hr) ?_
  show Go p e s below _ _ _ _ T102 (mkF m 9 #[.val (.ref a1), .val (.ref a2), .val (.int (0 : Int32))] [])
  refine Go.of (fun _ hr => XS.aloadN X102.here hx rfl (hb hby d4_9) rfl rfl hr) ?_
  show Go p e s below _ _ _ _ T102 (mkF m 10 #[.val (.ref a1), .val (.ref a2), .val (.int (0 : Int32))] [(.ref a1)])
  refine Go.of (fun _ hr => XS.iloadN X102.here hx rfl (hb hby d4_10) rfl  hr) ?_
  show Go p e s below _ _ _ _ T102 (mkF m 11 #[.val (.ref a1), .val (.ref a2), .val (.int (0 : Int32))] [(.int (0 : Int32)), (.ref a1)])
  have f104 := (F2.other W102 (Or.inr (slot_ne (Or.inr (hw _ (List.mem_of_getElem? (i := 6) rfl))) (Or.inr (hw _ (List.mem_of_getElem? (i := 5) rfl))) (by decide) (t := .byte) (t' := (.array .byte)) (by decide) (by decide))))
  have f105 := (E1.wr W102)
  obtain ⟨T103, h103, X103, e103, W103, st103⟩ := putFN X102 hx hZ hown (hw _ (List.mem_of_getElem? (i := 29) rfl)) Via.refl e102 f104 f105 (Or.inr ⟨(hw _ (List.mem_of_getElem? (i := 6) rfl)), rfl, hnm⟩) (hw _ (List.mem_of_getElem? (i := 3) rfl)) (ty := .byte) (v' := (.int (0 : Int32))) (by decide) rfl rfl (g := (mkF m 11 #[.val (.ref a1), .val (.ref a2), .val (.int (0 : Int32))] [(.int (0 : Int32)), (.ref a1)])) rfl rfl (hb hby d4_11)
  have N103 := Fr.snoc X103 N102 fr_a1
  have J103 := J102.wr W103 trivial
  have B103 := B102.mono (Nat.le_of_eq W103.size.symm)
  have O103 := O102.wr W103 (Nat.le_trans hb0 fr_a1)
  have K103 := K102.wr W103 (Or.inl (List.mem_of_getElem? (i := 0) rfl))
  have Fw103 := f104.same W103
  refine Go.of (fun _ hr => st103 _ hr) ?_
  show Go p e s below _ _ _ _ T103 (mkF m 14 #[.val (.ref a1), .val (.ref a2), .val (.int (0 : Int32))] [])
  have f106 := (Fw102.other W103 (Or.inr (slot_ne (Or.inr (hw _ (List.mem_of_getElem? (i := 5) rfl))) (Or.inr (hw _ (List.mem_of_getElem? (i := 6) rfl))) (by decide) (t := (.array .byte)) (t' := .byte) (by decide) (by decide))))
  exact Go.retV X103 hx hlk B103 J103 e103 hret (hb hby d4_14) (by decide) (by decide) (fun vm_ hw_ => ⟨rfl, N103, K103, f106, Fw103⟩)

theorem d1_0 : decode jdk_42_method_139_code 0 = .ok (.getstatic 38, 3) := by decide +kernel
theorem d1_3 : decode jdk_42_method_139_code 3 = .ok (.ifCond .eq 23, 3) := by decide +kernel
theorem d1_6 : decode jdk_42_method_139_code 6 = .ok (.iload_n 0, 1) := by decide +kernel
theorem d1_7 : decode jdk_42_method_139_code 7 = .ok (.invokestatic 1015, 3) := by decide +kernel
theorem pd0 : parseMethodDescriptor "(C)Z" = some ⟨[.char], some .boolean⟩ := by decide +kernel
theorem d1_10 : decode jdk_42_method_139_code 10 = .ok (.ifCond .eq 16, 3) := by decide +kernel
theorem d1_13 : decode jdk_42_method_139_code 13 = .ok (.new 10, 3) := by decide +kernel
theorem d1_16 : decode jdk_42_method_139_code 16 = .ok (.dup, 1) := by decide +kernel
theorem d1_17 : decode jdk_42_method_139_code 17 = .ok (.iload_n 0, 1) := by decide +kernel
theorem d1_18 : decode jdk_42_method_139_code 18 = .ok (.invokestatic 1018, 3) := by decide +kernel
theorem pd1 : parseMethodDescriptor "(C)[B" = some ⟨[.char], some (.array .byte)⟩ := by decide +kernel
theorem d1_21 : decode jdk_42_method_139_code 21 = .ok (.iconst 0, 1) := by decide +kernel
theorem d1_22 : decode jdk_42_method_139_code 22 = .ok (.invokespecial 209, 3) := by decide +kernel
theorem pd2 : parseMethodDescriptor "([BB)V" = some ⟨[(.array .byte), .byte], none⟩ := by decide +kernel
theorem d1_25 : decode jdk_42_method_139_code 25 = .ok (.areturn, 1) := by decide +kernel
set_option maxRecDepth 65536 in
set_option maxHeartbeats 40000000 in
theorem rm1 (l : Launch) (Z : State) (a0 : Array Value) (hw : ∀ d ∈ tables_1, d.before a0 Z = true) (ws : List Jvm.Cond) (c1 : Int32) (zc : Int32) (ms : List Addr) (h0 : Heap) (n0 : Nat) (O0 : Old Z n0 h0) (nb : Nat) (hb0 : n0 ≤ nb) (hnb : nb ≤ h0.size) (q1 : ¬ 255 < c1) (S_C : Sta Z Z.heap "java/lang/String" "COMPACT_STRINGS" "Z" (.int zc)) (hzc : ¬ zc = 0) :
    Con l Z ms (⟨"java/lang/String", "valueOf", "(C)Ljava/lang/String;"⟩ : MethodName) jdk_42_method_139_code 1 (some (.object "java/lang/String")) ws ({ frames := 2, cells := 2, slots := 5, locals := 27 } : Room) #[(.int c1)] h0 (fun v vm h L => ∃ r t k, v = some (.ref r) ∧ Fr nb L ∧ Ext h0 h ∧ h0.size ≤ r ∧ h0.size ≤ t ∧ Exa Z h r "java/lang/String" ∧ Fld Z h r "java/lang/String" "value" "[B" (.ref t) ∧ Fld Z h r "java/lang/String" "coder" "B" (.int 0) ∧ Arv Z h t k .byte 1 [.int (lo8 c1)] (.int 0)) := by
  refine Con.mk (plainFor_of_name pn1) ?_
  intro p e s m below meth c s₁ Cc X0 e0 eb J0 B0 M0
  obtain ⟨hx, hZ, hown, hby, hml, hnm, hret, hlk⟩ := id Cc
  have N0 := Fr.nil h0.size
  have K0 := Keep.refl h0 []
  show Go p e s below _ _ _ _ s₁ (mkF m 0 #[.val (.int c1)] [])
  obtain ⟨T101, X101, e101, st101⟩ := getS2 X0 hx hZ hown (host := "") (Or.inl (hw _ (List.mem_of_getElem? (i := 12) rfl))) Via.refl e0 (S_C.ext O0.2) (g := (mkF m 0 #[.val (.int c1)] [])) rfl (hb hby d1_0)
  refine Go.of (fun _ hr => st101 _ hr) ?_
  show Go p e s below _ _ _ _ T101 (mkF m 3 #[.val (.int c1)] [(.int zc)])
  refine Go.of (fun _ hr => XS.ifNo X101.here hx rfl (hb hby d1_3) rfl ((if0 _ _).trans (feq hzc).1) hr) ?_
  show Go p e s below _ _ _ _ T101 (mkF m 6 #[.val (.int c1)] [])
  refine Go.of (fun _ hr => XS.iloadN X101.here hx rfl (hb hby d1_6) rfl  hr) ?_
  show Go p e s below _ _ _ _ T101 (mkF m 7 #[.val (.int c1)] [(.int c1)])
  obtain ⟨_, b102, T102, h102, L102, e102, Cc102, X102, B102, J102, g102, hQ102, st102⟩ := own_callS Cc B0 J0 X101 (hw _ (List.mem_of_getElem? (i := 13) rfl)) (hw _ (List.mem_of_getElem? (i := 14) rfl)) (hw _ (List.mem_of_getElem? (i := 15) rfl)) (hw _ (List.mem_of_getElem? (i := 16) rfl)) (by decide) (rm2 l Z a0 hw [] c1 _ h0 n0 O0 h0.size (own_ole O0) K0.1 q1) e101 (g := (mkF m 7 #[.val (.int c1)] [(.int c1)])) rfl (by rw [hml]; rfl) (argsL := [(.int c1)]) (rest := []) (lenOf pd0 rfl) rfl (W := 0) (by show 2 * 0 + _ ≤ _; exact Nat.le_of_eq rfl) (hb hby d1_7) (by decide) (by decide) (by decide) (by decide)
  obtain ⟨rfl, Nq102, hh102⟩ := hQ102
  have N102 := Fr.app N0 Nq102
  obtain ⟨hx, hZ, hown, hby, hml, hnm, hret, hlk⟩ := id Cc102
  rw [hh102] at e102 B102 J102
  refine Go.of st102 ?_
  show Go p e s below _ _ _ _ T102 (mkF m 10 #[.val (.int c1)] [(.int (1 : Int32))])
  refine Go.of (fun _ hr => XS.ifNo X102.here hx rfl (hb hby d1_10) rfl ((if0 _ _).trans (feq (by decide : ¬ ((1 : Int32) = (0 : Int32)))).1) hr) ?_
  show Go p e s below _ _ _ _ T102 (mkF m 13 #[.val (.int c1)] [])
  obtain ⟨T103, h103, X103, e103, E103, A103, D103, -, st103⟩ := newO X102 hx hZ hown (hw _ (List.mem_of_getElem? (i := 17) rfl)) (hw _ (List.mem_of_getElem? (i := 3) rfl)) (hw _ (List.mem_of_getElem? (i := 2) rfl)) e102 (g := (mkF m 13 #[.val (.int c1)] [])) rfl (hb hby d1_13) (by decide) (by decide)
  obtain ⟨o103, g103⟩ : ∃ z, z = h0.size := ⟨_, rfl⟩
  rw [← g103] at A103 D103 st103
  have lt103 : o103 < h103.size := A103.lt
  have J103 := J102.add E103 g103 lt103
  have B103 := B102.mono E103.1
  have O103 := O0.ext E103
  have sz103 : h0.size ≤ o103 := Nat.le_trans K0.1 (Nat.le_of_eq g103.symm)
  have fr103 : h0.size ≤ o103 := sz103
  have K103 := K0.ext E103
  have F103_value : Fld Z h103 o103 "java/lang/String" "value" "[B" .null := D103 (Or.inr (hw _ (List.mem_of_getElem? (i := 5) rfl))) (ty := (.array .byte)) (by decide)
  have F103_coder : Fld Z h103 o103 "java/lang/String" "coder" "B" (.int (0 : Int32)) := D103 (Or.inr (hw _ (List.mem_of_getElem? (i := 6) rfl))) (ty := .byte) (by decide)
  refine Go.of (fun _ hr => st103 _ hr) ?_
  show Go p e s below _ _ _ _ T103 (mkF m 16 #[.val (.int c1)] [(.ref o103)])
  refine Go.of (fun _ hr => XS.dup X103.here hx rfl (hb hby d1_16) rfl rfl hr) ?_
  show Go p e s below _ _ _ _ T103 (mkF m 17 #[.val (.int c1)] [(.ref o103), (.ref o103)])
  refine Go.of (fun _ hr => XS.iloadN X103.here hx rfl (hb hby d1_17) rfl  hr) ?_
  show Go p e s below _ _ _ _ T103 (mkF m 18 #[.val (.int c1)] [(.int c1), (.ref o103), (.ref o103)])
  obtain ⟨_, b104, T104, h104, L104, e104, Cc104, X104, B104, J104, g104, hQ104, st104⟩ := own_callS Cc102 B103 J103 X103 (hw _ (List.mem_of_getElem? (i := 18) rfl)) (hw _ (List.mem_of_getElem? (i := 19) rfl)) (hw _ (List.mem_of_getElem? (i := 15) rfl)) (hw _ (List.mem_of_getElem? (i := 20) rfl)) (by decide) (rm3 l Z a0 hw [] c1 _ h103 n0 O103 h0.size (own_ole O0) K103.1) e103 (g := (mkF m 18 #[.val (.int c1)] [(.int c1), (.ref o103), (.ref o103)])) rfl (by rw [hml]; rfl) (argsL := [(.int c1)]) (rest := [(.ref o103), (.ref o103)]) (lenOf pd1 rfl) rfl (W := 2) (by show 2 * 0 + _ ≤ _; exact Nat.le_of_eq rfl) (hb hby d1_18) (by decide) (by decide) (by decide) (by decide)
  obtain ⟨r104, kr104, rfl, Nq104, Eq104, R_r104, Vr104⟩ := hQ104
  have N104 := Fr.app N102 Nq104
  obtain ⟨hx, hZ, hown, hby, hml, hnm, hret, hlk⟩ := id Cc104
  have sz_r104 : h0.size ≤ r104 := Nat.le_trans K103.1 R_r104
  have fr_r104 : h0.size ≤ r104 := sz_r104
  have ne_o103_r104 : o103 ≠ r104 := Nat.ne_of_lt (Nat.lt_of_lt_of_le A103.lt R_r104)
  have K104 := K103.ext Eq104
  have O104 := O103.ext Eq104
  refine Go.of st104 ?_
  show Go p e s below _ _ _ _ T104 (mkF m 21 #[.val (.int c1)] [(.ref r104), (.ref o103), (.ref o103)])
  refine Go.of (fun _ hr => XS.iconst X104.here hx rfl (hb hby d1_21) hr) ?_
  show Go p e s below _ _ _ _ T104 (mkF m 22 #[.val (.int c1)] [(.int (0 : Int32)), (.ref r104), (.ref o103), (.ref o103)])
  have f106 := (A103.ext Eq104)
  have f107 := (F103_value.ext Eq104)
  have f108 := (F103_coder.ext Eq104)
  obtain ⟨_, b105, T105, h105, L105, e105, Cc105, X105, B105, J105, g105, hQ105, st105⟩ := own_callI Cc104 B104 J104 X104 rfl (hw _ (List.mem_of_getElem? (i := 21) rfl)) (hw _ (List.mem_of_getElem? (i := 22) rfl)) (hw _ (List.mem_of_getElem? (i := 2) rfl)) (hw _ (List.mem_of_getElem? (i := 24) rfl)) (by decide) (rm4 l Z a0 hw [] o103 r104 _ _ _ h104 n0 O104 h0.size (own_ole O0) K104.1 fr103 trivial f106 f107 f108) e104 (g := (mkF m 22 #[.val (.int c1)] [(.int (0 : Int32)), (.ref r104), (.ref o103), (.ref o103)])) rfl (by rw [hml]; rfl) (argsL := [(.ref r104), (.int (0 : Int32))]) (rest := [(.ref o103)]) (lenOf pd2 rfl) rfl (W := 1) (by show 2 * 0 + _ ≤ _; exact Nat.le_of_eq rfl) (hb hby d1_22) (by decide) (by decide) (by decide) (by decide)
  obtain ⟨rfl, Nq105, Kq105, Fv105, Fc105⟩ := hQ105
  have N105 := Fr.app N104 Nq105
  obtain ⟨hx, hZ, hown, hby, hml, hnm, hret, hlk⟩ := id Cc105
  have K105 := K104.trans Kq105 (allS (Or.inr sz103) all0)
  have O105 := O104.keep Kq105 (allS (Nat.le_trans (own_ole O0) fr103) all0)
  refine Go.of st105 ?_
  show Go p e s below _ _ _ _ T105 (mkF m 25 #[.val (.int c1)] [(.ref o103)])
  have f109 := (f106.keep Kq105)
  have f110 := (Vr104.keep Kq105 (ninS (Ne.symm ne_o103_r104) nin0))
  exact Go.retA X105 hx hlk B105 (J105.sub fun x hx => (List.mem_cons_of_mem _ hx)) e105 hret rfl rfl (hb hby d1_25) (by decide) (by decide) (fun vm_ hw_ => ⟨_, _, _, rfl, (fun y hy => Nat.le_trans hnb (N105 y hy)), keep_ext K105, sz103, sz_r104, f109, Fv105, Fc105, f110⟩)

theorem d13_3 : decode jdk_52_method_21_code 3 = .ok (.iload 5, 2) := by decide +kernel
theorem d13_5 : decode jdk_52_method_21_code 5 = .ok (.iload 4, 2) := by decide +kernel
theorem d13_7 : decode jdk_52_method_21_code 7 = .ok (.if_icmp .ge 37, 3) := by decide +kernel
theorem d13_44 : decode jdk_52_method_21_code 44 = .ok (.iload 4, 2) := by decide +kernel
theorem d13_46 : decode jdk_52_method_21_code 46 = .ok (.ireturn, 1) := by decide +kernel
theorem d13_10 : decode jdk_52_method_21_code 10 = .ok (.aload_n 0, 1) := by decide +kernel
theorem d13_11 : decode jdk_52_method_21_code 11 = .ok (.iload_n 1, 1) := by decide +kernel
theorem d13_12 : decode jdk_52_method_21_code 12 = .ok (.caload, 1) := by decide +kernel
theorem d13_13 : decode jdk_52_method_21_code 13 = .ok (.istore 6, 2) := by decide +kernel
theorem d13_15 : decode jdk_52_method_21_code 15 = .ok (.iload 6, 2) := by decide +kernel
theorem d13_17 : decode jdk_52_method_21_code 17 = .ok (.sipush 255, 3) := by decide +kernel
theorem d13_20 : decode jdk_52_method_21_code 20 = .ok (.if_icmp .le 6, 3) := by decide +kernel
theorem d13_26 : decode jdk_52_method_21_code 26 = .ok (.aload_n 2, 1) := by decide +kernel
theorem d13_27 : decode jdk_52_method_21_code 27 = .ok (.iload_n 3, 1) := by decide +kernel
theorem d13_28 : decode jdk_52_method_21_code 28 = .ok (.iload 6, 2) := by decide +kernel
theorem d13_30 : decode jdk_52_method_21_code 30 = .ok (.i2b, 1) := by decide +kernel
theorem d13_31 : decode jdk_52_method_21_code 31 = .ok (.bastore, 1) := by decide +kernel
theorem d13_32 : decode jdk_52_method_21_code 32 = .ok (.iinc 1 1, 3) := by decide +kernel
theorem d13_35 : decode jdk_52_method_21_code 35 = .ok (.iinc 3 1, 3) := by decide +kernel
theorem d13_38 : decode jdk_52_method_21_code 38 = .ok (.iinc 5 1, 3) := by decide +kernel
theorem d13_41 : decode jdk_52_method_21_code 41 = .ok (.goto (-38), 3) := by decide +kernel
theorem own_st6 {v0 v1 v2 v3 v4 v5 : Value} {s6 : Slot} {x : Int32} (h : One s6) : storeLocals #[.val v0, .val v1, .val v2, .val v3, .val v4, .val v5, s6] 6 (.int x) = some #[.val v0, .val v1, .val v2, .val v3, .val v4, .val v5, .val (.int x)] := by
  rcases h with rfl | ⟨w, rfl, hw⟩
  · rfl
  · cases w <;> first | rfl | (simp [Value.category] at hw)

set_option maxRecDepth 65536 in
set_option maxHeartbeats 40000000 in
theorem cloop {l : Launch} {Z : State} {p : Program} {e : Env} {R : Room} {s b : State} {m : MethodId} {args : Array Value} {below : List Frame} {meth : Method} {c : Code} {K N : Nat} {Q : Option Value → Vm → Heap → List Loc → Prop} {ms : List Addr} {h0 : Heap} {n0 nb : Nat} (Cc : Cx Z p b m meth c "java/lang/StringUTF16" jdk_52_method_21_code 7 "compress" (some .int)) (a1 a2 : Addr) (k1 k2 : ClassId) (cs : List Int32) (hn : cs.length ≤ 16) (hr : ∀ x ∈ cs, ¬ x < 0 ∧ ¬ 255 < x) (ne12 : a1 ≠ a2) (hb0 : n0 ≤ nb) (hnb : nb ≤ h0.size) (fr_a2 : nb ≤ a2) (hm_a2 : True)
    (hQ : ∀ vm h L, Keep h0 h [a2] → Fr nb L → Arv Z h a2 k2 .byte (Int32.ofNat cs.length) (cs.map fun x => Value.int (lo8 x)) (.int 0) → Q (some (.int (Int32.ofNat cs.length))) vm h L) :
    ∀ (r i : Nat), i + r = cs.length → ∀ (T : State) (h : Heap) (locs : List Loc) (cells slots : Nat) (s6 : Slot), One s6 → Stand p l e R b m args below meth c T locs cells slots → T.heap = h → Old Z n0 h → Fr nb locs → Keep h0 h [a2] → Hd Z ms b.vm h → Bs s b h → Arv Z h a1 k1 .char (Int32.ofNat cs.length) (cs.map Value.int) (.int 0) → Arv Z h a2 k2 .byte (Int32.ofNat cs.length) ((cs.take i).map fun x => Value.int (lo8 x)) (.int 0) → cells ≤ K → slots ≤ N →
      Go p e s below K N (Hd Z ms) Q T (mkF m 3 #[.val (.ref a1), .val (.int (Int32.ofNat i)), .val (.ref a2), .val (.int (Int32.ofNat i)), .val (.int (Int32.ofNat cs.length)), .val (.int (Int32.ofNat i)), s6] []) := by
  obtain ⟨hx, hZ, hown, hby, hml, hnm, hret, hlk⟩ := id Cc
  intro r
  induction r with
  | zero =>
    intro i hi T h locs cells slots s6 one6 X eT O0 N0 K0 J0 B0 V1 V2 hK hN
    show Go p e s below _ _ _ _ T (mkF m 3 #[.val (.ref a1), .val (.int (Int32.ofNat i)), .val (.ref a2), .val (.int (Int32.ofNat i)), .val (.int (Int32.ofNat cs.length)), .val (.int (Int32.ofNat i)), s6] [])
    refine Go.of (fun _ hr => XS.iload X.here hx rfl (hb hby d13_3) rfl  hr) ?_
    show Go p e s below _ _ _ _ T (mkF m 5 #[.val (.ref a1), .val (.int (Int32.ofNat i)), .val (.ref a2), .val (.int (Int32.ofNat i)), .val (.int (Int32.ofNat cs.length)), .val (.int (Int32.ofNat i)), s6] [(.int (Int32.ofNat i))])
    refine Go.of (fun _ hr => XS.iload X.here hx rfl (hb hby d13_5) rfl  hr) ?_
    show Go p e s below _ _ _ _ T (mkF m 7 #[.val (.ref a1), .val (.int (Int32.ofNat i)), .val (.ref a2), .val (.int (Int32.ofNat i)), .val (.int (Int32.ofNat cs.length)), .val (.int (Int32.ofNat i)), s6] [(.int (Int32.ofNat cs.length)), (.int (Int32.ofNat i))])
    refine Go.of (fun _ hr => XS.icmpYes X.here hx rfl (pc0 := 7) (pc' := 44) rfl (hb hby d13_7) rfl (flt (oi_nlt (by omega) (by omega) (by omega))).2.1 (by decide) (by decide) hr) ?_
    show Go p e s below _ _ _ _ T (mkF m 44 #[.val (.ref a1), .val (.int (Int32.ofNat i)), .val (.ref a2), .val (.int (Int32.ofNat i)), .val (.int (Int32.ofNat cs.length)), .val (.int (Int32.ofNat i)), s6] [])
    refine Go.of (fun _ hr => XS.iload X.here hx rfl (hb hby d13_44) rfl  hr) ?_
    show Go p e s below _ _ _ _ T (mkF m 46 #[.val (.ref a1), .val (.int (Int32.ofNat i)), .val (.ref a2), .val (.int (Int32.ofNat i)), .val (.int (Int32.ofNat cs.length)), .val (.int (Int32.ofNat i)), s6] [(.int (Int32.ofNat cs.length))])
    exact Go.retI X hx hlk B0 J0 eT hret (hb hby d13_46) (by omega) (by omega) (fun _ _ => hQ _ _ _ K0 N0 (by have q := V2; rw [show i = cs.length by omega, List.take_length] at q; exact q))
  | succ r ih =>
    intro i hi T h locs cells slots s6 one6 X eT O0 N0 K0 J0 B0 V1 V2 hK hN
    show Go p e s below _ _ _ _ T (mkF m 3 #[.val (.ref a1), .val (.int (Int32.ofNat i)), .val (.ref a2), .val (.int (Int32.ofNat i)), .val (.int (Int32.ofNat cs.length)), .val (.int (Int32.ofNat i)), s6] [])
    refine Go.of (fun _ hr => XS.iload X.here hx rfl (hb hby d13_3) rfl  hr) ?_
    show Go p e s below _ _ _ _ T (mkF m 5 #[.val (.ref a1), .val (.int (Int32.ofNat i)), .val (.ref a2), .val (.int (Int32.ofNat i)), .val (.int (Int32.ofNat cs.length)), .val (.int (Int32.ofNat i)), s6] [(.int (Int32.ofNat i))])
    refine Go.of (fun _ hr => XS.iload X.here hx rfl (hb hby d13_5) rfl  hr) ?_
    show Go p e s below _ _ _ _ T (mkF m 7 #[.val (.ref a1), .val (.int (Int32.ofNat i)), .val (.ref a2), .val (.int (Int32.ofNat i)), .val (.int (Int32.ofNat cs.length)), .val (.int (Int32.ofNat i)), s6] [(.int (Int32.ofNat cs.length)), (.int (Int32.ofNat i))])
    refine Go.of (fun _ hr => XS.icmpNo X.here hx rfl (hb hby d13_7) rfl (tlt (oi_lt (by omega) (by omega) (by omega))).2.1 hr) ?_
    show Go p e s below _ _ _ _ T (mkF m 10 #[.val (.ref a1), .val (.int (Int32.ofNat i)), .val (.ref a2), .val (.int (Int32.ofNat i)), .val (.int (Int32.ofNat cs.length)), .val (.int (Int32.ofNat i)), s6] [])
    refine Go.of (fun _ hr => XS.aloadN X.here hx rfl (hb hby d13_10) rfl rfl hr) ?_
    show Go p e s below _ _ _ _ T (mkF m 11 #[.val (.ref a1), .val (.int (Int32.ofNat i)), .val (.ref a2), .val (.int (Int32.ofNat i)), .val (.int (Int32.ofNat cs.length)), .val (.int (Int32.ofNat i)), s6] [(.ref a1)])
    refine Go.of (fun _ hr => XS.iloadN X.here hx rfl (hb hby d13_11) rfl  hr) ?_
    show Go p e s below _ _ _ _ T (mkF m 12 #[.val (.ref a1), .val (.int (Int32.ofNat i)), .val (.ref a2), .val (.int (Int32.ofNat i)), .val (.int (Int32.ofNat cs.length)), .val (.int (Int32.ofNat i)), s6] [(.int (Int32.ofNat i)), (.ref a1)])
    obtain ⟨x, hxe⟩ : ∃ x, cs.getD i 0 = x := ⟨_, rfl⟩
    have hxr := hr _ (hxe ▸ mem_getD (show i < cs.length by omega))
    obtain ⟨cl101, Ar101, q101, S101, N101_, H101, G101⟩ := id V1
    have hin101 : ¬ ((Int32.ofNat i) < 0 ∨ cl101.slots.size ≤ ((Int32.ofNat i)).toNatClampNeg) := inb_of S101 ⟨oi_nn (by omega), oi_lt (by omega) (by omega) (by omega)⟩
    refine Go.of (fun _ hr => X.caload hx (j := (Int32.ofNat i)) (v := (.int x)) (by rw [eT]; exact Ar101.1) (State.isArrayOf_alike hZ.alike Ar101.2.1) Ar101.2.2 hin101 (H101.at hin101 (by rw [oi_nat (by omega), getD_int, hxe])) (g := (mkF m 12 #[.val (.ref a1), .val (.int (Int32.ofNat i)), .val (.ref a2), .val (.int (Int32.ofNat i)), .val (.int (Int32.ofNat cs.length)), .val (.int (Int32.ofNat i)), s6] [(.int (Int32.ofNat i)), (.ref a1)])) rfl rfl (hb hby d13_12) _ hr) ?_
    show Go p e s below _ _ _ _ T (mkF m 13 #[.val (.ref a1), .val (.int (Int32.ofNat i)), .val (.ref a2), .val (.int (Int32.ofNat i)), .val (.int (Int32.ofNat cs.length)), .val (.int (Int32.ofNat i)), s6] [(.int x)])
    refine Go.of (fun _ hr => XS.istore X.here hx rfl (hb hby d13_13) rfl (l' := #[.val (.ref a1), .val (.int (Int32.ofNat i)), .val (.ref a2), .val (.int (Int32.ofNat i)), .val (.int (Int32.ofNat cs.length)), .val (.int (Int32.ofNat i)), .val (.int x)]) (own_st6 one6) hr) ?_
    show Go p e s below _ _ _ _ T (mkF m 15 #[.val (.ref a1), .val (.int (Int32.ofNat i)), .val (.ref a2), .val (.int (Int32.ofNat i)), .val (.int (Int32.ofNat cs.length)), .val (.int (Int32.ofNat i)), .val (.int x)] [])
    refine Go.of (fun _ hr => XS.iload X.here hx rfl (hb hby d13_15) rfl  hr) ?_
    show Go p e s below _ _ _ _ T (mkF m 17 #[.val (.ref a1), .val (.int (Int32.ofNat i)), .val (.ref a2), .val (.int (Int32.ofNat i)), .val (.int (Int32.ofNat cs.length)), .val (.int (Int32.ofNat i)), .val (.int x)] [(.int x)])
    refine Go.of (fun _ hr => XS.sipush X.here hx rfl (hb hby d13_17) hr) ?_
    show Go p e s below _ _ _ _ T (mkF m 20 #[.val (.ref a1), .val (.int (Int32.ofNat i)), .val (.ref a2), .val (.int (Int32.ofNat i)), .val (.int (Int32.ofNat cs.length)), .val (.int (Int32.ofNat i)), .val (.int x)] [(.int (255 : Int32)), (.int x)])
    refine Go.of (fun _ hr => XS.icmpYes X.here hx rfl (pc0 := 20) (pc' := 26) rfl (hb hby d13_20) rfl (flt hxr.2).2.2.2 (by decide) (by decide) hr) ?_
    show Go p e s below _ _ _ _ T (mkF m 26 #[.val (.ref a1), .val (.int (Int32.ofNat i)), .val (.ref a2), .val (.int (Int32.ofNat i)), .val (.int (Int32.ofNat cs.length)), .val (.int (Int32.ofNat i)), .val (.int x)] [])
    refine Go.of (fun _ hr => XS.aloadN X.here hx rfl (hb hby d13_26) rfl rfl hr) ?_
    show Go p e s below _ _ _ _ T (mkF m 27 #[.val (.ref a1), .val (.int (Int32.ofNat i)), .val (.ref a2), .val (.int (Int32.ofNat i)), .val (.int (Int32.ofNat cs.length)), .val (.int (Int32.ofNat i)), .val (.int x)] [(.ref a2)])
    refine Go.of (fun _ hr => XS.iloadN X.here hx rfl (hb hby d13_27) rfl  hr) ?_
    show Go p e s below _ _ _ _ T (mkF m 28 #[.val (.ref a1), .val (.int (Int32.ofNat i)), .val (.ref a2), .val (.int (Int32.ofNat i)), .val (.int (Int32.ofNat cs.length)), .val (.int (Int32.ofNat i)), .val (.int x)] [(.int (Int32.ofNat i)), (.ref a2)])
    refine Go.of (fun _ hr => XS.iload X.here hx rfl (hb hby d13_28) rfl  hr) ?_
    show Go p e s below _ _ _ _ T (mkF m 30 #[.val (.ref a1), .val (.int (Int32.ofNat i)), .val (.ref a2), .val (.int (Int32.ofNat i)), .val (.int (Int32.ofNat cs.length)), .val (.int (Int32.ofNat i)), .val (.int x)] [(.int x), (.int (Int32.ofNat i)), (.ref a2)])
    refine Go.of (fun _ hr => XS.i2b X.here hx rfl (hb hby d13_30) rfl hr) ?_
    show Go p e s below _ _ _ _ T (mkF m 31 #[.val (.ref a1), .val (.int (Int32.ofNat i)), .val (.ref a2), .val (.int (Int32.ofNat i)), .val (.int (Int32.ofNat cs.length)), .val (.int (Int32.ofNat i)), .val (.int x)] [(.int (x.toInt8.toInt32)), (.int (Int32.ofNat i)), (.ref a2)])
    obtain ⟨cl102, Ar102, q102, S102, N102_, H102, G102⟩ := id V2
    have hin102 : ¬ (Int32.ofNat i < 0 ∨ cl102.slots.size ≤ (Int32.ofNat i).toNatClampNeg) := inb_of S102 ⟨oi_nn (by omega), oi_lt (by omega) (by omega) (by omega)⟩
    obtain ⟨T102, h102, X102, e102, W102, st102⟩ := stB X hx hZ eT Ar102 (j := Int32.ofNat i) hin102 (g := (mkF m 31 #[.val (.ref a1), .val (.int (Int32.ofNat i)), .val (.ref a2), .val (.int (Int32.ofNat i)), .val (.int (Int32.ofNat cs.length)), .val (.int (Int32.ofNat i)), .val (.int x)] [(.int (x.toInt8.toInt32)), (.int (Int32.ofNat i)), (.ref a2)])) rfl rfl (hb hby d13_31)
    rw [nar_b] at W102
    have V102 : Arv Z h102 a2 k2 .byte (Int32.ofNat cs.length) ((cs.take (i + 1)).map fun x => Value.int (lo8 x)) (.int 0) := by
        have q := own_push V2 W102 (by rw [oi_nat (by omega)]; simp; omega) (fits_b x)
        rw [← hxe, take_push cs (show i < cs.length by omega) (fun x => Value.int (lo8 x))] at q; exact q
    have N102 := Fr.snoc X102 N0 fr_a2
    have J102 := J0.wr W102 trivial
    have B102 := B0.mono (Nat.le_of_eq W102.size.symm)
    have O102 := O0.wr W102 (Nat.le_trans hb0 fr_a2)
    have K102 := K0.wr W102 (Or.inl (List.mem_of_getElem? (i := 0) rfl))
    refine Go.of (fun _ hr => st102 _ hr) ?_
    show Go p e s below _ _ _ _ T102 (mkF m 32 #[.val (.ref a1), .val (.int (Int32.ofNat i)), .val (.ref a2), .val (.int (Int32.ofNat i)), .val (.int (Int32.ofNat cs.length)), .val (.int (Int32.ofNat i)), .val (.int x)] [])
    refine Go.of (fun _ hr => XS.iinc X102.here hx rfl (hb hby d13_32) rfl (l' := #[.val (.ref a1), .val (.int ((Int32.ofNat i) + (1 : Int32))), .val (.ref a2), .val (.int (Int32.ofNat i)), .val (.int (Int32.ofNat cs.length)), .val (.int (Int32.ofNat i)), .val (.int x)]) rfl hr) ?_
    show Go p e s below _ _ _ _ T102 (mkF m 35 #[.val (.ref a1), .val (.int ((Int32.ofNat i) + (1 : Int32))), .val (.ref a2), .val (.int (Int32.ofNat i)), .val (.int (Int32.ofNat cs.length)), .val (.int (Int32.ofNat i)), .val (.int x)] [])
    refine Go.of (fun _ hr => XS.iinc X102.here hx rfl (hb hby d13_35) rfl (l' := #[.val (.ref a1), .val (.int ((Int32.ofNat i) + (1 : Int32))), .val (.ref a2), .val (.int ((Int32.ofNat i) + (1 : Int32))), .val (.int (Int32.ofNat cs.length)), .val (.int (Int32.ofNat i)), .val (.int x)]) rfl hr) ?_
    show Go p e s below _ _ _ _ T102 (mkF m 38 #[.val (.ref a1), .val (.int ((Int32.ofNat i) + (1 : Int32))), .val (.ref a2), .val (.int ((Int32.ofNat i) + (1 : Int32))), .val (.int (Int32.ofNat cs.length)), .val (.int (Int32.ofNat i)), .val (.int x)] [])
    refine Go.of (fun _ hr => XS.iinc X102.here hx rfl (hb hby d13_38) rfl (l' := #[.val (.ref a1), .val (.int ((Int32.ofNat i) + (1 : Int32))), .val (.ref a2), .val (.int ((Int32.ofNat i) + (1 : Int32))), .val (.int (Int32.ofNat cs.length)), .val (.int ((Int32.ofNat i) + (1 : Int32))), .val (.int x)]) rfl hr) ?_
    show Go p e s below _ _ _ _ T102 (mkF m 41 #[.val (.ref a1), .val (.int ((Int32.ofNat i) + (1 : Int32))), .val (.ref a2), .val (.int ((Int32.ofNat i) + (1 : Int32))), .val (.int (Int32.ofNat cs.length)), .val (.int ((Int32.ofNat i) + (1 : Int32))), .val (.int x)] [])
    refine Go.of (fun _ hr => XS.goto X102.here hx rfl (pc0 := 41) (pc' := 3) rfl (hb hby d13_41) (by decide) (by decide) hr) ?_
    show Go p e s below _ _ _ _ T102 (mkF m 3 #[.val (.ref a1), .val (.int ((Int32.ofNat i) + (1 : Int32))), .val (.ref a2), .val (.int ((Int32.ofNat i) + (1 : Int32))), .val (.int (Int32.ofNat cs.length)), .val (.int ((Int32.ofNat i) + (1 : Int32))), .val (.int x)] [])
    simp only [oi_succ (show i + 1 < 2147483648 by omega)]
    have f103 := (V1.other W102 ne12)
    exact ih (i + 1) (by omega) T102 h102 _ _ _ _ (One.val rfl) X102 e102 O102 N102 K102 J102 B102 f103 V102 hK hN

theorem pn2 : plainName "java/lang/StringUTF16" = true := by first | (simp [plainName, overriddenIn]; done) | decide +kernel
theorem d13_0 : decode jdk_52_method_21_code 0 = .ok (.iconst 0, 1) := by decide +kernel
theorem d13_1 : decode jdk_52_method_21_code 1 = .ok (.istore 5, 2) := by decide +kernel
set_option maxRecDepth 65536 in
set_option maxHeartbeats 40000000 in
theorem rm13 (l : Launch) (Z : State) (a0 : Array Value) (hw : ∀ d ∈ tables_1, d.before a0 Z = true) (ws : List Jvm.Cond) (a1 a2 : Addr) (k1 k2 : ClassId) (cs : List Int32) (ms : List Addr) (h0 : Heap) (n0 : Nat) (O0 : Old Z n0 h0) (nb : Nat) (hb0 : n0 ≤ nb) (hnb : nb ≤ h0.size) (fr_a2 : nb ≤ a2) (hm_a2 : True) (hn : cs.length ≤ 16) (hr : ∀ x ∈ cs, ¬ x < 0 ∧ ¬ 255 < x) (ne12 : a1 ≠ a2) (V1 : Arv Z h0 a1 k1 .char (Int32.ofNat cs.length) (cs.map Value.int) (.int 0)) (V2 : Arv Z h0 a2 k2 .byte (Int32.ofNat cs.length) [] (.int 0)) :
    Con l Z ms (⟨"java/lang/StringUTF16", "compress", "([CI[BII)I"⟩ : MethodName) jdk_52_method_21_code 7 (some .int) ws ({ frames := 0, cells := 0, slots := 0, locals := 0 } : Room) #[(.ref a1), (.int (0 : Int32)), (.ref a2), (.int (0 : Int32)), (.int (Int32.ofNat cs.length))] h0 (fun v vm h L => v = some (.int (Int32.ofNat cs.length)) ∧ Fr nb L ∧ Keep h0 h [a2] ∧ Arv Z h a2 k2 .byte (Int32.ofNat cs.length) (cs.map fun x => Value.int (lo8 x)) (.int 0)) := by
  refine Con.mk (plainFor_of_name pn2) ?_
  intro p e s m below meth c s₁ Cc X0 e0 eb J0 B0 M0
  obtain ⟨hx, hZ, hown, hby, hml, hnm, hret, hlk⟩ := id Cc
  have N0 := Fr.nil nb
  have K0 := Keep.refl h0 [a2]
  show Go p e s below _ _ _ _ s₁ (mkF m 0 #[.val (.ref a1), .val (.int (0 : Int32)), .val (.ref a2), .val (.int (0 : Int32)), .val (.int (Int32.ofNat cs.length)), .unset, .unset] [])
  refine Go.of (fun _ hr => XS.iconst X0.here hx rfl (hb hby d13_0) hr) ?_
  show Go p e s below _ _ _ _ s₁ (mkF m 1 #[.val (.ref a1), .val (.int (0 : Int32)), .val (.ref a2), .val (.int (0 : Int32)), .val (.int (Int32.ofNat cs.length)), .unset, .unset] [(.int (0 : Int32))])
  refine Go.of (fun _ hr => XS.istore X0.here hx rfl (hb hby d13_1) rfl (l' := #[.val (.ref a1), .val (.int (0 : Int32)), .val (.ref a2), .val (.int (0 : Int32)), .val (.int (Int32.ofNat cs.length)), .val (.int (0 : Int32)), .unset]) rfl hr) ?_
  show Go p e s below _ _ _ _ s₁ (mkF m 3 #[.val (.ref a1), .val (.int (0 : Int32)), .val (.ref a2), .val (.int (0 : Int32)), .val (.int (Int32.ofNat cs.length)), .val (.int (0 : Int32)), .unset] [])
  exact cloop Cc a1 a2 k1 k2 cs hn hr ne12 hb0 hnb fr_a2 hm_a2 (fun vm h L q1 q2 q3 => ⟨rfl, q2, q1, q3⟩) cs.length 0 (Nat.zero_add _) s₁ h0 _ _ _ _ One.u X0 e0 O0 N0 K0 J0 B0 V1 V2 (by decide) (by decide)

theorem d12_0 : decode jdk_52_method_16_code 0 = .ok (.iload_n 2, 1) := by decide +kernel
theorem d12_1 : decode jdk_52_method_16_code 1 = .ok (.newarray .byte, 2) := by decide +kernel
theorem d12_3 : decode jdk_52_method_16_code 3 = .ok (.astore_n 3, 1) := by decide +kernel
theorem d12_4 : decode jdk_52_method_16_code 4 = .ok (.aload_n 0, 1) := by decide +kernel
theorem d12_5 : decode jdk_52_method_16_code 5 = .ok (.iload_n 1, 1) := by decide +kernel
theorem d12_6 : decode jdk_52_method_16_code 6 = .ok (.aload_n 3, 1) := by decide +kernel
theorem d12_7 : decode jdk_52_method_16_code 7 = .ok (.iconst 0, 1) := by decide +kernel
theorem d12_8 : decode jdk_52_method_16_code 8 = .ok (.iload_n 2, 1) := by decide +kernel
theorem d12_9 : decode jdk_52_method_16_code 9 = .ok (.invokestatic 115, 3) := by decide +kernel
theorem pd3 : parseMethodDescriptor "([CI[BII)I" = some ⟨[(.array .char), .int, (.array .byte), .int, .int], some .int⟩ := by decide +kernel
theorem d12_12 : decode jdk_52_method_16_code 12 = .ok (.istore 4, 2) := by decide +kernel
theorem d12_14 : decode jdk_52_method_16_code 14 = .ok (.iload 4, 2) := by decide +kernel
theorem d12_16 : decode jdk_52_method_16_code 16 = .ok (.iload_n 2, 1) := by decide +kernel
theorem d12_17 : decode jdk_52_method_16_code 17 = .ok (.if_icmp .eq 40, 3) := by decide +kernel
theorem d12_57 : decode jdk_52_method_16_code 57 = .ok (.aload_n 3, 1) := by decide +kernel
theorem d12_58 : decode jdk_52_method_16_code 58 = .ok (.areturn, 1) := by decide +kernel
set_option maxRecDepth 65536 in
set_option maxHeartbeats 40000000 in
theorem rm12 (l : Launch) (Z : State) (a0 : Array Value) (hw : ∀ d ∈ tables_1, d.before a0 Z = true) (ws : List Jvm.Cond) (a1 : Addr) (k1 : ClassId) (cs : List Int32) (ms : List Addr) (h0 : Heap) (n0 : Nat) (O0 : Old Z n0 h0) (nb : Nat) (hb0 : n0 ≤ nb) (hnb : nb ≤ h0.size) (hn : cs.length ≤ 16) (hr : ∀ x ∈ cs, ¬ x < 0 ∧ ¬ 255 < x) (V1 : Arv Z h0 a1 k1 .char (Int32.ofNat cs.length) (cs.map Value.int) (.int 0)) :
    Con l Z ms (⟨"java/lang/StringUTF16", "compress", "([CII)[B"⟩ : MethodName) jdk_52_method_16_code 6 (some (.array .byte)) ws ({ frames := 1, cells := 1, slots := 16, locals := 18 } : Room) #[(.ref a1), (.int (0 : Int32)), (.int (Int32.ofNat cs.length))] h0 (fun v vm h L => ∃ d k, v = some (.ref d) ∧ Fr nb L ∧ Ext h0 h ∧ h0.size ≤ d ∧ Arv Z h d k .byte (Int32.ofNat cs.length) (cs.map fun x => Value.int (lo8 x)) (.int 0)) := by
  refine Con.mk (plainFor_of_name pn2) ?_
  intro p e s m below meth c s₁ Cc X0 e0 eb J0 B0 M0
  obtain ⟨hx, hZ, hown, hby, hml, hnm, hret, hlk⟩ := id Cc
  have N0 := Fr.nil h0.size
  have K0 := Keep.refl h0 []
  show Go p e s below _ _ _ _ s₁ (mkF m 0 #[.val (.ref a1), .val (.int (0 : Int32)), .val (.int (Int32.ofNat cs.length)), .unset, .unset, .unset] [])
  refine Go.of (fun _ hr => XS.iloadN X0.here hx rfl (hb hby d12_0) rfl  hr) ?_
  show Go p e s below _ _ _ _ s₁ (mkF m 1 #[.val (.ref a1), .val (.int (0 : Int32)), .val (.int (Int32.ofNat cs.length)), .unset, .unset, .unset] [(.int (Int32.ofNat cs.length))])
  obtain ⟨T101, h101, k101, X101, e101, E101, A101, st101⟩ := newP X0 hx hZ (hw _ (List.mem_of_getElem? (i := 4) rfl)) e0 (g := (mkF m 1 #[.val (.ref a1), .val (.int (0 : Int32)), .val (.int (Int32.ofNat cs.length)), .unset, .unset, .unset] [(.int (Int32.ofNat cs.length))])) rfl (hb hby d12_1) rfl (oi_nn (by omega)) (cap := 16) (by rw [oi_nat (by omega)]; exact hn) (by decide) (by decide) (by decide)
  obtain ⟨o101, g101⟩ : ∃ z, z = h0.size := ⟨_, rfl⟩
  rw [← g101] at A101 st101
  have ne_a1_o101 : a1 ≠ o101 := Nat.ne_of_lt (Nat.lt_of_lt_of_le V1.lt (Nat.le_of_eq g101.symm))
  have V101 := Arv.new A101 (oi_nn (by omega))
  have lt101 : o101 < h101.size := A101.lt
  have J101 := J0.add E101 g101 lt101
  have B101 := B0.mono E101.1
  have O101 := O0.ext E101
  have sz101 : h0.size ≤ o101 := Nat.le_trans K0.1 (Nat.le_of_eq g101.symm)
  have fr101 : h0.size ≤ o101 := sz101
  have K101 := K0.ext E101
  refine Go.of (fun _ hr => st101 _ hr) ?_
  show Go p e s below _ _ _ _ T101 (mkF m 3 #[.val (.ref a1), .val (.int (0 : Int32)), .val (.int (Int32.ofNat cs.length)), .unset, .unset, .unset] [(.ref o101)])
  refine Go.of (fun _ hr => XS.astoreN X101.here hx rfl (hb hby d12_3) rfl rfl (l' := #[.val (.ref a1), .val (.int (0 : Int32)), .val (.int (Int32.ofNat cs.length)), .val (.ref o101), .unset, .unset]) rfl hr) ?_
  show Go p e s below _ _ _ _ T101 (mkF m 4 #[.val (.ref a1), .val (.int (0 : Int32)), .val (.int (Int32.ofNat cs.length)), .val (.ref o101), .unset, .unset] [])
  refine Go.of (fun _ hr => XS.aloadN X101.here hx rfl (hb hby d12_4) rfl rfl hr) ?_
  show Go p e s below _ _ _ _ T101 (mkF m 5 #[.val (.ref a1), .val (.int (0 : Int32)), .val (.int (Int32.ofNat cs.length)), .val (.ref o101), .unset, .unset] [(.ref a1)])
  refine Go.of (fun _ hr => XS.iloadN X101.here hx rfl (hb hby d12_5) rfl  hr) ?_
  show Go p e s below _ _ _ _ T101 (mkF m 6 #[.val (.ref a1), .val (.int (0 : Int32)), .val (.int (Int32.ofNat cs.length)), .val (.ref o101), .unset, .unset] [(.int (0 : Int32)), (.ref a1)])
  refine Go.of (fun _ hr => XS.aloadN X101.here hx rfl (hb hby d12_6) rfl rfl hr) ?_
  show Go p e s below _ _ _ _ T101 (mkF m 7 #[.val (.ref a1), .val (.int (0 : Int32)), .val (.int (Int32.ofNat cs.length)), .val (.ref o101), .unset, .unset] [(.ref o101), (.int (0 : Int32)), (.ref a1)])
  refine Go.of (fun _ hr => XS.iconst X101.here hx rfl (hb hby d12_7) hr) ?_
  show Go p e s below _ _ _ _ T101 (mkF m 8 #[.val (.ref a1), .val (.int (0 : Int32)), .val (.int (Int32.ofNat cs.length)), .val (.ref o101), .unset, .unset] [(.int (0 : Int32)), (.ref o101), (.int (0 : Int32)), (.ref a1)])
  refine Go.of (fun _ hr => XS.iloadN X101.here hx rfl (hb hby d12_8) rfl  hr) ?_
  show Go p e s below _ _ _ _ T101 (mkF m 9 #[.val (.ref a1), .val (.int (0 : Int32)), .val (.int (Int32.ofNat cs.length)), .val (.ref o101), .unset, .unset] [(.int (Int32.ofNat cs.length)), (.int (0 : Int32)), (.ref o101), (.int (0 : Int32)), (.ref a1)])
  have f103 := (V1.ext E101)
  obtain ⟨_, b102, T102, h102, L102, e102, Cc102, X102, B102, J102, g102, hQ102, st102⟩ := own_callS Cc B101 J101 X101 (hw _ (List.mem_of_getElem? (i := 68) rfl)) (hw _ (List.mem_of_getElem? (i := 69) rfl)) (hw _ (List.mem_of_getElem? (i := 66) rfl)) (hw _ (List.mem_of_getElem? (i := 70) rfl)) (by decide) (rm13 l Z a0 hw [] a1 o101 _ _ cs _ h101 n0 O101 h0.size (own_ole O0) K101.1 fr101 trivial hn hr ne_a1_o101 f103 V101) e101 (g := (mkF m 9 #[.val (.ref a1), .val (.int (0 : Int32)), .val (.int (Int32.ofNat cs.length)), .val (.ref o101), .unset, .unset] [(.int (Int32.ofNat cs.length)), (.int (0 : Int32)), (.ref o101), (.int (0 : Int32)), (.ref a1)])) rfl (by rw [hml]; rfl) (argsL := [(.ref a1), (.int (0 : Int32)), (.ref o101), (.int (0 : Int32)), (.int (Int32.ofNat cs.length))]) (rest := []) (lenOf pd3 rfl) rfl (W := 0) (by show 2 * 0 + _ ≤ _; exact Nat.le_of_eq rfl) (hb hby d12_9) (by decide) (by decide) (by decide) (by decide)
  obtain ⟨rfl, Nq102, Kq102, Vd102⟩ := hQ102
  have N102 := Fr.app N0 Nq102
  obtain ⟨hx, hZ, hown, hby, hml, hnm, hret, hlk⟩ := id Cc102
  have K102 := K101.trans Kq102 (allS (Or.inr sz101) all0)
  have O102 := O101.keep Kq102 (allS (Nat.le_trans (own_ole O0) fr101) all0)
  refine Go.of st102 ?_
  show Go p e s below _ _ _ _ T102 (mkF m 12 #[.val (.ref a1), .val (.int (0 : Int32)), .val (.int (Int32.ofNat cs.length)), .val (.ref o101), .unset, .unset] [(.int (Int32.ofNat cs.length))])
  refine Go.of (fun _ hr => XS.istore X102.here hx rfl (hb hby d12_12) rfl (l' := #[.val (.ref a1), .val (.int (0 : Int32)), .val (.int (Int32.ofNat cs.length)), .val (.ref o101), .val (.int (Int32.ofNat cs.length)), .unset]) rfl hr) ?_
  show Go p e s below _ _ _ _ T102 (mkF m 14 #[.val (.ref a1), .val (.int (0 : Int32)), .val (.int (Int32.ofNat cs.length)), .val (.ref o101), .val (.int (Int32.ofNat cs.length)), .unset] [])
  refine Go.of (fun _ hr => XS.iload X102.here hx rfl (hb hby d12_14) rfl  hr) ?_
  show Go p e s below _ _ _ _ T102 (mkF m 16 #[.val (.ref a1), .val (.int (0 : Int32)), .val (.int (Int32.ofNat cs.length)), .val (.ref o101), .val (.int (Int32.ofNat cs.length)), .unset] [(.int (Int32.ofNat cs.length))])
  refine Go.of (fun _ hr => XS.iloadN X102.here hx rfl (hb hby d12_16) rfl  hr) ?_
  show Go p e s below _ _ _ _ T102 (mkF m 17 #[.val (.ref a1), .val (.int (0 : Int32)), .val (.int (Int32.ofNat cs.length)), .val (.ref o101), .val (.int (Int32.ofNat cs.length)), .unset] [(.int (Int32.ofNat cs.length)), (.int (Int32.ofNat cs.length))])
  refine Go.of (fun _ hr => XS.icmpYes X102.here hx rfl (pc0 := 17) (pc' := 57) rfl (hb hby d12_17) rfl (teq rfl).1 (by decide) (by decide) hr) ?_
  show Go p e s below _ _ _ _ T102 (mkF m 57 #[.val (.ref a1), .val (.int (0 : Int32)), .val (.int (Int32.ofNat cs.length)), .val (.ref o101), .val (.int (Int32.ofNat cs.length)), .unset] [])
  refine Go.of (fun _ hr => XS.aloadN X102.here hx rfl (hb hby d12_57) rfl rfl hr) ?_
  show Go p e s below _ _ _ _ T102 (mkF m 58 #[.val (.ref a1), .val (.int (0 : Int32)), .val (.int (Int32.ofNat cs.length)), .val (.ref o101), .val (.int (Int32.ofNat cs.length)), .unset] [(.ref o101)])
  exact Go.retA X102 hx hlk B102 (J102.sub fun x hx => (List.mem_cons_of_mem _ hx)) e102 hret rfl rfl (hb hby d12_58) (by decide) (by decide) (fun vm_ hw_ => ⟨_, _, rfl, (fun y hy => Nat.le_trans hnb (N102 y hy)), keep_ext K102, sz101, Vd102⟩)

theorem d14_0 : decode jdk_52_method_15_code 0 = .ok (.iload_n 1, 1) := by decide +kernel
theorem d14_1 : decode jdk_52_method_15_code 1 = .ok (.aload_n 0, 1) := by decide +kernel
theorem d14_2 : decode jdk_52_method_15_code 2 = .ok (.arraylength, 1) := by decide +kernel
theorem d14_3 : decode jdk_52_method_15_code 3 = .ok (.isub, 1) := by decide +kernel
theorem d14_4 : decode jdk_52_method_15_code 4 = .ok (.bipush 31, 2) := by decide +kernel
theorem d14_6 : decode jdk_52_method_15_code 6 = .ok (.iushr, 1) := by decide +kernel
theorem d14_7 : decode jdk_52_method_15_code 7 = .ok (.i2b, 1) := by decide +kernel
theorem d14_8 : decode jdk_52_method_15_code 8 = .ok (.ireturn, 1) := by decide +kernel
set_option maxRecDepth 65536 in
set_option maxHeartbeats 40000000 in
theorem rm14 (l : Launch) (Z : State) (a0 : Array Value) (hw : ∀ d ∈ tables_1, d.before a0 Z = true) (ws : List Jvm.Cond) (a1 : Addr) (k1 : ClassId) (z1 : Int32) (vs : List Value) (dv : Value) (ms : List Addr) (h0 : Heap) (n0 : Nat) (O0 : Old Z n0 h0) (nb : Nat) (hb0 : n0 ≤ nb) (hnb : nb ≤ h0.size) (V1 : Arv Z h0 a1 k1 .byte z1 vs dv) :
    Con l Z ms (⟨"java/lang/StringUTF16", "coderFromArrayLen", "([BI)B"⟩ : MethodName) jdk_52_method_15_code 2 (some .byte) ws ({ frames := 0, cells := 0, slots := 0, locals := 0 } : Room) #[(.ref a1), (.int z1)] h0 (fun v vm h L => v = some (.int 0) ∧ Fr nb L ∧ h = h0) := by
  refine Con.mk (plainFor_of_name pn2) ?_
  intro p e s m below meth c s₁ Cc X0 e0 eb J0 B0 M0
  obtain ⟨hx, hZ, hown, hby, hml, hnm, hret, hlk⟩ := id Cc
  have N0 := Fr.nil h0.size
  have K0 := Keep.refl h0 []
  show Go p e s below _ _ _ _ s₁ (mkF m 0 #[.val (.ref a1), .val (.int z1)] [])
  refine Go.of (fun _ hr => XS.iloadN X0.here hx rfl (hb hby d14_0) rfl  hr) ?_
  show Go p e s below _ _ _ _ s₁ (mkF m 1 #[.val (.ref a1), .val (.int z1)] [(.int z1)])
  refine Go.of (fun _ hr => XS.aloadN X0.here hx rfl (hb hby d14_1) rfl rfl hr) ?_
  show Go p e s below _ _ _ _ s₁ (mkF m 2 #[.val (.ref a1), .val (.int z1)] [(.ref a1), (.int z1)])
  obtain ⟨cl101, Ar101, q101, S101, N101_, H101, G101⟩ := id V1
  refine Go.of (fun _ hr => X0.arraylength hx (by rw [e0]; exact Ar101.1) (State.isArrayOf_alike hZ.alike Ar101.2.1) (g := (mkF m 2 #[.val (.ref a1), .val (.int z1)] [(.ref a1), (.int z1)])) rfl rfl (hb hby d14_2) _ hr) ?_
  rw [len_of S101 N101_]
  show Go p e s below _ _ _ _ s₁ (mkF m 3 #[.val (.ref a1), .val (.int z1)] [(.int z1), (.int z1)])
  refine Go.of (fun _ hr => XS.isub X0.here hx rfl (hb hby d14_3) rfl hr) ?_
  show Go p e s below _ _ _ _ s₁ (mkF m 4 #[.val (.ref a1), .val (.int z1)] [(.int (z1 - z1))])
  rw [Int32.sub_self]
  show Go p e s below _ _ _ _ s₁ (mkF m 4 #[.val (.ref a1), .val (.int z1)] [(.int (0 : Int32))])
  refine Go.of (fun _ hr => XS.bipush X0.here hx rfl (hb hby d14_4) hr) ?_
  show Go p e s below _ _ _ _ s₁ (mkF m 6 #[.val (.ref a1), .val (.int z1)] [(.int (31 : Int32)), (.int (0 : Int32))])
  refine Go.of (fun _ hr => XS.iushr X0.here hx rfl (hb hby d14_6) rfl hr) ?_
  show Go p e s below _ _ _ _ s₁ (mkF m 7 #[.val (.ref a1), .val (.int z1)] [(.int (((0 : Int32).toUInt32 >>> ((31 : Int32) &&& 31).toUInt32).toInt32))])
  refine Go.of (fun _ hr => XS.i2b X0.here hx rfl (hb hby d14_7) rfl hr) ?_
  show Go p e s below _ _ _ _ s₁ (mkF m 8 #[.val (.ref a1), .val (.int z1)] [(.int ((((0 : Int32).toUInt32 >>> ((31 : Int32) &&& 31).toUInt32).toInt32).toInt8.toInt32))])
  exact Go.retN X0 hx hlk B0 J0 e0 (t := .byte) (z' := ((((0 : Int32).toUInt32 >>> ((31 : Int32) &&& 31).toUInt32).toInt32).toInt8.toInt32)) hret (by simp) (hb hby d14_8) (by decide) (by decide) (by decide) (fun vm_ hw_ => ⟨rfl, (fun y hy => Nat.le_trans hnb (N0 y hy)), rfl⟩)

theorem d11_0 : decode jdk_42_method_149_code 0 = .ok (.aload_n 0, 1) := by decide +kernel
theorem d11_1 : decode jdk_42_method_149_code 1 = .ok (.invokespecial 1, 3) := by decide +kernel
theorem d11_4 : decode jdk_42_method_149_code 4 = .ok (.iload_n 3, 1) := by decide +kernel
theorem d11_5 : decode jdk_42_method_149_code 5 = .ok (.ifCond .ne 22, 3) := by decide +kernel
theorem d11_27 : decode jdk_42_method_149_code 27 = .ok (.getstatic 38, 3) := by decide +kernel
theorem d11_30 : decode jdk_42_method_149_code 30 = .ok (.ifCond .eq 28, 3) := by decide +kernel
theorem d11_33 : decode jdk_42_method_149_code 33 = .ok (.aload_n 1, 1) := by decide +kernel
theorem d11_34 : decode jdk_42_method_149_code 34 = .ok (.iload_n 2, 1) := by decide +kernel
theorem d11_35 : decode jdk_42_method_149_code 35 = .ok (.iload_n 3, 1) := by decide +kernel
theorem d11_36 : decode jdk_42_method_149_code 36 = .ok (.invokestatic 177, 3) := by decide +kernel
theorem pd4 : parseMethodDescriptor "([CII)[B" = some ⟨[(.array .char), .int, .int], some (.array .byte)⟩ := by decide +kernel
theorem d11_39 : decode jdk_42_method_149_code 39 = .ok (.astore 5, 2) := by decide +kernel
theorem d11_41 : decode jdk_42_method_149_code 41 = .ok (.aload_n 0, 1) := by decide +kernel
theorem d11_42 : decode jdk_42_method_149_code 42 = .ok (.aload 5, 2) := by decide +kernel
theorem d11_44 : decode jdk_42_method_149_code 44 = .ok (.iload_n 3, 1) := by decide +kernel
theorem d11_45 : decode jdk_42_method_149_code 45 = .ok (.invokestatic 47, 3) := by decide +kernel
theorem pd5 : parseMethodDescriptor "([BI)B" = some ⟨[(.array .byte), .int], some .byte⟩ := by decide +kernel
theorem d11_48 : decode jdk_42_method_149_code 48 = .ok (.putfield 15, 3) := by decide +kernel
theorem d11_51 : decode jdk_42_method_149_code 51 = .ok (.aload_n 0, 1) := by decide +kernel
theorem d11_52 : decode jdk_42_method_149_code 52 = .ok (.aload 5, 2) := by decide +kernel
theorem d11_54 : decode jdk_42_method_149_code 54 = .ok (.putfield 9, 3) := by decide +kernel
theorem d11_57 : decode jdk_42_method_149_code 57 = .ok (.return_, 1) := by decide +kernel
set_option maxRecDepth 65536 in
set_option maxHeartbeats 40000000 in
theorem rm11 (l : Launch) (Z : State) (a0 : Array Value) (hw : ∀ d ∈ tables_1, d.before a0 Z = true) (ws : List Jvm.Cond) (a1 a2 : Addr) (k2 : ClassId) (cs : List Int32) (u1 u2 : Value) (zc : Int32) (ms : List Addr) (h0 : Heap) (n0 : Nat) (O0 : Old Z n0 h0) (nb : Nat) (hb0 : n0 ≤ nb) (hnb : nb ≤ h0.size) (fr_a1 : nb ≤ a1) (hm_a1 : True) (hn : cs.length ≤ 16) (hr : ∀ x ∈ cs, ¬ x < 0 ∧ ¬ 255 < x) (hpos : 0 < cs.length) (V1 : Arv Z h0 a2 k2 .char (Int32.ofNat cs.length) (cs.map Value.int) (.int 0)) (ne12 : a2 ≠ a1) (E1 : Exa Z h0 a1 "java/lang/String") (F1 : Fld Z h0 a1 "java/lang/String" "value" "[B" u1) (F2 : Fld Z h0 a1 "java/lang/String" "coder" "B" u2) (S_C : Sta Z Z.heap "java/lang/String" "COMPACT_STRINGS" "Z" (.int zc)) (hzc : ¬ zc = 0) :
    Con l Z ms (⟨"java/lang/String", "<init>", "([CIILjava/lang/Void;)V"⟩ : MethodName) jdk_42_method_149_code 6 none ws ({ frames := 2, cells := 1, slots := 16, locals := 35 } : Room) #[(.ref a1), (.ref a2), (.int (0 : Int32)), (.int (Int32.ofNat cs.length)), .null] h0 (fun v vm h L => v = none ∧ Fr nb L ∧ Keep h0 h [a1] ∧ ∃ t k, h0.size ≤ t ∧ Fld Z h a1 "java/lang/String" "value" "[B" (.ref t) ∧ Fld Z h a1 "java/lang/String" "coder" "B" (.int 0) ∧ Arv Z h t k .byte (Int32.ofNat cs.length) (cs.map fun x => Value.int (lo8 x)) (.int 0)) := by
  refine Con.mk (plainFor_of_name pn1) ?_
  intro p e s m below meth c s₁ Cc X0 e0 eb J0 B0 M0
  obtain ⟨hx, hZ, hown, hby, hml, hnm, hret, hlk⟩ := id Cc
  have N0 := Fr.nil nb
  have K0 := Keep.refl h0 [a1]
  show Go p e s below _ _ _ _ s₁ (mkF m 0 #[.val (.ref a1), .val (.ref a2), .val (.int (0 : Int32)), .val (.int (Int32.ofNat cs.length)), .val .null, .unset] [])
  refine Go.of (fun _ hr => XS.aloadN X0.here hx rfl (hb hby d11_0) rfl rfl hr) ?_
  show Go p e s below _ _ _ _ s₁ (mkF m 1 #[.val (.ref a1), .val (.ref a2), .val (.int (0 : Int32)), .val (.int (Int32.ofNat cs.length)), .val .null, .unset] [(.ref a1)])
  obtain ⟨T101, X101, e101, st101⟩ := initO X0 hx hZ hown (hw _ (List.mem_of_getElem? (i := 25) rfl)) (hw _ (List.mem_of_getElem? (i := 26) rfl)) (hw _ (List.mem_of_getElem? (i := 27) rfl)) e0 (g := (mkF m 1 #[.val (.ref a1), .val (.ref a2), .val (.int (0 : Int32)), .val (.int (Int32.ofNat cs.length)), .val .null, .unset] [(.ref a1)])) rfl (by rw [hml]; rfl) rfl (hb hby d11_1) (by decide) (W := 0) (by show 2 * 0 + _ ≤ _; exact Nat.le_of_eq rfl) (by decide)
  refine Go.of (fun _ hr => st101 _ hr) ?_
  show Go p e s below _ _ _ _ T101 (mkF m 4 #[.val (.ref a1), .val (.ref a2), .val (.int (0 : Int32)), .val (.int (Int32.ofNat cs.length)), .val .null, .unset] [])
  refine Go.of (fun _ hr => XS.iloadN X101.here hx rfl (hb hby d11_4) rfl  hr) ?_
  show Go p e s below _ _ _ _ T101 (mkF m 5 #[.val (.ref a1), .val (.ref a2), .val (.int (0 : Int32)), .val (.int (Int32.ofNat cs.length)), .val .null, .unset] [(.int (Int32.ofNat cs.length))])
  refine Go.of (fun _ hr => XS.ifYes X101.here hx rfl (pc0 := 5) (pc' := 27) rfl (hb hby d11_5) rfl ((if0 _ _).trans (feq (fun q => by have r := congrArg Int32.toInt q; rw [oi_toInt (by omega), Int32.toInt_zero] at r; omega)).2) (by decide) (by decide) hr) ?_
  show Go p e s below _ _ _ _ T101 (mkF m 27 #[.val (.ref a1), .val (.ref a2), .val (.int (0 : Int32)), .val (.int (Int32.ofNat cs.length)), .val .null, .unset] [])
  obtain ⟨T102, X102, e102, st102⟩ := getS2 X101 hx hZ hown (host := "") (Or.inl (hw _ (List.mem_of_getElem? (i := 12) rfl))) Via.refl e101 (S_C.ext O0.2) (g := (mkF m 27 #[.val (.ref a1), .val (.ref a2), .val (.int (0 : Int32)), .val (.int (Int32.ofNat cs.length)), .val .null, .unset] [])) rfl (hb hby d11_27)
  refine Go.of (fun _ hr => st102 _ hr) ?_
  show Go p e s below _ _ _ _ T102 (mkF m 30 #[.val (.ref a1), .val (.ref a2), .val (.int (0 : Int32)), .val (.int (Int32.ofNat cs.length)), .val .null, .unset] [(.int zc)])
  refine Go.of (fun _ hr => XS.ifNo X102.here hx rfl (hb hby d11_30) rfl ((if0 _ _).trans (feq hzc).1) hr) ?_
  show Go p e s below _ _ _ _ T102 (mkF m 33 #[.val (.ref a1), .val (.ref a2), .val (.int (0 : Int32)), .val (.int (Int32.ofNat cs.length)), .val .null, .unset] [])
  refine Go.of (fun _ hr => XS.aloadN X102.here hx rfl (hb hby d11_33) rfl rfl hr) ?_
  show Go p e s below _ _ _ _ T102 (mkF m 34 #[.val (.ref a1), .val (.ref a2), .val (.int (0 : Int32)), .val (.int (Int32.ofNat cs.length)), .val .null, .unset] [(.ref a2)])
  refine Go.of (fun _ hr => XS.iloadN X102.here hx rfl (hb hby d11_34) rfl  hr) ?_
  show Go p e s below _ _ _ _ T102 (mkF m 35 #[.val (.ref a1), .val (.ref a2), .val (.int (0 : Int32)), .val (.int (Int32.ofNat cs.length)), .val .null, .unset] [(.int (0 : Int32)), (.ref a2)])
  refine Go.of (fun _ hr => XS.iloadN X102.here hx rfl (hb hby d11_35) rfl  hr) ?_
  show Go p e s below _ _ _ _ T102 (mkF m 36 #[.val (.ref a1), .val (.ref a2), .val (.int (0 : Int32)), .val (.int (Int32.ofNat cs.length)), .val .null, .unset] [(.int (Int32.ofNat cs.length)), (.int (0 : Int32)), (.ref a2)])
  obtain ⟨_, b103, T103, h103, L103, e103, Cc103, X103, B103, J103, g103, hQ103, st103⟩ := own_callS Cc B0 J0 X102 (hw _ (List.mem_of_getElem? (i := 64) rfl)) (hw _ (List.mem_of_getElem? (i := 65) rfl)) (hw _ (List.mem_of_getElem? (i := 66) rfl)) (hw _ (List.mem_of_getElem? (i := 67) rfl)) (by decide) (rm12 l Z a0 hw [] a2 _ cs _ h0 n0 O0 h0.size (own_ole O0) K0.1 hn hr V1) e102 (g := (mkF m 36 #[.val (.ref a1), .val (.ref a2), .val (.int (0 : Int32)), .val (.int (Int32.ofNat cs.length)), .val .null, .unset] [(.int (Int32.ofNat cs.length)), (.int (0 : Int32)), (.ref a2)])) rfl (by rw [hml]; rfl) (argsL := [(.ref a2), (.int (0 : Int32)), (.int (Int32.ofNat cs.length))]) (rest := []) (lenOf pd4 rfl) rfl (W := 0) (by show 2 * 0 + _ ≤ _; exact Nat.le_of_eq rfl) (hb hby d11_36) (by decide) (by decide) (by decide) (by decide)
  obtain ⟨r103, kr103, rfl, Nq103, Eq103, R_r103, Vr103⟩ := hQ103
  have N103 := Fr.app N0 (show Fr nb _ from fun y hy => Nat.le_trans hnb (Nq103 y hy))
  have NS103 := Fr.app (Fr.nil _) Nq103
  obtain ⟨hx, hZ, hown, hby, hml, hnm, hret, hlk⟩ := id Cc103
  have sz_r103 : h0.size ≤ r103 := Nat.le_trans K0.1 R_r103
  have fr_r103 : nb ≤ r103 := Nat.le_trans hnb sz_r103
  have ne_a1_r103 : a1 ≠ r103 := Nat.ne_of_lt (Nat.lt_of_lt_of_le E1.lt R_r103)
  have ne_a2_r103 : a2 ≠ r103 := Nat.ne_of_lt (Nat.lt_of_lt_of_le V1.lt R_r103)
  have K103 := K0.ext Eq103
  have O103 := O0.ext Eq103
  refine Go.of st103 ?_
  show Go p e s below _ _ _ _ T103 (mkF m 39 #[.val (.ref a1), .val (.ref a2), .val (.int (0 : Int32)), .val (.int (Int32.ofNat cs.length)), .val .null, .unset] [(.ref r103)])
  refine Go.of (fun _ hr => XS.astore X103.here hx rfl (hb hby d11_39) rfl rfl (l' := #[.val (.ref a1), .val (.ref a2), .val (.int (0 : Int32)), .val (.int (Int32.ofNat cs.length)), .val .null, .val (.ref r103)]) rfl hr) ?_
  show Go p e s below _ _ _ _ T103 (mkF m 41 #[.val (.ref a1), .val (.ref a2), .val (.int (0 : Int32)), .val (.int (Int32.ofNat cs.length)), .val .null, .val (.ref r103)] [])
  refine Go.of (fun _ hr => XS.aloadN X103.here hx rfl (hb hby d11_41) rfl rfl hr) ?_
  show Go p e s below _ _ _ _ T103 (mkF m 42 #[.val (.ref a1), .val (.ref a2), .val (.int (0 : Int32)), .val (.int (Int32.ofNat cs.length)), .val .null, .val (.ref r103)] [(.ref a1)])
  refine Go.of (fun _ hr => XS.aload X103.here hx rfl (hb hby d11_42) rfl rfl hr) ?_
  show Go p e s below _ _ _ _ T103 (mkF m 44 #[.val (.ref a1), .val (.ref a2), .val (.int (0 : Int32)), .val (.int (Int32.ofNat cs.length)), .val .null, .val (.ref r103)] [(.ref r103), (.ref a1)])
  refine Go.of (fun _ hr => XS.iloadN X103.here hx rfl (hb hby d11_44) rfl  hr) ?_
  show Go p e s below _ _ _ _ T103 (mkF m 45 #[.val (.ref a1), .val (.ref a2), .val (.int (0 : Int32)), .val (.int (Int32.ofNat cs.length)), .val .null, .val (.ref r103)] [(.int (Int32.ofNat cs.length)), (.ref r103), (.ref a1)])
  obtain ⟨_, b104, T104, h104, L104, e104, Cc104, X104, B104, J104, g104, hQ104, st104⟩ := own_callS Cc103 B103 J103 X103 (hw _ (List.mem_of_getElem? (i := 71) rfl)) (hw _ (List.mem_of_getElem? (i := 72) rfl)) (hw _ (List.mem_of_getElem? (i := 66) rfl)) (hw _ (List.mem_of_getElem? (i := 73) rfl)) (by decide) (rm14 l Z a0 hw [] r103 _ (Int32.ofNat cs.length) _ _ _ h103 n0 O103 h0.size (own_ole O0) K103.1 Vr103) e103 (g := (mkF m 45 #[.val (.ref a1), .val (.ref a2), .val (.int (0 : Int32)), .val (.int (Int32.ofNat cs.length)), .val .null, .val (.ref r103)] [(.int (Int32.ofNat cs.length)), (.ref r103), (.ref a1)])) rfl (by rw [hml]; rfl) (argsL := [(.ref r103), (.int (Int32.ofNat cs.length))]) (rest := [(.ref a1)]) (lenOf pd5 rfl) rfl (W := 1) (by show 2 * 0 + _ ≤ _; exact Nat.le_of_eq rfl) (hb hby d11_45) (by decide) (by decide) (by decide) (by decide)
  obtain ⟨rfl, Nq104, hh104⟩ := hQ104
  have N104 := Fr.app N103 (show Fr nb _ from fun y hy => Nat.le_trans hnb (Nq104 y hy))
  have NS104 := Fr.app NS103 Nq104
  obtain ⟨hx, hZ, hown, hby, hml, hnm, hret, hlk⟩ := id Cc104
  rw [hh104] at e104 B104 J104
  refine Go.of st104 ?_
  show Go p e s below _ _ _ _ T104 (mkF m 48 #[.val (.ref a1), .val (.ref a2), .val (.int (0 : Int32)), .val (.int (Int32.ofNat cs.length)), .val .null, .val (.ref r103)] [(.int (0 : Int32)), (.ref a1)])
  have f106 := (F2.ext Eq103)
  have f107 := (E1.ext Eq103)
  obtain ⟨T105, h105, X105, e105, W105, st105⟩ := putFN X104 hx hZ hown (hw _ (List.mem_of_getElem? (i := 29) rfl)) Via.refl e104 f106 f107 (Or.inr ⟨(hw _ (List.mem_of_getElem? (i := 6) rfl)), rfl, hnm⟩) (hw _ (List.mem_of_getElem? (i := 3) rfl)) (ty := .byte) (v' := (.int (0 : Int32))) (by decide) rfl rfl (g := (mkF m 48 #[.val (.ref a1), .val (.ref a2), .val (.int (0 : Int32)), .val (.int (Int32.ofNat cs.length)), .val .null, .val (.ref r103)] [(.int (0 : Int32)), (.ref a1)])) rfl rfl (hb hby d11_48)
  have N105 := Fr.snoc X105 N104 fr_a1
  have J105 := J104.wr W105 trivial
  have B105 := B104.mono (Nat.le_of_eq W105.size.symm)
  have O105 := O103.wr W105 (Nat.le_trans hb0 fr_a1)
  have K105 := K103.wr W105 (Or.inl (List.mem_of_getElem? (i := 0) rfl))
  have Fw105 := f106.same W105
  refine Go.of (fun _ hr => st105 _ hr) ?_
  show Go p e s below _ _ _ _ T105 (mkF m 51 #[.val (.ref a1), .val (.ref a2), .val (.int (0 : Int32)), .val (.int (Int32.ofNat cs.length)), .val .null, .val (.ref r103)] [])
  refine Go.of (fun _ hr => XS.aloadN X105.here hx rfl (hb hby d11_51) rfl rfl hr) ?_
  show Go p e s below _ _ _ _ T105 (mkF m 52 #[.val (.ref a1), .val (.ref a2), .val (.int (0 : Int32)), .val (.int (Int32.ofNat cs.length)), .val .null, .val (.ref r103)] [(.ref a1)])
  refine Go.of (fun _ hr => XS.aload X105.here hx rfl (hb hby d11_52) rfl rfl hr) ?_
  show Go p e s below _ _ _ _ T105 (mkF m 54 #[.val (.ref a1), .val (.ref a2), .val (.int (0 : Int32)), .val (.int (Int32.ofNat cs.length)), .val .null, .val (.ref r103)] [(.ref r103), (.ref a1)])
  have f109 := ((F1.ext Eq103).other W105 (Or.inr (slot_ne (Or.inr (hw _ (List.mem_of_getElem? (i := 5) rfl))) (Or.inr (hw _ (List.mem_of_getElem? (i := 6) rfl))) (by decide) (t := (.array .byte)) (t' := .byte) (by decide) (by decide))))
  have f110 := (f107.wr W105)
  obtain ⟨T108, h108, X108, e108, W108, st108⟩ := putF X105 hx hZ hown (host := "") (Or.inl (hw _ (List.mem_of_getElem? (i := 28) rfl))) Via.refl e105 f109 f110 (Or.inr ⟨(hw _ (List.mem_of_getElem? (i := 5) rfl)), rfl, hnm⟩) (hw _ (List.mem_of_getElem? (i := 3) rfl)) (ty := (.array .byte)) (by decide) rfl rfl (g := (mkF m 54 #[.val (.ref a1), .val (.ref a2), .val (.int (0 : Int32)), .val (.int (Int32.ofNat cs.length)), .val .null, .val (.ref r103)] [(.ref r103), (.ref a1)])) rfl rfl (hb hby d11_54)
  have N108 := Fr.snoc X108 N105 fr_a1
  have J108 := J105.wr W108 trivial
  have B108 := B105.mono (Nat.le_of_eq W108.size.symm)
  have O108 := O105.wr W108 (Nat.le_trans hb0 fr_a1)
  have K108 := K105.wr W108 (Or.inl (List.mem_of_getElem? (i := 0) rfl))
  have Fw108 := f109.same W108
  refine Go.of (fun _ hr => st108 _ hr) ?_
  show Go p e s below _ _ _ _ T108 (mkF m 57 #[.val (.ref a1), .val (.ref a2), .val (.int (0 : Int32)), .val (.int (Int32.ofNat cs.length)), .val .null, .val (.ref r103)] [])
  have f111 := (Fw105.other W108 (Or.inr (slot_ne (Or.inr (hw _ (List.mem_of_getElem? (i := 6) rfl))) (Or.inr (hw _ (List.mem_of_getElem? (i := 5) rfl))) (by decide) (t := .byte) (t' := (.array .byte)) (by decide) (by decide))))
  have f112 := ((Vr103.other W105 (Ne.symm ne_a1_r103)).other W108 (Ne.symm ne_a1_r103))
  exact Go.retV X108 hx hlk B108 J108 e108 hret (hb hby d11_57) (by decide) (by decide) (fun vm_ hw_ => ⟨rfl, N108, K108, _, _, sz_r103, Fw108, f111, f112⟩)

theorem d10_0 : decode jdk_42_method_3_code 0 = .ok (.aload_n 0, 1) := by decide +kernel
theorem d10_1 : decode jdk_42_method_3_code 1 = .ok (.aload_n 1, 1) := by decide +kernel
theorem d10_2 : decode jdk_42_method_3_code 2 = .ok (.iconst 0, 1) := by decide +kernel
theorem d10_3 : decode jdk_42_method_3_code 3 = .ok (.aload_n 1, 1) := by decide +kernel
theorem d10_4 : decode jdk_42_method_3_code 4 = .ok (.arraylength, 1) := by decide +kernel
theorem d10_5 : decode jdk_42_method_3_code 5 = .ok (.aconst_null, 1) := by decide +kernel
theorem d10_6 : decode jdk_42_method_3_code 6 = .ok (.invokespecial 27, 3) := by decide +kernel
theorem pd6 : parseMethodDescriptor "([CIILjava/lang/Void;)V" = some ⟨[(.array .char), .int, .int, (.object "java/lang/Void")], none⟩ := by decide +kernel
theorem d10_9 : decode jdk_42_method_3_code 9 = .ok (.return_, 1) := by decide +kernel
set_option maxRecDepth 65536 in
set_option maxHeartbeats 40000000 in
theorem rm10 (l : Launch) (Z : State) (a0 : Array Value) (hw : ∀ d ∈ tables_1, d.before a0 Z = true) (ws : List Jvm.Cond) (a1 a2 : Addr) (k2 : ClassId) (cs : List Int32) (u1 u2 : Value) (zc : Int32) (ms : List Addr) (h0 : Heap) (n0 : Nat) (O0 : Old Z n0 h0) (nb : Nat) (hb0 : n0 ≤ nb) (hnb : nb ≤ h0.size) (fr_a1 : nb ≤ a1) (hm_a1 : True) (hn : cs.length ≤ 16) (hr : ∀ x ∈ cs, ¬ x < 0 ∧ ¬ 255 < x) (hpos : 0 < cs.length) (V1 : Arv Z h0 a2 k2 .char (Int32.ofNat cs.length) (cs.map Value.int) (.int 0)) (ne12 : a2 ≠ a1) (E1 : Exa Z h0 a1 "java/lang/String") (F1 : Fld Z h0 a1 "java/lang/String" "value" "[B" u1) (F2 : Fld Z h0 a1 "java/lang/String" "coder" "B" u2) (S_C : Sta Z Z.heap "java/lang/String" "COMPACT_STRINGS" "Z" (.int zc)) (hzc : ¬ zc = 0) :
    Con l Z ms (⟨"java/lang/String", "<init>", "([C)V"⟩ : MethodName) jdk_42_method_3_code 2 none ws ({ frames := 3, cells := 1, slots := 16, locals := 52 } : Room) #[(.ref a1), (.ref a2)] h0 (fun v vm h L => v = none ∧ Fr nb L ∧ Keep h0 h [a1] ∧ ∃ t k, h0.size ≤ t ∧ Fld Z h a1 "java/lang/String" "value" "[B" (.ref t) ∧ Fld Z h a1 "java/lang/String" "coder" "B" (.int 0) ∧ Arv Z h t k .byte (Int32.ofNat cs.length) (cs.map fun x => Value.int (lo8 x)) (.int 0)) := by
  refine Con.mk (plainFor_of_name pn1) ?_
  intro p e s m below meth c s₁ Cc X0 e0 eb J0 B0 M0
  obtain ⟨hx, hZ, hown, hby, hml, hnm, hret, hlk⟩ := id Cc
  have N0 := Fr.nil nb
  have K0 := Keep.refl h0 [a1]
  show Go p e s below _ _ _ _ s₁ (mkF m 0 #[.val (.ref a1), .val (.ref a2)] [])
  refine Go.of (fun _ hr => XS.aloadN X0.here hx rfl (hb hby d10_0) rfl rfl hr) ?_
  show Go p e s below _ _ _ _ s₁ (mkF m 1 #[.val (.ref a1), .val (.ref a2)] [(.ref a1)])
  refine Go.of (fun _ hr => XS.aloadN X0.here hx rfl (hb hby d10_1) rfl rfl hr) ?_
  show Go p e s below _ _ _ _ s₁ (mkF m 2 #[.val (.ref a1), .val (.ref a2)] [(.ref a2), (.ref a1)])
  refine Go.of (fun _ hr => XS.iconst X0.here hx rfl (hb hby d10_2) hr) ?_
  show Go p e s below _ _ _ _ s₁ (mkF m 3 #[.val (.ref a1), .val (.ref a2)] [(.int (0 : Int32)), (.ref a2), (.ref a1)])
  refine Go.of (fun _ hr => XS.aloadN X0.here hx rfl (hb hby d10_3) rfl rfl hr) ?_
  show Go p e s below _ _ _ _ s₁ (mkF m 4 #[.val (.ref a1), .val (.ref a2)] [(.ref a2), (.int (0 : Int32)), (.ref a2), (.ref a1)])
  obtain ⟨cl101, Ar101, q101, S101, N101_, H101, G101⟩ := id V1
  refine Go.of (fun _ hr => X0.arraylength hx (by rw [e0]; exact Ar101.1) (State.isArrayOf_alike hZ.alike Ar101.2.1) (g := (mkF m 4 #[.val (.ref a1), .val (.ref a2)] [(.ref a2), (.int (0 : Int32)), (.ref a2), (.ref a1)])) rfl rfl (hb hby d10_4) _ hr) ?_
  rw [len_of S101 N101_]
  show Go p e s below _ _ _ _ s₁ (mkF m 5 #[.val (.ref a1), .val (.ref a2)] [(.int (Int32.ofNat cs.length)), (.int (0 : Int32)), (.ref a2), (.ref a1)])
  refine Go.of (fun _ hr => XS.aconstNull X0.here hx rfl (hb hby d10_5) hr) ?_
  show Go p e s below _ _ _ _ s₁ (mkF m 6 #[.val (.ref a1), .val (.ref a2)] [.null, (.int (Int32.ofNat cs.length)), (.int (0 : Int32)), (.ref a2), (.ref a1)])
  obtain ⟨_, b102, T102, h102, L102, e102, Cc102, X102, B102, J102, g102, hQ102, st102⟩ := own_callI Cc B0 J0 X0 rfl (hw _ (List.mem_of_getElem? (i := 61) rfl)) (hw _ (List.mem_of_getElem? (i := 62) rfl)) (hw _ (List.mem_of_getElem? (i := 2) rfl)) (hw _ (List.mem_of_getElem? (i := 63) rfl)) (by decide) (rm11 l Z a0 hw [] a1 a2 _ cs _ _ zc _ h0 n0 O0 nb hb0 (Nat.le_trans hnb K0.1) fr_a1 trivial hn hr hpos V1 ne12 E1 F1 F2 S_C hzc) e0 (g := (mkF m 6 #[.val (.ref a1), .val (.ref a2)] [.null, (.int (Int32.ofNat cs.length)), (.int (0 : Int32)), (.ref a2), (.ref a1)])) rfl (by rw [hml]; rfl) (argsL := [(.ref a2), (.int (0 : Int32)), (.int (Int32.ofNat cs.length)), .null]) (rest := []) (lenOf pd6 rfl) rfl (W := 0) (by show 2 * 0 + _ ≤ _; exact Nat.le_of_eq rfl) (hb hby d10_6) (by decide) (by decide) (by decide) (by decide)
  obtain ⟨rfl, Nq102, Kq102, t102, kt102, R_t102, Fv102, Fc102, Vt102⟩ := hQ102
  have N102 := Fr.app N0 Nq102
  obtain ⟨hx, hZ, hown, hby, hml, hnm, hret, hlk⟩ := id Cc102
  have sz_t102 : h0.size ≤ t102 := Nat.le_trans K0.1 R_t102
  have fr_t102 : nb ≤ t102 := Nat.le_trans hnb sz_t102
  have ne_a1_t102 : a1 ≠ t102 := Nat.ne_of_lt (Nat.lt_of_lt_of_le E1.lt R_t102)
  have ne_a2_t102 : a2 ≠ t102 := Nat.ne_of_lt (Nat.lt_of_lt_of_le V1.lt R_t102)
  have K102 := K0.trans Kq102 (allS (Or.inl (List.mem_of_getElem? (i := 0) rfl)) all0)
  have O102 := O0.keep Kq102 (allS (Nat.le_trans hb0 fr_a1) all0)
  refine Go.of st102 ?_
  show Go p e s below _ _ _ _ T102 (mkF m 9 #[.val (.ref a1), .val (.ref a2)] [])
  exact Go.retV X102 hx hlk B102 J102 e102 hret (hb hby d10_9) (by decide) (by decide) (fun vm_ hw_ => ⟨rfl, N102, K102, _, _, sz_t102, Fv102, Fc102, Vt102⟩)

theorem pn3 : plainName "com/example/liken2/liken2/cli/Arguments" = true := by first | (simp [plainName, overriddenIn]; done) | decide +kernel
theorem d6_0 : decode prog_1_method_4_code 0 = .ok (.aload_n 0, 1) := by decide +kernel
theorem d6_1 : decode prog_1_method_4_code 1 = .ok (.ifnull 17, 3) := by decide +kernel
theorem d6_18 : decode prog_1_method_4_code 18 = .ok (.aload_n 1, 1) := by decide +kernel
theorem d6_19 : decode prog_1_method_4_code 19 = .ok (.areturn, 1) := by decide +kernel
set_option maxRecDepth 65536 in
set_option maxHeartbeats 40000000 in
theorem rmOR (l : Launch) (Z : State) (a0 : Array Value) (hw : ∀ d ∈ tables_1, d.before a0 Z = true) (ws : List Jvm.Cond) (a2 a3 : Addr) (ms : List Addr) (h0 : Heap) (n0 : Nat) (O0 : Old Z n0 h0) (nb : Nat) (hb0 : n0 ≤ nb) (hnb : nb ≤ h0.size) :
    Con l Z ms (⟨"com/example/liken2/liken2/cli/Arguments", "once", "(Ljava/lang/Object;Ljava/lang/Object;Ljava/lang/String;)Ljava/lang/Object;"⟩ : MethodName) prog_1_method_4_code 3 (some (.object "java/lang/Object")) ws ({ frames := 0, cells := 0, slots := 0, locals := 0 } : Room) #[.null, (.ref a2), (.ref a3)] h0 (fun v vm h L => v = some (.ref a2) ∧ Fr nb L ∧ h = h0) := by
  refine Con.mk (plainFor_of_name pn3) ?_
  intro p e s m below meth c s₁ Cc X0 e0 eb J0 B0 M0
  obtain ⟨hx, hZ, hown, hby, hml, hnm, hret, hlk⟩ := id Cc
  have N0 := Fr.nil h0.size
  have K0 := Keep.refl h0 []
  show Go p e s below _ _ _ _ s₁ (mkF m 0 #[.val .null, .val (.ref a2), .val (.ref a3)] [])
  refine Go.of (fun _ hr => XS.aloadN X0.here hx rfl (hb hby d6_0) rfl rfl hr) ?_
  show Go p e s below _ _ _ _ s₁ (mkF m 1 #[.val .null, .val (.ref a2), .val (.ref a3)] [.null])
  refine Go.of (fun _ hr => XS.ifnullYes X0.here hx rfl (pc0 := 1) (pc' := 18) rfl (hb hby d6_1) rfl (by decide) (by decide) hr) ?_
  show Go p e s below _ _ _ _ s₁ (mkF m 18 #[.val .null, .val (.ref a2), .val (.ref a3)] [])
  refine Go.of (fun _ hr => XS.aloadN X0.here hx rfl (hb hby d6_18) rfl rfl hr) ?_
  show Go p e s below _ _ _ _ s₁ (mkF m 19 #[.val .null, .val (.ref a2), .val (.ref a3)] [(.ref a2)])
  exact Go.retA X0 hx hlk B0 J0 e0 hret rfl rfl (hb hby d6_19) (by decide) (by decide) (fun vm_ hw_ => ⟨rfl, (fun y hy => Nat.le_trans hnb (N0 y hy)), rfl⟩)

set_option maxRecDepth 65536 in
set_option maxHeartbeats 40000000 in
theorem rmON (l : Launch) (Z : State) (a0 : Array Value) (hw : ∀ d ∈ tables_1, d.before a0 Z = true) (ws : List Jvm.Cond) (a3 : Addr) (ms : List Addr) (h0 : Heap) (n0 : Nat) (O0 : Old Z n0 h0) (nb : Nat) (hb0 : n0 ≤ nb) (hnb : nb ≤ h0.size) :
    Con l Z ms (⟨"com/example/liken2/liken2/cli/Arguments", "once", "(Ljava/lang/Object;Ljava/lang/Object;Ljava/lang/String;)Ljava/lang/Object;"⟩ : MethodName) prog_1_method_4_code 3 (some (.object "java/lang/Object")) ws ({ frames := 0, cells := 0, slots := 0, locals := 0 } : Room) #[.null, .null, (.ref a3)] h0 (fun v vm h L => v = some .null ∧ Fr nb L ∧ h = h0) := by
  refine Con.mk (plainFor_of_name pn3) ?_
  intro p e s m below meth c s₁ Cc X0 e0 eb J0 B0 M0
  obtain ⟨hx, hZ, hown, hby, hml, hnm, hret, hlk⟩ := id Cc
  have N0 := Fr.nil h0.size
  have K0 := Keep.refl h0 []
  show Go p e s below _ _ _ _ s₁ (mkF m 0 #[.val .null, .val .null, .val (.ref a3)] [])
  refine Go.of (fun _ hr => XS.aloadN X0.here hx rfl (hb hby d6_0) rfl rfl hr) ?_
  show Go p e s below _ _ _ _ s₁ (mkF m 1 #[.val .null, .val .null, .val (.ref a3)] [.null])
  refine Go.of (fun _ hr => XS.ifnullYes X0.here hx rfl (pc0 := 1) (pc' := 18) rfl (hb hby d6_1) rfl (by decide) (by decide) hr) ?_
  show Go p e s below _ _ _ _ s₁ (mkF m 18 #[.val .null, .val .null, .val (.ref a3)] [])
  refine Go.of (fun _ hr => XS.aloadN X0.here hx rfl (hb hby d6_18) rfl rfl hr) ?_
  show Go p e s below _ _ _ _ s₁ (mkF m 19 #[.val .null, .val .null, .val (.ref a3)] [.null])
  exact Go.retA X0 hx hlk B0 J0 e0 hret rfl rfl (hb hby d6_19) (by decide) (by decide) (fun vm_ hw_ => ⟨rfl, (fun y hy => Nat.le_trans hnb (N0 y hy)), rfl⟩)

theorem pn4 : plainName "java/lang/Number" = true := by first | (simp [plainName, overriddenIn]; done) | decide +kernel
theorem d9_0 : decode jdk_18_method_1_code 0 = .ok (.aload_n 0, 1) := by decide +kernel
theorem d9_1 : decode jdk_18_method_1_code 1 = .ok (.invokespecial 1, 3) := by decide +kernel
theorem d9_4 : decode jdk_18_method_1_code 4 = .ok (.return_, 1) := by decide +kernel
set_option maxRecDepth 65536 in
set_option maxHeartbeats 40000000 in
theorem rm9 (l : Launch) (Z : State) (a0 : Array Value) (hw : ∀ d ∈ tables_1, d.before a0 Z = true) (ws : List Jvm.Cond) (a1 : Addr) (ms : List Addr) (h0 : Heap) (n0 : Nat) (O0 : Old Z n0 h0) (nb : Nat) (hb0 : n0 ≤ nb) (hnb : nb ≤ h0.size) :
    Con l Z ms (⟨"java/lang/Number", "<init>", "()V"⟩ : MethodName) jdk_18_method_1_code 1 none ws ({ frames := 1, cells := 0, slots := 0, locals := 12 } : Room) #[(.ref a1)] h0 (fun v vm h L => v = none ∧ Fr nb L ∧ h = h0) := by
  refine Con.mk (plainFor_of_name pn4) ?_
  intro p e s m below meth c s₁ Cc X0 e0 eb J0 B0 M0
  obtain ⟨hx, hZ, hown, hby, hml, hnm, hret, hlk⟩ := id Cc
  have N0 := Fr.nil h0.size
  have K0 := Keep.refl h0 []
  show Go p e s below _ _ _ _ s₁ (mkF m 0 #[.val (.ref a1)] [])
  refine Go.of (fun _ hr => XS.aloadN X0.here hx rfl (hb hby d9_0) rfl rfl hr) ?_
  show Go p e s below _ _ _ _ s₁ (mkF m 1 #[.val (.ref a1)] [(.ref a1)])
  obtain ⟨T101, X101, e101, st101⟩ := initO X0 hx hZ hown (hw _ (List.mem_of_getElem? (i := 55) rfl)) (hw _ (List.mem_of_getElem? (i := 26) rfl)) (hw _ (List.mem_of_getElem? (i := 27) rfl)) e0 (g := (mkF m 1 #[.val (.ref a1)] [(.ref a1)])) rfl (by rw [hml]; rfl) rfl (hb hby d9_1) (by decide) (W := 0) (by show 2 * 0 + _ ≤ _; exact Nat.le_of_eq rfl) (by decide)
  refine Go.of (fun _ hr => st101 _ hr) ?_
  show Go p e s below _ _ _ _ T101 (mkF m 4 #[.val (.ref a1)] [])
  exact Go.retV X101 hx hlk B0 J0 e101 hret (hb hby d9_4) (by decide) (by decide) (fun vm_ hw_ => ⟨rfl, (fun y hy => Nat.le_trans hnb (N0 y hy)), rfl⟩)

theorem pn5 : plainName "java/lang/Integer" = true := by first | (simp [plainName, overriddenIn]; done) | decide +kernel
theorem d8_0 : decode jdk_33_method_23_code 0 = .ok (.aload_n 0, 1) := by decide +kernel
theorem d8_1 : decode jdk_33_method_23_code 1 = .ok (.invokespecial 202, 3) := by decide +kernel
theorem pd7 : parseMethodDescriptor "()V" = some ⟨[], none⟩ := by decide +kernel
theorem d8_4 : decode jdk_33_method_23_code 4 = .ok (.aload_n 0, 1) := by decide +kernel
theorem d8_5 : decode jdk_33_method_23_code 5 = .ok (.iload_n 1, 1) := by decide +kernel
theorem d8_6 : decode jdk_33_method_23_code 6 = .ok (.putfield 205, 3) := by decide +kernel
theorem d8_9 : decode jdk_33_method_23_code 9 = .ok (.return_, 1) := by decide +kernel
set_option maxRecDepth 65536 in
set_option maxHeartbeats 40000000 in
theorem rm8 (l : Launch) (Z : State) (a0 : Array Value) (hw : ∀ d ∈ tables_1, d.before a0 Z = true) (ws : List Jvm.Cond) (a1 : Addr) (p2 : Int32) (u1 : Value) (ms : List Addr) (h0 : Heap) (n0 : Nat) (O0 : Old Z n0 h0) (nb : Nat) (hb0 : n0 ≤ nb) (hnb : nb ≤ h0.size) (fr_a1 : nb ≤ a1) (hm_a1 : True) (E1 : Exa Z h0 a1 "java/lang/Integer") (F1 : Fld Z h0 a1 "java/lang/Integer" "value" "I" u1) :
    Con l Z ms (⟨"java/lang/Integer", "<init>", "(I)V"⟩ : MethodName) jdk_33_method_23_code 2 none ws ({ frames := 2, cells := 0, slots := 0, locals := 24 } : Room) #[(.ref a1), (.int p2)] h0 (fun v vm h L => v = none ∧ Fr nb L ∧ Keep h0 h [a1]) := by
  refine Con.mk (plainFor_of_name pn5) ?_
  intro p e s m below meth c s₁ Cc X0 e0 eb J0 B0 M0
  obtain ⟨hx, hZ, hown, hby, hml, hnm, hret, hlk⟩ := id Cc
  have N0 := Fr.nil nb
  have K0 := Keep.refl h0 [a1]
  show Go p e s below _ _ _ _ s₁ (mkF m 0 #[.val (.ref a1), .val (.int p2)] [])
  refine Go.of (fun _ hr => XS.aloadN X0.here hx rfl (hb hby d8_0) rfl rfl hr) ?_
  show Go p e s below _ _ _ _ s₁ (mkF m 1 #[.val (.ref a1), .val (.int p2)] [(.ref a1)])
  obtain ⟨_, b101, T101, h101, L101, e101, Cc101, X101, B101, J101, g101, hQ101, st101⟩ := own_callI Cc B0 J0 X0 rfl (hw _ (List.mem_of_getElem? (i := 49) rfl)) (hw _ (List.mem_of_getElem? (i := 50) rfl)) (hw _ (List.mem_of_getElem? (i := 53) rfl)) (hw _ (List.mem_of_getElem? (i := 54) rfl)) (by decide) (rm9 l Z a0 hw [] a1 _ h0 n0 O0 h0.size (own_ole O0) K0.1) e0 (g := (mkF m 1 #[.val (.ref a1), .val (.int p2)] [(.ref a1)])) rfl (by rw [hml]; rfl) (argsL := []) (rest := []) (lenOf pd7 rfl) rfl (W := 0) (by show 2 * 0 + _ ≤ _; exact Nat.le_of_eq rfl) (hb hby d8_1) (by decide) (by decide) (by decide) (by decide)
  obtain ⟨rfl, Nq101, hh101⟩ := hQ101
  have N101 := Fr.app N0 (show Fr nb _ from fun y hy => Nat.le_trans hnb (Nq101 y hy))
  have NS101 := Fr.app (Fr.nil _) Nq101
  obtain ⟨hx, hZ, hown, hby, hml, hnm, hret, hlk⟩ := id Cc101
  rw [hh101] at e101 B101 J101
  refine Go.of st101 ?_
  show Go p e s below _ _ _ _ T101 (mkF m 4 #[.val (.ref a1), .val (.int p2)] [])
  refine Go.of (fun _ hr => XS.aloadN X101.here hx rfl (hb hby d8_4) rfl rfl hr) ?_
  show Go p e s below _ _ _ _ T101 (mkF m 5 #[.val (.ref a1), .val (.int p2)] [(.ref a1)])
  refine Go.of (fun _ hr => XS.iloadN X101.here hx rfl (hb hby d8_5) rfl  hr) ?_
  show Go p e s below _ _ _ _ T101 (mkF m 6 #[.val (.ref a1), .val (.int p2)] [(.int p2), (.ref a1)])
  obtain ⟨T102, h102, X102, e102, W102, st102⟩ := putF X101 hx hZ hown (host := "") (Or.inl (hw _ (List.mem_of_getElem? (i := 56) rfl))) Via.refl e101 F1 E1 (Or.inr ⟨(hw _ (List.mem_of_getElem? (i := 57) rfl)), rfl, hnm⟩) (hw _ (List.mem_of_getElem? (i := 45) rfl)) (ty := .int) (by decide) rfl rfl (g := (mkF m 6 #[.val (.ref a1), .val (.int p2)] [(.int p2), (.ref a1)])) rfl rfl (hb hby d8_6)
  have N102 := Fr.snoc X102 N101 fr_a1
  have J102 := J101.wr W102 trivial
  have B102 := B101.mono (Nat.le_of_eq W102.size.symm)
  have O102 := O0.wr W102 (Nat.le_trans hb0 fr_a1)
  have K102 := K0.wr W102 (Or.inl (List.mem_of_getElem? (i := 0) rfl))
  have Fw102 := F1.same W102
  refine Go.of (fun _ hr => st102 _ hr) ?_
  show Go p e s below _ _ _ _ T102 (mkF m 9 #[.val (.ref a1), .val (.int p2)] [])
  exact Go.retV X102 hx hlk B102 J102 e102 hret (hb hby d8_9) (by decide) (by decide) (fun vm_ hw_ => ⟨rfl, N102, K102⟩)

theorem box_in {x : Int32} {cc : Cell} (h1 : ¬ x < (-128 : Int32)) (h2 : ¬ (127 : Int32) < x) (hs : cc.slots.size = (256 : Int32).toNatClampNeg) : ¬ (x + (128 : Int32) < 0 ∨ cc.slots.size ≤ (x + (128 : Int32)).toNatClampNeg) := by
  have q := c_iadd x 128
  have r := rng32 (x + 128)
  have a : (128 : Int32).toInt = 128 := by decide
  have b : (127 : Int32).toInt = 127 := by decide
  have c : (-128 : Int32).toInt = -128 := by decide
  rw [Int32.lt_iff_toInt_lt] at h1 h2
  refine inb_of hs ⟨?_, ?_⟩
  · rw [Int32.lt_iff_toInt_lt, Int32.toInt_zero]; omega
  · rw [Int32.lt_iff_toInt_lt, show (256 : Int32).toInt = 256 by decide]; omega

theorem d7_0 : decode jdk_33_method_22_code 0 = .ok (.iload_n 0, 1) := by decide +kernel
theorem d7_1 : decode jdk_33_method_22_code 1 = .ok (.bipush (-128), 2) := by decide +kernel
theorem d7_3 : decode jdk_33_method_22_code 3 = .ok (.if_icmp .lt 20, 3) := by decide +kernel
theorem d7_23 : decode jdk_33_method_22_code 23 = .ok (.new 1, 3) := by decide +kernel
theorem d7_26 : decode jdk_33_method_22_code 26 = .ok (.dup, 1) := by decide +kernel
theorem d7_27 : decode jdk_33_method_22_code 27 = .ok (.iload_n 0, 1) := by decide +kernel
theorem d7_28 : decode jdk_33_method_22_code 28 = .ok (.invokespecial 199, 3) := by decide +kernel
theorem pd8 : parseMethodDescriptor "(I)V" = some ⟨[.int], none⟩ := by decide +kernel
theorem d7_31 : decode jdk_33_method_22_code 31 = .ok (.areturn, 1) := by decide +kernel
theorem d7_6 : decode jdk_33_method_22_code 6 = .ok (.iload_n 0, 1) := by decide +kernel
theorem d7_7 : decode jdk_33_method_22_code 7 = .ok (.getstatic 191, 3) := by decide +kernel
theorem d7_10 : decode jdk_33_method_22_code 10 = .ok (.if_icmp .gt 13, 3) := by decide +kernel
theorem d7_13 : decode jdk_33_method_22_code 13 = .ok (.getstatic 195, 3) := by decide +kernel
theorem d7_16 : decode jdk_33_method_22_code 16 = .ok (.iload_n 0, 1) := by decide +kernel
theorem d7_17 : decode jdk_33_method_22_code 17 = .ok (.sipush 128, 3) := by decide +kernel
theorem d7_20 : decode jdk_33_method_22_code 20 = .ok (.iadd, 1) := by decide +kernel
theorem d7_21 : decode jdk_33_method_22_code 21 = .ok (.aaload, 1) := by decide +kernel
theorem d7_22 : decode jdk_33_method_22_code 22 = .ok (.areturn, 1) := by decide +kernel
set_option maxRecDepth 65536 in
set_option maxHeartbeats 40000000 in
theorem rm7 (l : Launch) (Z : State) (a0 : Array Value) (hw : ∀ d ∈ tables_1, d.before a0 Z = true) (ws : List Jvm.Cond) (x1 : Int32) (wc : Addr) (cc : Cell) (ms : List Addr) (h0 : Heap) (n0 : Nat) (O0 : Old Z n0 h0) (nb : Nat) (hb0 : n0 ≤ nb) (hnb : nb ≤ h0.size) (S_high : Sta Z Z.heap "java/lang/Integer$IntegerCache" "high" "I" (.int 127)) (S_cache : Sta Z Z.heap "java/lang/Integer$IntegerCache" "cache" "[Ljava/lang/Integer;" (.ref wc)) (BX : Bxs Z wc cc "java/lang/Integer" "I" 256 (fun j => .int (j - 128))) :
    Con l Z ms (⟨"java/lang/Integer", "valueOf", "(I)Ljava/lang/Integer;"⟩ : MethodName) jdk_33_method_22_code 1 (some (.object "java/lang/Integer")) ws ({ frames := 3, cells := 1, slots := 1, locals := 38 } : Room) #[(.int x1)] h0 (fun v vm h L => ∃ r, v = some (.ref r) ∧ Fr nb L ∧ Ext h0 h ∧ Exa Z h r "java/lang/Integer") := by
  refine Con.mk (plainFor_of_name pn5) ?_
  intro p e s m below meth c s₁ Cc X0 e0 eb J0 B0 M0
  obtain ⟨hx, hZ, hown, hby, hml, hnm, hret, hlk⟩ := id Cc
  have N0 := Fr.nil h0.size
  have K0 := Keep.refl h0 []
  show Go p e s below _ _ _ _ s₁ (mkF m 0 #[.val (.int x1)] [])
  refine Go.of (fun _ hr => XS.iloadN X0.here hx rfl (hb hby d7_0) rfl  hr) ?_
  show Go p e s below _ _ _ _ s₁ (mkF m 1 #[.val (.int x1)] [(.int x1)])
  refine Go.of (fun _ hr => XS.bipush X0.here hx rfl (hb hby d7_1) hr) ?_
  show Go p e s below _ _ _ _ s₁ (mkF m 3 #[.val (.int x1)] [(.int (-128 : Int32)), (.int x1)])
  by_cases hb3_101 : x1 < (-128 : Int32)
  · refine Go.of (fun _ hr => XS.icmpYes X0.here hx rfl (pc0 := 3) (pc' := 23) rfl (hb hby d7_3) rfl (tlt hb3_101).1 (by decide) (by decide) hr) ?_
    show Go p e s below _ _ _ _ s₁ (mkF m 23 #[.val (.int x1)] [])
    obtain ⟨T102, h102, X102, e102, E102, A102, D102, -, st102⟩ := newO X0 hx hZ hown (hw _ (List.mem_of_getElem? (i := 44) rfl)) (hw _ (List.mem_of_getElem? (i := 45) rfl)) (hw _ (List.mem_of_getElem? (i := 37) rfl)) e0 (g := (mkF m 23 #[.val (.int x1)] [])) rfl (hb hby d7_23) (by decide) (by decide)
    obtain ⟨o102, g102⟩ : ∃ z, z = h0.size := ⟨_, rfl⟩
    rw [← g102] at A102 D102 st102
    have lt102 : o102 < h102.size := A102.lt
    have J102 := J0.add E102 g102 lt102
    have B102 := B0.mono E102.1
    have O102 := O0.ext E102
    have sz102 : h0.size ≤ o102 := Nat.le_trans K0.1 (Nat.le_of_eq g102.symm)
    have fr102 : h0.size ≤ o102 := sz102
    have K102 := K0.ext E102
    have F102_value : Fld Z h102 o102 "java/lang/Integer" "value" "I" (.int (0 : Int32)) := D102 (Or.inr (hw _ (List.mem_of_getElem? (i := 57) rfl))) (ty := .int) (by decide)
    refine Go.of (fun _ hr => st102 _ hr) ?_
    show Go p e s below _ _ _ _ T102 (mkF m 26 #[.val (.int x1)] [(.ref o102)])
    refine Go.of (fun _ hr => XS.dup X102.here hx rfl (hb hby d7_26) rfl rfl hr) ?_
    show Go p e s below _ _ _ _ T102 (mkF m 27 #[.val (.int x1)] [(.ref o102), (.ref o102)])
    refine Go.of (fun _ hr => XS.iloadN X102.here hx rfl (hb hby d7_27) rfl  hr) ?_
    show Go p e s below _ _ _ _ T102 (mkF m 28 #[.val (.int x1)] [(.int x1), (.ref o102), (.ref o102)])
    obtain ⟨_, b103, T103, h103, L103, e103, Cc103, X103, B103, J103, g103, hQ103, st103⟩ := own_callI Cc B102 J102 X102 rfl (hw _ (List.mem_of_getElem? (i := 46) rfl)) (hw _ (List.mem_of_getElem? (i := 47) rfl)) (hw _ (List.mem_of_getElem? (i := 37) rfl)) (hw _ (List.mem_of_getElem? (i := 48) rfl)) (by decide) (rm8 l Z a0 hw [] o102 x1 _ _ h102 n0 O102 h0.size (own_ole O0) K102.1 fr102 trivial A102 F102_value) e102 (g := (mkF m 28 #[.val (.int x1)] [(.int x1), (.ref o102), (.ref o102)])) rfl (by rw [hml]; rfl) (argsL := [(.int x1)]) (rest := [(.ref o102)]) (lenOf pd8 rfl) rfl (W := 1) (by show 2 * 0 + _ ≤ _; exact Nat.le_of_eq rfl) (hb hby d7_28) (by decide) (by decide) (by decide) (by decide)
    obtain ⟨rfl, Nq103, Kq103⟩ := hQ103
    have N103 := Fr.app N0 Nq103
    obtain ⟨hx, hZ, hown, hby, hml, hnm, hret, hlk⟩ := id Cc103
    have K103 := K102.trans Kq103 (allS (Or.inr sz102) all0)
    have O103 := O102.keep Kq103 (allS (Nat.le_trans (own_ole O0) fr102) all0)
    refine Go.of st103 ?_
    show Go p e s below _ _ _ _ T103 (mkF m 31 #[.val (.int x1)] [(.ref o102)])
    have f104 := (A102.keep Kq103)
    exact Go.retA X103 hx hlk B103 (J103.sub fun x hx => (List.mem_cons_of_mem _ hx)) e103 hret rfl rfl (hb hby d7_31) (by decide) (by decide) (fun vm_ hw_ => ⟨_, rfl, (fun y hy => Nat.le_trans hnb (N103 y hy)), keep_ext K103, f104⟩)
  · refine Go.of (fun _ hr => XS.icmpNo X0.here hx rfl (hb hby d7_3) rfl (flt hb3_101).1 hr) ?_
    show Go p e s below _ _ _ _ s₁ (mkF m 6 #[.val (.int x1)] [])
    refine Go.of (fun _ hr => XS.iloadN X0.here hx rfl (hb hby d7_6) rfl  hr) ?_
    show Go p e s below _ _ _ _ s₁ (mkF m 7 #[.val (.int x1)] [(.int x1)])
    obtain ⟨T105, X105, e105, st105⟩ := getS2 X0 hx hZ hown (host := "") (Or.inl (hw _ (List.mem_of_getElem? (i := 39) rfl))) Via.refl e0 (S_high.ext O0.2) (g := (mkF m 7 #[.val (.int x1)] [(.int x1)])) rfl (hb hby d7_7)
    refine Go.of (fun _ hr => st105 _ hr) ?_
    show Go p e s below _ _ _ _ T105 (mkF m 10 #[.val (.int x1)] [(.int (127 : Int32)), (.int x1)])
    by_cases hb10_106 : (127 : Int32) < x1
    · refine Go.of (fun _ hr => XS.icmpYes X105.here hx rfl (pc0 := 10) (pc' := 23) rfl (hb hby d7_10) rfl (tlt hb10_106).2.2.1 (by decide) (by decide) hr) ?_
      show Go p e s below _ _ _ _ T105 (mkF m 23 #[.val (.int x1)] [])
      obtain ⟨T107, h107, X107, e107, E107, A107, D107, -, st107⟩ := newO X105 hx hZ hown (hw _ (List.mem_of_getElem? (i := 44) rfl)) (hw _ (List.mem_of_getElem? (i := 45) rfl)) (hw _ (List.mem_of_getElem? (i := 37) rfl)) e105 (g := (mkF m 23 #[.val (.int x1)] [])) rfl (hb hby d7_23) (by decide) (by decide)
      obtain ⟨o107, g107⟩ : ∃ z, z = h0.size := ⟨_, rfl⟩
      rw [← g107] at A107 D107 st107
      have lt107 : o107 < h107.size := A107.lt
      have J107 := J0.add E107 g107 lt107
      have B107 := B0.mono E107.1
      have O107 := O0.ext E107
      have sz107 : h0.size ≤ o107 := Nat.le_trans K0.1 (Nat.le_of_eq g107.symm)
      have fr107 : h0.size ≤ o107 := sz107
      have K107 := K0.ext E107
      have F107_value : Fld Z h107 o107 "java/lang/Integer" "value" "I" (.int (0 : Int32)) := D107 (Or.inr (hw _ (List.mem_of_getElem? (i := 57) rfl))) (ty := .int) (by decide)
      refine Go.of (fun _ hr => st107 _ hr) ?_
      show Go p e s below _ _ _ _ T107 (mkF m 26 #[.val (.int x1)] [(.ref o107)])
      refine Go.of (fun _ hr => XS.dup X107.here hx rfl (hb hby d7_26) rfl rfl hr) ?_
      show Go p e s below _ _ _ _ T107 (mkF m 27 #[.val (.int x1)] [(.ref o107), (.ref o107)])
      refine Go.of (fun _ hr => XS.iloadN X107.here hx rfl (hb hby d7_27) rfl  hr) ?_
      show Go p e s below _ _ _ _ T107 (mkF m 28 #[.val (.int x1)] [(.int x1), (.ref o107), (.ref o107)])
      obtain ⟨_, b108, T108, h108, L108, e108, Cc108, X108, B108, J108, g108, hQ108, st108⟩ := own_callI Cc B107 J107 X107 rfl (hw _ (List.mem_of_getElem? (i := 46) rfl)) (hw _ (List.mem_of_getElem? (i := 47) rfl)) (hw _ (List.mem_of_getElem? (i := 37) rfl)) (hw _ (List.mem_of_getElem? (i := 48) rfl)) (by decide) (rm8 l Z a0 hw [] o107 x1 _ _ h107 n0 O107 h0.size (own_ole O0) K107.1 fr107 trivial A107 F107_value) e107 (g := (mkF m 28 #[.val (.int x1)] [(.int x1), (.ref o107), (.ref o107)])) rfl (by rw [hml]; rfl) (argsL := [(.int x1)]) (rest := [(.ref o107)]) (lenOf pd8 rfl) rfl (W := 1) (by show 2 * 0 + _ ≤ _; exact Nat.le_of_eq rfl) (hb hby d7_28) (by decide) (by decide) (by decide) (by decide)
      obtain ⟨rfl, Nq108, Kq108⟩ := hQ108
      have N108 := Fr.app N0 Nq108
      obtain ⟨hx, hZ, hown, hby, hml, hnm, hret, hlk⟩ := id Cc108
      have K108 := K107.trans Kq108 (allS (Or.inr sz107) all0)
      have O108 := O107.keep Kq108 (allS (Nat.le_trans (own_ole O0) fr107) all0)
      refine Go.of st108 ?_
      show Go p e s below _ _ _ _ T108 (mkF m 31 #[.val (.int x1)] [(.ref o107)])
      have f109 := (A107.keep Kq108)
      exact Go.retA X108 hx hlk B108 (J108.sub fun x hx => (List.mem_cons_of_mem _ hx)) e108 hret rfl rfl (hb hby d7_31) (by decide) (by decide) (fun vm_ hw_ => ⟨_, rfl, (fun y hy => Nat.le_trans hnb (N108 y hy)), keep_ext K108, f109⟩)
    · refine Go.of (fun _ hr => XS.icmpNo X105.here hx rfl (hb hby d7_10) rfl (flt hb10_106).2.2.1 hr) ?_
      show Go p e s below _ _ _ _ T105 (mkF m 13 #[.val (.int x1)] [])
      obtain ⟨T110, X110, e110, st110⟩ := getS2 X105 hx hZ hown (host := "") (Or.inl (hw _ (List.mem_of_getElem? (i := 41) rfl))) Via.refl e105 (S_cache.ext O0.2) (g := (mkF m 13 #[.val (.int x1)] [])) rfl (hb hby d7_13)
      refine Go.of (fun _ hr => st110 _ hr) ?_
      show Go p e s below _ _ _ _ T110 (mkF m 16 #[.val (.int x1)] [(.ref wc)])
      refine Go.of (fun _ hr => XS.iloadN X110.here hx rfl (hb hby d7_16) rfl  hr) ?_
      show Go p e s below _ _ _ _ T110 (mkF m 17 #[.val (.int x1)] [(.int x1), (.ref wc)])
      refine Go.of (fun _ hr => XS.sipush X110.here hx rfl (hb hby d7_17) hr) ?_
      show Go p e s below _ _ _ _ T110 (mkF m 20 #[.val (.int x1)] [(.int (128 : Int32)), (.int x1), (.ref wc)])
      refine Go.of (fun _ hr => XS.iadd X110.here hx rfl (hb hby d7_20) rfl hr) ?_
      show Go p e s below _ _ _ _ T110 (mkF m 21 #[.val (.int x1)] [(.int (x1 + (128 : Int32))), (.ref wc)])
      obtain ⟨Ar111, Sz111, -⟩ := BX.ext O0.2
      have hin111 := box_in hb3_101 hb10_106 Sz111
      obtain ⟨bx111, at111, Eb111, -⟩ := BX.2.2.2 _ hin111
      refine Go.of (fun _ hr => X110.aaload hx (j := (x1 + (128 : Int32))) (v := .ref bx111) (by rw [e110]; exact Ar111.1) (State.isArrayOf_alike hZ.alike Ar111.2.1) rfl Ar111.2.2 hin111 at111 (g := (mkF m 21 #[.val (.int x1)] [(.int (x1 + (128 : Int32))), (.ref wc)])) rfl rfl (hb hby d7_21) _ hr) ?_
      show Go p e s below _ _ _ _ T110 (mkF m 22 #[.val (.int x1)] [(.ref bx111)])
      exact Go.retA X110 hx hlk B0 J0 e110 hret rfl rfl (hb hby d7_22) (by decide) (by decide) (fun vm_ hw_ => ⟨_, rfl, (fun y hy => Nat.le_trans hnb (N0 y hy)), keep_ext K0, (Eb111.ext O0.2)⟩)

theorem pn6 : plainName "com/example/liken2/liken2/cli/ArgumentsOncePinLaw" = true := by first | (simp [plainName, overriddenIn]; done) | decide +kernel
theorem pd9 : parseMethodDescriptor "(I)Ljava/lang/Integer;" = some ⟨[.int], some (.object "java/lang/Integer")⟩ := by decide +kernel
theorem pd10 : parseMethodDescriptor "(C)Ljava/lang/String;" = some ⟨[.char], some (.object "java/lang/String")⟩ := by decide +kernel
theorem pd11 : parseMethodDescriptor "(Ljava/lang/Object;Ljava/lang/Object;Ljava/lang/String;)Ljava/lang/Object;" = some ⟨[(.object "java/lang/Object"), (.object "java/lang/Object"), (.object "java/lang/String")], some (.object "java/lang/Object")⟩ := by decide +kernel
theorem pd12 : parseMethodDescriptor "([C)V" = some ⟨[(.array .char)], none⟩ := by decide +kernel
set_option maxRecDepth 65536 in
set_option maxHeartbeats 40000000 in
theorem rm0 (l : Launch) (Z : State) (a0 : Array Value) (hw : ∀ d ∈ tables_1, d.before a0 Z = true) (ws : List Jvm.Cond) (p1 p2 p3 p4 : Int32) (zc : Int32) (wc : Addr) (cc : Cell) (ms : List Addr) (h0 : Heap) (n0 : Nat) (O0 : Old Z n0 h0) (nb : Nat) (hb0 : n0 ≤ nb) (hnb : nb ≤ h0.size) (S_C : Sta Z Z.heap "java/lang/String" "COMPACT_STRINGS" "Z" (.int zc)) (hzc : ¬ zc = 0) (S_high : Sta Z Z.heap "java/lang/Integer$IntegerCache" "high" "I" (.int 127)) (S_cache : Sta Z Z.heap "java/lang/Integer$IntegerCache" "cache" "[Ljava/lang/Integer;" (.ref wc)) (BX : Bxs Z wc cc "java/lang/Integer" "I" 256 (fun j => .int (j - 128))) :
    Con l Z ms x code maxLocals ret ws room_1 #[(.int p1), (.int p2), (.int p3), (.int p4)] h0 (fun v vm h L => v = some (.int 1) ∧ Fr nb L) := by
  refine Con.mk (plainFor_of_name pn6) ?_
  intro p e s m below meth c s₁ Cc X0 e0 eb J0 B0 M0
  replace Cc : Cx Z p s m meth c "com/example/liken2/liken2/cli/ArgumentsOncePinLaw" code 10 "law" ret := Cc
  obtain ⟨hx, hZ, hown, hby, hml, hnm, hret, hlk⟩ := id Cc
  have N0 := Fr.nil h0.size
  have K0 := Keep.refl h0 []
  show Go p e s below _ _ _ _ s₁ (mkF m 0 #[.val (.int p1), .val (.int p2), .val (.int p3), .val (.int p4), .unset, .unset, .unset, .unset, .unset, .unset] [])
  refine Go.of (fun _ hr => XS.iconst X0.here hx rfl (hb hby at_0) hr) ?_
  show Go p e s below _ _ _ _ s₁ (mkF m 1 #[.val (.int p1), .val (.int p2), .val (.int p3), .val (.int p4), .unset, .unset, .unset, .unset, .unset, .unset] [(.int (2 : Int32))])
  obtain ⟨T101, h101, k101, X101, e101, E101, A101, st101⟩ := newP X0 hx hZ (hw _ (List.mem_of_getElem? (i := 0) rfl)) e0 (g := (mkF m 1 #[.val (.int p1), .val (.int p2), .val (.int p3), .val (.int p4), .unset, .unset, .unset, .unset, .unset, .unset] [(.int (2 : Int32))])) rfl (hb hby at_1) rfl (by decide) (cap := 2) (by decide) (by decide) (by decide) (by decide)
  obtain ⟨o101, g101⟩ : ∃ z, z = h0.size := ⟨_, rfl⟩
  rw [← g101] at A101 st101
  have V101 : Arv Z h101 o101 k101 .char (2 : Int32) [(.int (0 : Int32)), (.int (0 : Int32))] (.int (0 : Int32)) := (Arv.new A101 (by decide)).pad (pad_rep [] (.int (0 : Int32)) 2)
  have lt101 : o101 < h101.size := A101.lt
  have J101 := J0.add E101 g101 lt101
  have B101 := B0.mono E101.1
  have O101 := O0.ext E101
  have sz101 : h0.size ≤ o101 := Nat.le_trans K0.1 (Nat.le_of_eq g101.symm)
  have fr101 : h0.size ≤ o101 := sz101
  have K101 := K0.ext E101
  refine Go.of (fun _ hr => st101 _ hr) ?_
  show Go p e s below _ _ _ _ T101 (mkF m 3 #[.val (.int p1), .val (.int p2), .val (.int p3), .val (.int p4), .unset, .unset, .unset, .unset, .unset, .unset] [(.ref o101)])
  refine Go.of (fun _ hr => XS.astore X101.here hx rfl (hb hby at_3) rfl rfl (l' := #[.val (.int p1), .val (.int p2), .val (.int p3), .val (.int p4), .val (.ref o101), .unset, .unset, .unset, .unset, .unset]) rfl hr) ?_
  show Go p e s below _ _ _ _ T101 (mkF m 5 #[.val (.int p1), .val (.int p2), .val (.int p3), .val (.int p4), .val (.ref o101), .unset, .unset, .unset, .unset, .unset] [])
  refine Go.of (fun _ hr => XS.aload X101.here hx rfl (hb hby at_5) rfl rfl hr) ?_
  show Go p e s below _ _ _ _ T101 (mkF m 7 #[.val (.int p1), .val (.int p2), .val (.int p3), .val (.int p4), .val (.ref o101), .unset, .unset, .unset, .unset, .unset] [(.ref o101)])
  refine Go.of (fun _ hr => XS.iconst X101.here hx rfl (hb hby at_7) hr) ?_
  show Go p e s below _ _ _ _ T101 (mkF m 8 #[.val (.int p1), .val (.int p2), .val (.int p3), .val (.int p4), .val (.ref o101), .unset, .unset, .unset, .unset, .unset] [(.int (0 : Int32)), (.ref o101)])
  refine Go.of (fun _ hr => XS.iloadN X101.here hx rfl (hb hby at_8) rfl  hr) ?_
  show Go p e s below _ _ _ _ T101 (mkF m 9 #[.val (.int p1), .val (.int p2), .val (.int p3), .val (.int p4), .val (.ref o101), .unset, .unset, .unset, .unset, .unset] [(.int p2), (.int (0 : Int32)), (.ref o101)])
  refine Go.of (fun _ hr => XS.sipush X101.here hx rfl (hb hby at_9) hr) ?_
  show Go p e s below _ _ _ _ T101 (mkF m 12 #[.val (.int p1), .val (.int p2), .val (.int p3), .val (.int p4), .val (.ref o101), .unset, .unset, .unset, .unset, .unset] [(.int (255 : Int32)), (.int p2), (.int (0 : Int32)), (.ref o101)])
  refine Go.of (fun _ hr => XS.iand X101.here hx rfl (hb hby at_12) rfl hr) ?_
  show Go p e s below _ _ _ _ T101 (mkF m 13 #[.val (.int p1), .val (.int p2), .val (.int p3), .val (.int p4), .val (.ref o101), .unset, .unset, .unset, .unset, .unset] [(.int (p2 &&& (255 : Int32))), (.int (0 : Int32)), (.ref o101)])
  refine Go.of (fun _ hr => XS.i2c X101.here hx rfl (hb hby at_13) rfl hr) ?_
  show Go p e s below _ _ _ _ T101 (mkF m 14 #[.val (.int p1), .val (.int p2), .val (.int p3), .val (.int p4), .val (.ref o101), .unset, .unset, .unset, .unset, .unset] [(.int ((p2 &&& (255 : Int32)).toUInt32.toUInt16.toUInt32.toInt32)), (.int (0 : Int32)), (.ref o101)])
  have hq_x0 := chr8 p2
  generalize ((p2 &&& (255 : Int32)).toUInt32.toUInt16.toUInt32.toInt32) = x0 at hq_x0 ⊢
  show Go p e s below _ _ _ _ T101 (mkF m 14 #[.val (.int p1), .val (.int p2), .val (.int p3), .val (.int p4), .val (.ref o101), .unset, .unset, .unset, .unset, .unset] [(.int x0), (.int (0 : Int32)), (.ref o101)])
  obtain ⟨cl102, Ar102, q102, S102, N102_, H102, G102⟩ := id V101
  have hin102 : ¬ ((0 : Int32) < 0 ∨ cl102.slots.size ≤ ((0 : Int32)).toNatClampNeg) := inb_of S102 ⟨by decide, by decide⟩
  obtain ⟨T102, h102, X102, e102, W102, st102⟩ := stC X101 hx hZ e101 Ar102 (j := (0 : Int32)) hin102 (g := (mkF m 14 #[.val (.int p1), .val (.int p2), .val (.int p3), .val (.int p4), .val (.ref o101), .unset, .unset, .unset, .unset, .unset] [(.int x0), (.int (0 : Int32)), (.ref o101)])) rfl rfl (hb hby at_14)
  have W102' := W102
  rw [show nar .char x0 = x0 from (nar_c hq_x0.1 (le255 hq_x0.2))] at W102'
  have V102 : Arv Z h102 o101 k101 .char (2 : Int32) [(.int x0), (.int (0 : Int32))] (.int (0 : Int32)) := Arv.set Ar102 q102 S102 N102_ H102 G102 (fits_c hq_x0.1 (le255 hq_x0.2)) W102' 0 rfl (by simp)
  have N102 := Fr.snoc X102 N0 fr101
  have J102 := J101.wr W102 trivial
  have B102 := B101.mono (Nat.le_of_eq W102.size.symm)
  have O102 := O101.wr W102 (Nat.le_trans (own_ole O0) fr101)
  have K102 := K101.wr W102 (Or.inr sz101)
  refine Go.of (fun _ hr => st102 _ hr) ?_
  show Go p e s below _ _ _ _ T102 (mkF m 15 #[.val (.int p1), .val (.int p2), .val (.int p3), .val (.int p4), .val (.ref o101), .unset, .unset, .unset, .unset, .unset] [])
  refine Go.of (fun _ hr => XS.aload X102.here hx rfl (hb hby at_15) rfl rfl hr) ?_
  show Go p e s below _ _ _ _ T102 (mkF m 17 #[.val (.int p1), .val (.int p2), .val (.int p3), .val (.int p4), .val (.ref o101), .unset, .unset, .unset, .unset, .unset] [(.ref o101)])
  refine Go.of (fun _ hr => XS.iconst X102.here hx rfl (hb hby at_17) hr) ?_
  show Go p e s below _ _ _ _ T102 (mkF m 18 #[.val (.int p1), .val (.int p2), .val (.int p3), .val (.int p4), .val (.ref o101), .unset, .unset, .unset, .unset, .unset] [(.int (1 : Int32)), (.ref o101)])
  refine Go.of (fun _ hr => XS.iloadN X102.here hx rfl (hb hby at_18) rfl  hr) ?_
  show Go p e s below _ _ _ _ T102 (mkF m 19 #[.val (.int p1), .val (.int p2), .val (.int p3), .val (.int p4), .val (.ref o101), .unset, .unset, .unset, .unset, .unset] [(.int p3), (.int (1 : Int32)), (.ref o101)])
  refine Go.of (fun _ hr => XS.sipush X102.here hx rfl (hb hby at_19) hr) ?_
  show Go p e s below _ _ _ _ T102 (mkF m 22 #[.val (.int p1), .val (.int p2), .val (.int p3), .val (.int p4), .val (.ref o101), .unset, .unset, .unset, .unset, .unset] [(.int (255 : Int32)), (.int p3), (.int (1 : Int32)), (.ref o101)])
  refine Go.of (fun _ hr => XS.iand X102.here hx rfl (hb hby at_22) rfl hr) ?_
  show Go p e s below _ _ _ _ T102 (mkF m 23 #[.val (.int p1), .val (.int p2), .val (.int p3), .val (.int p4), .val (.ref o101), .unset, .unset, .unset, .unset, .unset] [(.int (p3 &&& (255 : Int32))), (.int (1 : Int32)), (.ref o101)])
  refine Go.of (fun _ hr => XS.i2c X102.here hx rfl (hb hby at_23) rfl hr) ?_
  show Go p e s below _ _ _ _ T102 (mkF m 24 #[.val (.int p1), .val (.int p2), .val (.int p3), .val (.int p4), .val (.ref o101), .unset, .unset, .unset, .unset, .unset] [(.int ((p3 &&& (255 : Int32)).toUInt32.toUInt16.toUInt32.toInt32)), (.int (1 : Int32)), (.ref o101)])
  have hq_x1 := chr8 p3
  generalize ((p3 &&& (255 : Int32)).toUInt32.toUInt16.toUInt32.toInt32) = x1 at hq_x1 ⊢
  show Go p e s below _ _ _ _ T102 (mkF m 24 #[.val (.int p1), .val (.int p2), .val (.int p3), .val (.int p4), .val (.ref o101), .unset, .unset, .unset, .unset, .unset] [(.int x1), (.int (1 : Int32)), (.ref o101)])
  obtain ⟨cl103, Ar103, q103, S103, N103_, H103, G103⟩ := id V102
  have hin103 : ¬ ((1 : Int32) < 0 ∨ cl103.slots.size ≤ ((1 : Int32)).toNatClampNeg) := inb_of S103 ⟨by decide, by decide⟩
  obtain ⟨T103, h103, X103, e103, W103, st103⟩ := stC X102 hx hZ e102 Ar103 (j := (1 : Int32)) hin103 (g := (mkF m 24 #[.val (.int p1), .val (.int p2), .val (.int p3), .val (.int p4), .val (.ref o101), .unset, .unset, .unset, .unset, .unset] [(.int x1), (.int (1 : Int32)), (.ref o101)])) rfl rfl (hb hby at_24)
  have W103' := W103
  rw [show nar .char x1 = x1 from (nar_c hq_x1.1 (le255 hq_x1.2))] at W103'
  have V103 : Arv Z h103 o101 k101 .char (2 : Int32) [(.int x0), (.int x1)] (.int (0 : Int32)) := Arv.set Ar103 q103 S103 N103_ H103 G103 (fits_c hq_x1.1 (le255 hq_x1.2)) W103' 1 rfl (by simp)
  have N103 := Fr.snoc X103 N102 fr101
  have J103 := J102.wr W103 trivial
  have B103 := B102.mono (Nat.le_of_eq W103.size.symm)
  have O103 := O102.wr W103 (Nat.le_trans (own_ole O0) fr101)
  have K103 := K102.wr W103 (Or.inr sz101)
  refine Go.of (fun _ hr => st103 _ hr) ?_
  show Go p e s below _ _ _ _ T103 (mkF m 25 #[.val (.int p1), .val (.int p2), .val (.int p3), .val (.int p4), .val (.ref o101), .unset, .unset, .unset, .unset, .unset] [])
  refine Go.of (fun _ hr => XS.iloadN X103.here hx rfl (hb hby at_25) rfl  hr) ?_
  show Go p e s below _ _ _ _ T103 (mkF m 26 #[.val (.int p1), .val (.int p2), .val (.int p3), .val (.int p4), .val (.ref o101), .unset, .unset, .unset, .unset, .unset] [(.int p4)])
  refine Go.of (fun _ hr => XS.iconst X103.here hx rfl (hb hby at_26) hr) ?_
  show Go p e s below _ _ _ _ T103 (mkF m 27 #[.val (.int p1), .val (.int p2), .val (.int p3), .val (.int p4), .val (.ref o101), .unset, .unset, .unset, .unset, .unset] [(.int (4 : Int32)), (.int p4)])
  refine Go.of (fun _ hr => XS.iand X103.here hx rfl (hb hby at_27) rfl hr) ?_
  show Go p e s below _ _ _ _ T103 (mkF m 28 #[.val (.int p1), .val (.int p2), .val (.int p3), .val (.int p4), .val (.ref o101), .unset, .unset, .unset, .unset, .unset] [(.int (p4 &&& (4 : Int32)))])
  by_cases hb28_104 : (p4 &&& (4 : Int32)) = (0 : Int32)
  · refine Go.of (fun _ hr => XS.ifYes X103.here hx rfl (pc0 := 28) (pc' := 43) rfl (hb hby at_28) rfl ((if0 _ _).trans (teq hb28_104).1) (by decide) (by decide) hr) ?_
    show Go p e s below _ _ _ _ T103 (mkF m 43 #[.val (.int p1), .val (.int p2), .val (.int p3), .val (.int p4), .val (.ref o101), .unset, .unset, .unset, .unset, .unset] [])
    obtain ⟨o105, b105, T105, h105, e105, Cc105, X105, B105, J105, E105, st105⟩ := own_ldcS Cc B103 J103 X103 (hw _ (List.mem_of_getElem? (i := 1) rfl)) (own_wS Z a0 hw) e103 (g := (mkF m 43 #[.val (.int p1), .val (.int p2), .val (.int p3), .val (.int p4), .val (.ref o101), .unset, .unset, .unset, .unset, .unset] [])) rfl (hb hby at_43) (n := 0) (by decide) (by decide) (by decide) (by decide)
    obtain ⟨hx, hZ, hown, hby, hml, hnm, hret, hlk⟩ := id Cc105
    have K105 := K103.ext E105
    have O105 := O103.ext E105
    refine Go.of (fun _ hr => st105 _ hr) ?_
    show Go p e s below _ _ _ _ T105 (mkF m 45 #[.val (.int p1), .val (.int p2), .val (.int p3), .val (.int p4), .val (.ref o101), .unset, .unset, .unset, .unset, .unset] [(.ref o105)])
    refine Go.of (fun _ hr => XS.astore X105.here hx rfl (hb hby at_45) rfl rfl (l' := #[.val (.int p1), .val (.int p2), .val (.int p3), .val (.int p4), .val (.ref o101), .val (.ref o105), .unset, .unset, .unset, .unset]) rfl hr) ?_
    show Go p e s below _ _ _ _ T105 (mkF m 47 #[.val (.int p1), .val (.int p2), .val (.int p3), .val (.int p4), .val (.ref o101), .val (.ref o105), .unset, .unset, .unset, .unset] [])
    refine Go.of (fun _ hr => XS.iloadN X105.here hx rfl (hb hby at_47) rfl  hr) ?_
    show Go p e s below _ _ _ _ T105 (mkF m 48 #[.val (.int p1), .val (.int p2), .val (.int p3), .val (.int p4), .val (.ref o101), .val (.ref o105), .unset, .unset, .unset, .unset] [(.int p4)])
    refine Go.of (fun _ hr => XS.iconst X105.here hx rfl (hb hby at_48) hr) ?_
    show Go p e s below _ _ _ _ T105 (mkF m 49 #[.val (.int p1), .val (.int p2), .val (.int p3), .val (.int p4), .val (.ref o101), .val (.ref o105), .unset, .unset, .unset, .unset] [(.int (1 : Int32)), (.int p4)])
    refine Go.of (fun _ hr => XS.iand X105.here hx rfl (hb hby at_49) rfl hr) ?_
    show Go p e s below _ _ _ _ T105 (mkF m 50 #[.val (.int p1), .val (.int p2), .val (.int p3), .val (.int p4), .val (.ref o101), .val (.ref o105), .unset, .unset, .unset, .unset] [(.int (p4 &&& (1 : Int32)))])
    by_cases hb50_106 : (p4 &&& (1 : Int32)) = (0 : Int32)
    · refine Go.of (fun _ hr => XS.ifYes X105.here hx rfl (pc0 := 50) (pc' := 57) rfl (hb hby at_50) rfl ((if0 _ _).trans (teq hb50_106).1) (by decide) (by decide) hr) ?_
      show Go p e s below _ _ _ _ T105 (mkF m 57 #[.val (.int p1), .val (.int p2), .val (.int p3), .val (.int p4), .val (.ref o101), .val (.ref o105), .unset, .unset, .unset, .unset] [])
      refine Go.of (fun _ hr => XS.iloadN X105.here hx rfl (hb hby at_57) rfl  hr) ?_
      show Go p e s below _ _ _ _ T105 (mkF m 58 #[.val (.int p1), .val (.int p2), .val (.int p3), .val (.int p4), .val (.ref o101), .val (.ref o105), .unset, .unset, .unset, .unset] [(.int p1)])
      obtain ⟨_, b107, T107, h107, L107, e107, Cc107, X107, B107, J107, g107, hQ107, st107⟩ := own_callS Cc105 B105 J105 X105 (hw _ (List.mem_of_getElem? (i := 35) rfl)) (hw _ (List.mem_of_getElem? (i := 36) rfl)) (hw _ (List.mem_of_getElem? (i := 37) rfl)) (hw _ (List.mem_of_getElem? (i := 38) rfl)) (by decide) (rm7 l Z a0 hw [] p1 wc cc _ h105 n0 O105 h0.size (own_ole O0) K105.1 S_high S_cache BX) e105 (g := (mkF m 58 #[.val (.int p1), .val (.int p2), .val (.int p3), .val (.int p4), .val (.ref o101), .val (.ref o105), .unset, .unset, .unset, .unset] [(.int p1)])) rfl (by rw [hml]; rfl) (argsL := [(.int p1)]) (rest := []) (lenOf pd9 rfl) rfl (W := 0) (by show 2 * 0 + _ ≤ _; exact Nat.le_of_eq rfl) (hb hby at_58) (by decide) (by decide) (by decide) (by decide)
      obtain ⟨r107, rfl, Nq107, Eq107, Er107⟩ := hQ107
      have N107 := Fr.app N103 Nq107
      obtain ⟨hx, hZ, hown, hby, hml, hnm, hret, hlk⟩ := id Cc107
      have K107 := K105.ext Eq107
      have O107 := O105.ext Eq107
      refine Go.of st107 ?_
      show Go p e s below _ _ _ _ T107 (mkF m 61 #[.val (.int p1), .val (.int p2), .val (.int p3), .val (.int p4), .val (.ref o101), .val (.ref o105), .unset, .unset, .unset, .unset] [(.ref r107)])
      refine Go.of (fun _ hr => XS.astore X107.here hx rfl (hb hby at_61) rfl rfl (l' := #[.val (.int p1), .val (.int p2), .val (.int p3), .val (.int p4), .val (.ref o101), .val (.ref o105), .val (.ref r107), .unset, .unset, .unset]) rfl hr) ?_
      show Go p e s below _ _ _ _ T107 (mkF m 63 #[.val (.int p1), .val (.int p2), .val (.int p3), .val (.int p4), .val (.ref o101), .val (.ref o105), .val (.ref r107), .unset, .unset, .unset] [])
      refine Go.of (fun _ hr => XS.iloadN X107.here hx rfl (hb hby at_63) rfl  hr) ?_
      show Go p e s below _ _ _ _ T107 (mkF m 64 #[.val (.int p1), .val (.int p2), .val (.int p3), .val (.int p4), .val (.ref o101), .val (.ref o105), .val (.ref r107), .unset, .unset, .unset] [(.int p4)])
      refine Go.of (fun _ hr => XS.iconst X107.here hx rfl (hb hby at_64) hr) ?_
      show Go p e s below _ _ _ _ T107 (mkF m 65 #[.val (.int p1), .val (.int p2), .val (.int p3), .val (.int p4), .val (.ref o101), .val (.ref o105), .val (.ref r107), .unset, .unset, .unset] [(.int (2 : Int32)), (.int p4)])
      refine Go.of (fun _ hr => XS.iand X107.here hx rfl (hb hby at_65) rfl hr) ?_
      show Go p e s below _ _ _ _ T107 (mkF m 66 #[.val (.int p1), .val (.int p2), .val (.int p3), .val (.int p4), .val (.ref o101), .val (.ref o105), .val (.ref r107), .unset, .unset, .unset] [(.int (p4 &&& (2 : Int32)))])
      by_cases hb66_108 : (p4 &&& (2 : Int32)) = (0 : Int32)
      · refine Go.of (fun _ hr => XS.ifYes X107.here hx rfl (pc0 := 66) (pc' := 73) rfl (hb hby at_66) rfl ((if0 _ _).trans (teq hb66_108).1) (by decide) (by decide) hr) ?_
        show Go p e s below _ _ _ _ T107 (mkF m 73 #[.val (.int p1), .val (.int p2), .val (.int p3), .val (.int p4), .val (.ref o101), .val (.ref o105), .val (.ref r107), .unset, .unset, .unset] [])
        refine Go.of (fun _ hr => XS.iloadN X107.here hx rfl (hb hby at_73) rfl  hr) ?_
        show Go p e s below _ _ _ _ T107 (mkF m 74 #[.val (.int p1), .val (.int p2), .val (.int p3), .val (.int p4), .val (.ref o101), .val (.ref o105), .val (.ref r107), .unset, .unset, .unset] [(.int p3)])
        refine Go.of (fun _ hr => XS.sipush X107.here hx rfl (hb hby at_74) hr) ?_
        show Go p e s below _ _ _ _ T107 (mkF m 77 #[.val (.int p1), .val (.int p2), .val (.int p3), .val (.int p4), .val (.ref o101), .val (.ref o105), .val (.ref r107), .unset, .unset, .unset] [(.int (255 : Int32)), (.int p3)])
        refine Go.of (fun _ hr => XS.iand X107.here hx rfl (hb hby at_77) rfl hr) ?_
        show Go p e s below _ _ _ _ T107 (mkF m 78 #[.val (.int p1), .val (.int p2), .val (.int p3), .val (.int p4), .val (.ref o101), .val (.ref o105), .val (.ref r107), .unset, .unset, .unset] [(.int (p3 &&& (255 : Int32)))])
        refine Go.of (fun _ hr => XS.i2c X107.here hx rfl (hb hby at_78) rfl hr) ?_
        show Go p e s below _ _ _ _ T107 (mkF m 79 #[.val (.int p1), .val (.int p2), .val (.int p3), .val (.int p4), .val (.ref o101), .val (.ref o105), .val (.ref r107), .unset, .unset, .unset] [(.int ((p3 &&& (255 : Int32)).toUInt32.toUInt16.toUInt32.toInt32))])
        obtain ⟨_, b109, T109, h109, L109, e109, Cc109, X109, B109, J109, g109, hQ109, st109⟩ := own_callS Cc107 B107 J107 X107 (hw _ (List.mem_of_getElem? (i := 9) rfl)) (hw _ (List.mem_of_getElem? (i := 10) rfl)) (hw _ (List.mem_of_getElem? (i := 2) rfl)) (hw _ (List.mem_of_getElem? (i := 11) rfl)) (by decide) (rm1 l Z a0 hw [] ((p3 &&& (255 : Int32)).toUInt32.toUInt16.toUInt32.toInt32) zc _ h107 n0 O107 h0.size (own_ole O0) K107.1 (chr8 p3).2 S_C hzc) e107 (g := (mkF m 79 #[.val (.int p1), .val (.int p2), .val (.int p3), .val (.int p4), .val (.ref o101), .val (.ref o105), .val (.ref r107), .unset, .unset, .unset] [(.int ((p3 &&& (255 : Int32)).toUInt32.toUInt16.toUInt32.toInt32))])) rfl (by rw [hml]; rfl) (argsL := [(.int ((p3 &&& (255 : Int32)).toUInt32.toUInt16.toUInt32.toInt32))]) (rest := []) (lenOf pd10 rfl) rfl (W := 0) (by show 2 * 0 + _ ≤ _; exact Nat.le_of_eq rfl) (hb hby at_79) (by decide) (by decide) (by decide) (by decide)
        have f110 := ((V103.ext E105).ext Eq107)
        obtain ⟨r109, t109, kt109, rfl, Nq109, Eq109, R_r109, R_t109, Er109, Fv109, Fc109, Vt109⟩ := hQ109
        have N109 := Fr.app N107 Nq109
        obtain ⟨hx, hZ, hown, hby, hml, hnm, hret, hlk⟩ := id Cc109
        have sz_r109 : h0.size ≤ r109 := Nat.le_trans K107.1 R_r109
        have fr_r109 : h0.size ≤ r109 := sz_r109
        have ne_o101_r109 : o101 ≠ r109 := Nat.ne_of_lt (Nat.lt_of_lt_of_le f110.lt R_r109)
        have ne_r107_r109 : r107 ≠ r109 := Nat.ne_of_lt (Nat.lt_of_lt_of_le Er107.lt R_r109)
        have sz_t109 : h0.size ≤ t109 := Nat.le_trans K107.1 R_t109
        have fr_t109 : h0.size ≤ t109 := sz_t109
        have ne_o101_t109 : o101 ≠ t109 := Nat.ne_of_lt (Nat.lt_of_lt_of_le f110.lt R_t109)
        have ne_r107_t109 : r107 ≠ t109 := Nat.ne_of_lt (Nat.lt_of_lt_of_le Er107.lt R_t109)
        have K109 := K107.ext Eq109
        have O109 := O107.ext Eq109
        refine Go.of st109 ?_
        show Go p e s below _ _ _ _ T109 (mkF m 82 #[.val (.int p1), .val (.int p2), .val (.int p3), .val (.int p4), .val (.ref o101), .val (.ref o105), .val (.ref r107), .unset, .unset, .unset] [(.ref r109)])
        refine Go.of (fun _ hr => XS.astore X109.here hx rfl (hb hby at_82) rfl rfl (l' := #[.val (.int p1), .val (.int p2), .val (.int p3), .val (.int p4), .val (.ref o101), .val (.ref o105), .val (.ref r107), .val (.ref r109), .unset, .unset]) rfl hr) ?_
        show Go p e s below _ _ _ _ T109 (mkF m 84 #[.val (.int p1), .val (.int p2), .val (.int p3), .val (.int p4), .val (.ref o101), .val (.ref o105), .val (.ref r107), .val (.ref r109), .unset, .unset] [])
        refine Go.of (fun _ hr => XS.aconstNull X109.here hx rfl (hb hby at_84) hr) ?_
        show Go p e s below _ _ _ _ T109 (mkF m 85 #[.val (.int p1), .val (.int p2), .val (.int p3), .val (.int p4), .val (.ref o101), .val (.ref o105), .val (.ref r107), .val (.ref r109), .unset, .unset] [.null])
        refine Go.of (fun _ hr => XS.aload X109.here hx rfl (hb hby at_85) rfl rfl hr) ?_
        show Go p e s below _ _ _ _ T109 (mkF m 87 #[.val (.int p1), .val (.int p2), .val (.int p3), .val (.int p4), .val (.ref o101), .val (.ref o105), .val (.ref r107), .val (.ref r109), .unset, .unset] [(.ref r107), .null])
        refine Go.of (fun _ hr => XS.aload X109.here hx rfl (hb hby at_87) rfl rfl hr) ?_
        show Go p e s below _ _ _ _ T109 (mkF m 89 #[.val (.int p1), .val (.int p2), .val (.int p3), .val (.int p4), .val (.ref o101), .val (.ref o105), .val (.ref r107), .val (.ref r109), .unset, .unset] [(.ref o105), (.ref r107), .null])
        obtain ⟨_, b111, T111, h111, L111, e111, Cc111, X111, B111, J111, g111, hQ111, st111⟩ := own_callS Cc109 B109 J109 X109 (hw _ (List.mem_of_getElem? (i := 30) rfl)) (hw _ (List.mem_of_getElem? (i := 31) rfl)) (hw _ (List.mem_of_getElem? (i := 32) rfl)) (hw _ (List.mem_of_getElem? (i := 33) rfl)) (by decide) (rmOR l Z a0 hw [] r107 o105 _ h109 n0 O109 h0.size (own_ole O0) K109.1) e109 (g := (mkF m 89 #[.val (.int p1), .val (.int p2), .val (.int p3), .val (.int p4), .val (.ref o101), .val (.ref o105), .val (.ref r107), .val (.ref r109), .unset, .unset] [(.ref o105), (.ref r107), .null])) rfl (by rw [hml]; rfl) (argsL := [.null, (.ref r107), (.ref o105)]) (rest := []) (lenOf pd11 rfl) rfl (W := 0) (by show 2 * 0 + _ ≤ _; exact Nat.le_of_eq rfl) (hb hby at_89) (by decide) (by decide) (by decide) (by decide)
        obtain ⟨rfl, Nq111, hh111⟩ := hQ111
        have N111 := Fr.app N109 Nq111
        obtain ⟨hx, hZ, hown, hby, hml, hnm, hret, hlk⟩ := id Cc111
        rw [hh111] at e111 B111 J111
        refine Go.of st111 ?_
        show Go p e s below _ _ _ _ T111 (mkF m 92 #[.val (.int p1), .val (.int p2), .val (.int p3), .val (.int p4), .val (.ref o101), .val (.ref o105), .val (.ref r107), .val (.ref r109), .unset, .unset] [(.ref r107)])
        have f113 := (Er107.ext Eq109)
        obtain ⟨T112, X112, e112, st112⟩ := castY X111 hx hZ hown (hw _ (List.mem_of_getElem? (i := 42) rfl)) e111 (Ins.self f113) (g := (mkF m 92 #[.val (.int p1), .val (.int p2), .val (.int p3), .val (.int p4), .val (.ref o101), .val (.ref o105), .val (.ref r107), .val (.ref r109), .unset, .unset] [(.ref r107)])) rfl rfl (hb hby at_92)
        refine Go.of (fun _ hr => st112 _ hr) ?_
        show Go p e s below _ _ _ _ T112 (mkF m 95 #[.val (.int p1), .val (.int p2), .val (.int p3), .val (.int p4), .val (.ref o101), .val (.ref o105), .val (.ref r107), .val (.ref r109), .unset, .unset] [(.ref r107)])
        refine Go.of (fun _ hr => XS.astore X112.here hx rfl (hb hby at_95) rfl rfl (l' := #[.val (.int p1), .val (.int p2), .val (.int p3), .val (.int p4), .val (.ref o101), .val (.ref o105), .val (.ref r107), .val (.ref r109), .val (.ref r107), .unset]) rfl hr) ?_
        show Go p e s below _ _ _ _ T112 (mkF m 97 #[.val (.int p1), .val (.int p2), .val (.int p3), .val (.int p4), .val (.ref o101), .val (.ref o105), .val (.ref r107), .val (.ref r109), .val (.ref r107), .unset] [])
        refine Go.of (fun _ hr => XS.aconstNull X112.here hx rfl (hb hby at_97) hr) ?_
        show Go p e s below _ _ _ _ T112 (mkF m 98 #[.val (.int p1), .val (.int p2), .val (.int p3), .val (.int p4), .val (.ref o101), .val (.ref o105), .val (.ref r107), .val (.ref r109), .val (.ref r107), .unset] [.null])
        refine Go.of (fun _ hr => XS.aload X112.here hx rfl (hb hby at_98) rfl rfl hr) ?_
        show Go p e s below _ _ _ _ T112 (mkF m 100 #[.val (.int p1), .val (.int p2), .val (.int p3), .val (.int p4), .val (.ref o101), .val (.ref o105), .val (.ref r107), .val (.ref r109), .val (.ref r107), .unset] [(.ref r109), .null])
        refine Go.of (fun _ hr => XS.aload X112.here hx rfl (hb hby at_100) rfl rfl hr) ?_
        show Go p e s below _ _ _ _ T112 (mkF m 102 #[.val (.int p1), .val (.int p2), .val (.int p3), .val (.int p4), .val (.ref o101), .val (.ref o105), .val (.ref r107), .val (.ref r109), .val (.ref r107), .unset] [(.ref o105), (.ref r109), .null])
        obtain ⟨_, b114, T114, h114, L114, e114, Cc114, X114, B114, J114, g114, hQ114, st114⟩ := own_callS Cc111 B111 J111 X112 (hw _ (List.mem_of_getElem? (i := 30) rfl)) (hw _ (List.mem_of_getElem? (i := 31) rfl)) (hw _ (List.mem_of_getElem? (i := 32) rfl)) (hw _ (List.mem_of_getElem? (i := 33) rfl)) (by decide) (rmOR l Z a0 hw [] r109 o105 _ h109 n0 O109 h0.size (own_ole O0) K109.1) e112 (g := (mkF m 102 #[.val (.int p1), .val (.int p2), .val (.int p3), .val (.int p4), .val (.ref o101), .val (.ref o105), .val (.ref r107), .val (.ref r109), .val (.ref r107), .unset] [(.ref o105), (.ref r109), .null])) rfl (by rw [hml]; rfl) (argsL := [.null, (.ref r109), (.ref o105)]) (rest := []) (lenOf pd11 rfl) rfl (W := 0) (by show 2 * 0 + _ ≤ _; exact Nat.le_of_eq rfl) (hb hby at_102) (by decide) (by decide) (by decide) (by decide)
        obtain ⟨rfl, Nq114, hh114⟩ := hQ114
        have N114 := Fr.app N111 Nq114
        obtain ⟨hx, hZ, hown, hby, hml, hnm, hret, hlk⟩ := id Cc114
        rw [hh114] at e114 B114 J114
        refine Go.of st114 ?_
        show Go p e s below _ _ _ _ T114 (mkF m 105 #[.val (.int p1), .val (.int p2), .val (.int p3), .val (.int p4), .val (.ref o101), .val (.ref o105), .val (.ref r107), .val (.ref r109), .val (.ref r107), .unset] [(.ref r109)])
        obtain ⟨T115, X115, e115, st115⟩ := castY X114 hx hZ hown (hw _ (List.mem_of_getElem? (i := 34) rfl)) e114 (Ins.self Er109) (g := (mkF m 105 #[.val (.int p1), .val (.int p2), .val (.int p3), .val (.int p4), .val (.ref o101), .val (.ref o105), .val (.ref r107), .val (.ref r109), .val (.ref r107), .unset] [(.ref r109)])) rfl rfl (hb hby at_105)
        refine Go.of (fun _ hr => st115 _ hr) ?_
        show Go p e s below _ _ _ _ T115 (mkF m 108 #[.val (.int p1), .val (.int p2), .val (.int p3), .val (.int p4), .val (.ref o101), .val (.ref o105), .val (.ref r107), .val (.ref r109), .val (.ref r107), .unset] [(.ref r109)])
        refine Go.of (fun _ hr => XS.astore X115.here hx rfl (hb hby at_108) rfl rfl (l' := #[.val (.int p1), .val (.int p2), .val (.int p3), .val (.int p4), .val (.ref o101), .val (.ref o105), .val (.ref r107), .val (.ref r109), .val (.ref r107), .val (.ref r109)]) rfl hr) ?_
        show Go p e s below _ _ _ _ T115 (mkF m 110 #[.val (.int p1), .val (.int p2), .val (.int p3), .val (.int p4), .val (.ref o101), .val (.ref o105), .val (.ref r107), .val (.ref r109), .val (.ref r107), .val (.ref r109)] [])
        refine Go.of (fun _ hr => XS.aload X115.here hx rfl (hb hby at_110) rfl rfl hr) ?_
        show Go p e s below _ _ _ _ T115 (mkF m 112 #[.val (.int p1), .val (.int p2), .val (.int p3), .val (.int p4), .val (.ref o101), .val (.ref o105), .val (.ref r107), .val (.ref r109), .val (.ref r107), .val (.ref r109)] [(.ref r107)])
        refine Go.of (fun _ hr => XS.aload X115.here hx rfl (hb hby at_112) rfl rfl hr) ?_
        show Go p e s below _ _ _ _ T115 (mkF m 114 #[.val (.int p1), .val (.int p2), .val (.int p3), .val (.int p4), .val (.ref o101), .val (.ref o105), .val (.ref r107), .val (.ref r109), .val (.ref r107), .val (.ref r109)] [(.ref r107), (.ref r107)])
        refine Go.of (fun _ hr => Jvm.RoadKit.acmp (g := (mkF m 114 #[.val (.int p1), .val (.int p2), .val (.int p3), .val (.int p4), .val (.ref o101), .val (.ref o105), .val (.ref r107), .val (.ref r109), .val (.ref r107), .val (.ref r109)] [(.ref r107), (.ref r107)])) X115 hx rfl rfl rfl (pc0 := 114) (pc' := 117) (same := true) rfl (hb hby at_114) rfl (decide_eq_true rfl) (by decide) (by decide) hr) ?_
        show Go p e s below _ _ _ _ T115 (mkF m 117 #[.val (.int p1), .val (.int p2), .val (.int p3), .val (.int p4), .val (.ref o101), .val (.ref o105), .val (.ref r107), .val (.ref r109), .val (.ref r107), .val (.ref r109)] [])
        refine Go.of (fun _ hr => XS.aload X115.here hx rfl (hb hby at_117) rfl rfl hr) ?_
        show Go p e s below _ _ _ _ T115 (mkF m 119 #[.val (.int p1), .val (.int p2), .val (.int p3), .val (.int p4), .val (.ref o101), .val (.ref o105), .val (.ref r107), .val (.ref r109), .val (.ref r107), .val (.ref r109)] [(.ref r109)])
        refine Go.of (fun _ hr => XS.aload X115.here hx rfl (hb hby at_119) rfl rfl hr) ?_
        show Go p e s below _ _ _ _ T115 (mkF m 121 #[.val (.int p1), .val (.int p2), .val (.int p3), .val (.int p4), .val (.ref o101), .val (.ref o105), .val (.ref r107), .val (.ref r109), .val (.ref r107), .val (.ref r109)] [(.ref r109), (.ref r109)])
        refine Go.of (fun _ hr => Jvm.RoadKit.acmp (g := (mkF m 121 #[.val (.int p1), .val (.int p2), .val (.int p3), .val (.int p4), .val (.ref o101), .val (.ref o105), .val (.ref r107), .val (.ref r109), .val (.ref r107), .val (.ref r109)] [(.ref r109), (.ref r109)])) X115 hx rfl rfl rfl (pc0 := 121) (pc' := 124) (same := true) rfl (hb hby at_121) rfl (decide_eq_true rfl) (by decide) (by decide) hr) ?_
        show Go p e s below _ _ _ _ T115 (mkF m 124 #[.val (.int p1), .val (.int p2), .val (.int p3), .val (.int p4), .val (.ref o101), .val (.ref o105), .val (.ref r107), .val (.ref r109), .val (.ref r107), .val (.ref r109)] [])
        refine Go.of (fun _ hr => XS.iconst X115.here hx rfl (hb hby at_124) hr) ?_
        show Go p e s below _ _ _ _ T115 (mkF m 125 #[.val (.int p1), .val (.int p2), .val (.int p3), .val (.int p4), .val (.ref o101), .val (.ref o105), .val (.ref r107), .val (.ref r109), .val (.ref r107), .val (.ref r109)] [(.int (1 : Int32))])
        refine Go.of (fun _ hr => XS.goto X115.here hx rfl (pc0 := 125) (pc' := 129) rfl (hb hby at_125) (by decide) (by decide) hr) ?_
        show Go p e s below _ _ _ _ T115 (mkF m 129 #[.val (.int p1), .val (.int p2), .val (.int p3), .val (.int p4), .val (.ref o101), .val (.ref o105), .val (.ref r107), .val (.ref r109), .val (.ref r107), .val (.ref r109)] [(.int (1 : Int32))])
        exact Go.retN X115 hx hlk B114 (J114.sub fun x hx => (List.mem_cons_of_mem _ hx)) e115 (t := .boolean) (z' := (1 : Int32)) hret (by simp) (hb hby at_129) rfl (by decide) (by decide) (fun vm_ hw_ => ⟨rfl, (fun y hy => Nat.le_trans hnb (N114 y hy))⟩)
      · refine Go.of (fun _ hr => XS.ifNo X107.here hx rfl (hb hby at_66) rfl ((if0 _ _).trans (feq hb66_108).1) hr) ?_
        show Go p e s below _ _ _ _ T107 (mkF m 69 #[.val (.int p1), .val (.int p2), .val (.int p3), .val (.int p4), .val (.ref o101), .val (.ref o105), .val (.ref r107), .unset, .unset, .unset] [])
        refine Go.of (fun _ hr => XS.aconstNull X107.here hx rfl (hb hby at_69) hr) ?_
        show Go p e s below _ _ _ _ T107 (mkF m 70 #[.val (.int p1), .val (.int p2), .val (.int p3), .val (.int p4), .val (.ref o101), .val (.ref o105), .val (.ref r107), .unset, .unset, .unset] [.null])
        refine Go.of (fun _ hr => XS.goto X107.here hx rfl (pc0 := 70) (pc' := 82) rfl (hb hby at_70) (by decide) (by decide) hr) ?_
        show Go p e s below _ _ _ _ T107 (mkF m 82 #[.val (.int p1), .val (.int p2), .val (.int p3), .val (.int p4), .val (.ref o101), .val (.ref o105), .val (.ref r107), .unset, .unset, .unset] [.null])
        refine Go.of (fun _ hr => XS.astore X107.here hx rfl (hb hby at_82) rfl rfl (l' := #[.val (.int p1), .val (.int p2), .val (.int p3), .val (.int p4), .val (.ref o101), .val (.ref o105), .val (.ref r107), .val .null, .unset, .unset]) rfl hr) ?_
        show Go p e s below _ _ _ _ T107 (mkF m 84 #[.val (.int p1), .val (.int p2), .val (.int p3), .val (.int p4), .val (.ref o101), .val (.ref o105), .val (.ref r107), .val .null, .unset, .unset] [])
        refine Go.of (fun _ hr => XS.aconstNull X107.here hx rfl (hb hby at_84) hr) ?_
        show Go p e s below _ _ _ _ T107 (mkF m 85 #[.val (.int p1), .val (.int p2), .val (.int p3), .val (.int p4), .val (.ref o101), .val (.ref o105), .val (.ref r107), .val .null, .unset, .unset] [.null])
        refine Go.of (fun _ hr => XS.aload X107.here hx rfl (hb hby at_85) rfl rfl hr) ?_
        show Go p e s below _ _ _ _ T107 (mkF m 87 #[.val (.int p1), .val (.int p2), .val (.int p3), .val (.int p4), .val (.ref o101), .val (.ref o105), .val (.ref r107), .val .null, .unset, .unset] [(.ref r107), .null])
        refine Go.of (fun _ hr => XS.aload X107.here hx rfl (hb hby at_87) rfl rfl hr) ?_
        show Go p e s below _ _ _ _ T107 (mkF m 89 #[.val (.int p1), .val (.int p2), .val (.int p3), .val (.int p4), .val (.ref o101), .val (.ref o105), .val (.ref r107), .val .null, .unset, .unset] [(.ref o105), (.ref r107), .null])
        obtain ⟨_, b116, T116, h116, L116, e116, Cc116, X116, B116, J116, g116, hQ116, st116⟩ := own_callS Cc107 B107 J107 X107 (hw _ (List.mem_of_getElem? (i := 30) rfl)) (hw _ (List.mem_of_getElem? (i := 31) rfl)) (hw _ (List.mem_of_getElem? (i := 32) rfl)) (hw _ (List.mem_of_getElem? (i := 33) rfl)) (by decide) (rmOR l Z a0 hw [] r107 o105 _ h107 n0 O107 h0.size (own_ole O0) K107.1) e107 (g := (mkF m 89 #[.val (.int p1), .val (.int p2), .val (.int p3), .val (.int p4), .val (.ref o101), .val (.ref o105), .val (.ref r107), .val .null, .unset, .unset] [(.ref o105), (.ref r107), .null])) rfl (by rw [hml]; rfl) (argsL := [.null, (.ref r107), (.ref o105)]) (rest := []) (lenOf pd11 rfl) rfl (W := 0) (by show 2 * 0 + _ ≤ _; exact Nat.le_of_eq rfl) (hb hby at_89) (by decide) (by decide) (by decide) (by decide)
        obtain ⟨rfl, Nq116, hh116⟩ := hQ116
        have N116 := Fr.app N107 Nq116
        obtain ⟨hx, hZ, hown, hby, hml, hnm, hret, hlk⟩ := id Cc116
        rw [hh116] at e116 B116 J116
        refine Go.of st116 ?_
        show Go p e s below _ _ _ _ T116 (mkF m 92 #[.val (.int p1), .val (.int p2), .val (.int p3), .val (.int p4), .val (.ref o101), .val (.ref o105), .val (.ref r107), .val .null, .unset, .unset] [(.ref r107)])
        obtain ⟨T117, X117, e117, st117⟩ := castY X116 hx hZ hown (hw _ (List.mem_of_getElem? (i := 42) rfl)) e116 (Ins.self Er107) (g := (mkF m 92 #[.val (.int p1), .val (.int p2), .val (.int p3), .val (.int p4), .val (.ref o101), .val (.ref o105), .val (.ref r107), .val .null, .unset, .unset] [(.ref r107)])) rfl rfl (hb hby at_92)
        refine Go.of (fun _ hr => st117 _ hr) ?_
        show Go p e s below _ _ _ _ T117 (mkF m 95 #[.val (.int p1), .val (.int p2), .val (.int p3), .val (.int p4), .val (.ref o101), .val (.ref o105), .val (.ref r107), .val .null, .unset, .unset] [(.ref r107)])
        refine Go.of (fun _ hr => XS.astore X117.here hx rfl (hb hby at_95) rfl rfl (l' := #[.val (.int p1), .val (.int p2), .val (.int p3), .val (.int p4), .val (.ref o101), .val (.ref o105), .val (.ref r107), .val .null, .val (.ref r107), .unset]) rfl hr) ?_
        show Go p e s below _ _ _ _ T117 (mkF m 97 #[.val (.int p1), .val (.int p2), .val (.int p3), .val (.int p4), .val (.ref o101), .val (.ref o105), .val (.ref r107), .val .null, .val (.ref r107), .unset] [])
        refine Go.of (fun _ hr => XS.aconstNull X117.here hx rfl (hb hby at_97) hr) ?_
        show Go p e s below _ _ _ _ T117 (mkF m 98 #[.val (.int p1), .val (.int p2), .val (.int p3), .val (.int p4), .val (.ref o101), .val (.ref o105), .val (.ref r107), .val .null, .val (.ref r107), .unset] [.null])
        refine Go.of (fun _ hr => XS.aload X117.here hx rfl (hb hby at_98) rfl rfl hr) ?_
        show Go p e s below _ _ _ _ T117 (mkF m 100 #[.val (.int p1), .val (.int p2), .val (.int p3), .val (.int p4), .val (.ref o101), .val (.ref o105), .val (.ref r107), .val .null, .val (.ref r107), .unset] [.null, .null])
        refine Go.of (fun _ hr => XS.aload X117.here hx rfl (hb hby at_100) rfl rfl hr) ?_
        show Go p e s below _ _ _ _ T117 (mkF m 102 #[.val (.int p1), .val (.int p2), .val (.int p3), .val (.int p4), .val (.ref o101), .val (.ref o105), .val (.ref r107), .val .null, .val (.ref r107), .unset] [(.ref o105), .null, .null])
        obtain ⟨_, b118, T118, h118, L118, e118, Cc118, X118, B118, J118, g118, hQ118, st118⟩ := own_callS Cc116 B116 J116 X117 (hw _ (List.mem_of_getElem? (i := 30) rfl)) (hw _ (List.mem_of_getElem? (i := 31) rfl)) (hw _ (List.mem_of_getElem? (i := 32) rfl)) (hw _ (List.mem_of_getElem? (i := 33) rfl)) (by decide) (rmON l Z a0 hw [] o105 _ h107 n0 O107 h0.size (own_ole O0) K107.1) e117 (g := (mkF m 102 #[.val (.int p1), .val (.int p2), .val (.int p3), .val (.int p4), .val (.ref o101), .val (.ref o105), .val (.ref r107), .val .null, .val (.ref r107), .unset] [(.ref o105), .null, .null])) rfl (by rw [hml]; rfl) (argsL := [.null, .null, (.ref o105)]) (rest := []) (lenOf pd11 rfl) rfl (W := 0) (by show 2 * 0 + _ ≤ _; exact Nat.le_of_eq rfl) (hb hby at_102) (by decide) (by decide) (by decide) (by decide)
        obtain ⟨rfl, Nq118, hh118⟩ := hQ118
        have N118 := Fr.app N116 Nq118
        obtain ⟨hx, hZ, hown, hby, hml, hnm, hret, hlk⟩ := id Cc118
        rw [hh118] at e118 B118 J118
        refine Go.of st118 ?_
        show Go p e s below _ _ _ _ T118 (mkF m 105 #[.val (.int p1), .val (.int p2), .val (.int p3), .val (.int p4), .val (.ref o101), .val (.ref o105), .val (.ref r107), .val .null, .val (.ref r107), .unset] [.null])
        refine Go.of (fun _ hr => X118.checkcastNull hx (g := (mkF m 105 #[.val (.int p1), .val (.int p2), .val (.int p3), .val (.int p4), .val (.ref o101), .val (.ref o105), .val (.ref r107), .val .null, .val (.ref r107), .unset] [.null])) rfl rfl (hb hby at_105) _ hr) ?_
        show Go p e s below _ _ _ _ T118 (mkF m 108 #[.val (.int p1), .val (.int p2), .val (.int p3), .val (.int p4), .val (.ref o101), .val (.ref o105), .val (.ref r107), .val .null, .val (.ref r107), .unset] [.null])
        refine Go.of (fun _ hr => XS.astore X118.here hx rfl (hb hby at_108) rfl rfl (l' := #[.val (.int p1), .val (.int p2), .val (.int p3), .val (.int p4), .val (.ref o101), .val (.ref o105), .val (.ref r107), .val .null, .val (.ref r107), .val .null]) rfl hr) ?_
        show Go p e s below _ _ _ _ T118 (mkF m 110 #[.val (.int p1), .val (.int p2), .val (.int p3), .val (.int p4), .val (.ref o101), .val (.ref o105), .val (.ref r107), .val .null, .val (.ref r107), .val .null] [])
        refine Go.of (fun _ hr => XS.aload X118.here hx rfl (hb hby at_110) rfl rfl hr) ?_
        show Go p e s below _ _ _ _ T118 (mkF m 112 #[.val (.int p1), .val (.int p2), .val (.int p3), .val (.int p4), .val (.ref o101), .val (.ref o105), .val (.ref r107), .val .null, .val (.ref r107), .val .null] [(.ref r107)])
        refine Go.of (fun _ hr => XS.aload X118.here hx rfl (hb hby at_112) rfl rfl hr) ?_
        show Go p e s below _ _ _ _ T118 (mkF m 114 #[.val (.int p1), .val (.int p2), .val (.int p3), .val (.int p4), .val (.ref o101), .val (.ref o105), .val (.ref r107), .val .null, .val (.ref r107), .val .null] [(.ref r107), (.ref r107)])
        refine Go.of (fun _ hr => Jvm.RoadKit.acmp (g := (mkF m 114 #[.val (.int p1), .val (.int p2), .val (.int p3), .val (.int p4), .val (.ref o101), .val (.ref o105), .val (.ref r107), .val .null, .val (.ref r107), .val .null] [(.ref r107), (.ref r107)])) X118 hx rfl rfl rfl (pc0 := 114) (pc' := 117) (same := true) rfl (hb hby at_114) rfl (decide_eq_true rfl) (by decide) (by decide) hr) ?_
        show Go p e s below _ _ _ _ T118 (mkF m 117 #[.val (.int p1), .val (.int p2), .val (.int p3), .val (.int p4), .val (.ref o101), .val (.ref o105), .val (.ref r107), .val .null, .val (.ref r107), .val .null] [])
        refine Go.of (fun _ hr => XS.aload X118.here hx rfl (hb hby at_117) rfl rfl hr) ?_
        show Go p e s below _ _ _ _ T118 (mkF m 119 #[.val (.int p1), .val (.int p2), .val (.int p3), .val (.int p4), .val (.ref o101), .val (.ref o105), .val (.ref r107), .val .null, .val (.ref r107), .val .null] [.null])
        refine Go.of (fun _ hr => XS.aload X118.here hx rfl (hb hby at_119) rfl rfl hr) ?_
        show Go p e s below _ _ _ _ T118 (mkF m 121 #[.val (.int p1), .val (.int p2), .val (.int p3), .val (.int p4), .val (.ref o101), .val (.ref o105), .val (.ref r107), .val .null, .val (.ref r107), .val .null] [.null, .null])
        refine Go.of (fun _ hr => Jvm.RoadKit.acmp (g := (mkF m 121 #[.val (.int p1), .val (.int p2), .val (.int p3), .val (.int p4), .val (.ref o101), .val (.ref o105), .val (.ref r107), .val .null, .val (.ref r107), .val .null] [.null, .null])) X118 hx rfl rfl rfl (pc0 := 121) (pc' := 124) (same := true) rfl (hb hby at_121) rfl (decide_eq_true rfl) (by decide) (by decide) hr) ?_
        show Go p e s below _ _ _ _ T118 (mkF m 124 #[.val (.int p1), .val (.int p2), .val (.int p3), .val (.int p4), .val (.ref o101), .val (.ref o105), .val (.ref r107), .val .null, .val (.ref r107), .val .null] [])
        refine Go.of (fun _ hr => XS.iconst X118.here hx rfl (hb hby at_124) hr) ?_
        show Go p e s below _ _ _ _ T118 (mkF m 125 #[.val (.int p1), .val (.int p2), .val (.int p3), .val (.int p4), .val (.ref o101), .val (.ref o105), .val (.ref r107), .val .null, .val (.ref r107), .val .null] [(.int (1 : Int32))])
        refine Go.of (fun _ hr => XS.goto X118.here hx rfl (pc0 := 125) (pc' := 129) rfl (hb hby at_125) (by decide) (by decide) hr) ?_
        show Go p e s below _ _ _ _ T118 (mkF m 129 #[.val (.int p1), .val (.int p2), .val (.int p3), .val (.int p4), .val (.ref o101), .val (.ref o105), .val (.ref r107), .val .null, .val (.ref r107), .val .null] [(.int (1 : Int32))])
        exact Go.retN X118 hx hlk B118 (J118.sub fun x hx => (List.mem_cons_of_mem _ hx)) e118 (t := .boolean) (z' := (1 : Int32)) hret (by simp) (hb hby at_129) rfl (by decide) (by decide) (fun vm_ hw_ => ⟨rfl, (fun y hy => Nat.le_trans hnb (N118 y hy))⟩)
    · refine Go.of (fun _ hr => XS.ifNo X105.here hx rfl (hb hby at_50) rfl ((if0 _ _).trans (feq hb50_106).1) hr) ?_
      show Go p e s below _ _ _ _ T105 (mkF m 53 #[.val (.int p1), .val (.int p2), .val (.int p3), .val (.int p4), .val (.ref o101), .val (.ref o105), .unset, .unset, .unset, .unset] [])
      refine Go.of (fun _ hr => XS.aconstNull X105.here hx rfl (hb hby at_53) hr) ?_
      show Go p e s below _ _ _ _ T105 (mkF m 54 #[.val (.int p1), .val (.int p2), .val (.int p3), .val (.int p4), .val (.ref o101), .val (.ref o105), .unset, .unset, .unset, .unset] [.null])
      refine Go.of (fun _ hr => XS.goto X105.here hx rfl (pc0 := 54) (pc' := 61) rfl (hb hby at_54) (by decide) (by decide) hr) ?_
      show Go p e s below _ _ _ _ T105 (mkF m 61 #[.val (.int p1), .val (.int p2), .val (.int p3), .val (.int p4), .val (.ref o101), .val (.ref o105), .unset, .unset, .unset, .unset] [.null])
      refine Go.of (fun _ hr => XS.astore X105.here hx rfl (hb hby at_61) rfl rfl (l' := #[.val (.int p1), .val (.int p2), .val (.int p3), .val (.int p4), .val (.ref o101), .val (.ref o105), .val .null, .unset, .unset, .unset]) rfl hr) ?_
      show Go p e s below _ _ _ _ T105 (mkF m 63 #[.val (.int p1), .val (.int p2), .val (.int p3), .val (.int p4), .val (.ref o101), .val (.ref o105), .val .null, .unset, .unset, .unset] [])
      refine Go.of (fun _ hr => XS.iloadN X105.here hx rfl (hb hby at_63) rfl  hr) ?_
      show Go p e s below _ _ _ _ T105 (mkF m 64 #[.val (.int p1), .val (.int p2), .val (.int p3), .val (.int p4), .val (.ref o101), .val (.ref o105), .val .null, .unset, .unset, .unset] [(.int p4)])
      refine Go.of (fun _ hr => XS.iconst X105.here hx rfl (hb hby at_64) hr) ?_
      show Go p e s below _ _ _ _ T105 (mkF m 65 #[.val (.int p1), .val (.int p2), .val (.int p3), .val (.int p4), .val (.ref o101), .val (.ref o105), .val .null, .unset, .unset, .unset] [(.int (2 : Int32)), (.int p4)])
      refine Go.of (fun _ hr => XS.iand X105.here hx rfl (hb hby at_65) rfl hr) ?_
      show Go p e s below _ _ _ _ T105 (mkF m 66 #[.val (.int p1), .val (.int p2), .val (.int p3), .val (.int p4), .val (.ref o101), .val (.ref o105), .val .null, .unset, .unset, .unset] [(.int (p4 &&& (2 : Int32)))])
      by_cases hb66_120 : (p4 &&& (2 : Int32)) = (0 : Int32)
      · refine Go.of (fun _ hr => XS.ifYes X105.here hx rfl (pc0 := 66) (pc' := 73) rfl (hb hby at_66) rfl ((if0 _ _).trans (teq hb66_120).1) (by decide) (by decide) hr) ?_
        show Go p e s below _ _ _ _ T105 (mkF m 73 #[.val (.int p1), .val (.int p2), .val (.int p3), .val (.int p4), .val (.ref o101), .val (.ref o105), .val .null, .unset, .unset, .unset] [])
        refine Go.of (fun _ hr => XS.iloadN X105.here hx rfl (hb hby at_73) rfl  hr) ?_
        show Go p e s below _ _ _ _ T105 (mkF m 74 #[.val (.int p1), .val (.int p2), .val (.int p3), .val (.int p4), .val (.ref o101), .val (.ref o105), .val .null, .unset, .unset, .unset] [(.int p3)])
        refine Go.of (fun _ hr => XS.sipush X105.here hx rfl (hb hby at_74) hr) ?_
        show Go p e s below _ _ _ _ T105 (mkF m 77 #[.val (.int p1), .val (.int p2), .val (.int p3), .val (.int p4), .val (.ref o101), .val (.ref o105), .val .null, .unset, .unset, .unset] [(.int (255 : Int32)), (.int p3)])
        refine Go.of (fun _ hr => XS.iand X105.here hx rfl (hb hby at_77) rfl hr) ?_
        show Go p e s below _ _ _ _ T105 (mkF m 78 #[.val (.int p1), .val (.int p2), .val (.int p3), .val (.int p4), .val (.ref o101), .val (.ref o105), .val .null, .unset, .unset, .unset] [(.int (p3 &&& (255 : Int32)))])
        refine Go.of (fun _ hr => XS.i2c X105.here hx rfl (hb hby at_78) rfl hr) ?_
        show Go p e s below _ _ _ _ T105 (mkF m 79 #[.val (.int p1), .val (.int p2), .val (.int p3), .val (.int p4), .val (.ref o101), .val (.ref o105), .val .null, .unset, .unset, .unset] [(.int ((p3 &&& (255 : Int32)).toUInt32.toUInt16.toUInt32.toInt32))])
        obtain ⟨_, b121, T121, h121, L121, e121, Cc121, X121, B121, J121, g121, hQ121, st121⟩ := own_callS Cc105 B105 J105 X105 (hw _ (List.mem_of_getElem? (i := 9) rfl)) (hw _ (List.mem_of_getElem? (i := 10) rfl)) (hw _ (List.mem_of_getElem? (i := 2) rfl)) (hw _ (List.mem_of_getElem? (i := 11) rfl)) (by decide) (rm1 l Z a0 hw [] ((p3 &&& (255 : Int32)).toUInt32.toUInt16.toUInt32.toInt32) zc _ h105 n0 O105 h0.size (own_ole O0) K105.1 (chr8 p3).2 S_C hzc) e105 (g := (mkF m 79 #[.val (.int p1), .val (.int p2), .val (.int p3), .val (.int p4), .val (.ref o101), .val (.ref o105), .val .null, .unset, .unset, .unset] [(.int ((p3 &&& (255 : Int32)).toUInt32.toUInt16.toUInt32.toInt32))])) rfl (by rw [hml]; rfl) (argsL := [(.int ((p3 &&& (255 : Int32)).toUInt32.toUInt16.toUInt32.toInt32))]) (rest := []) (lenOf pd10 rfl) rfl (W := 0) (by show 2 * 0 + _ ≤ _; exact Nat.le_of_eq rfl) (hb hby at_79) (by decide) (by decide) (by decide) (by decide)
        have f122 := (V103.ext E105)
        obtain ⟨r121, t121, kt121, rfl, Nq121, Eq121, R_r121, R_t121, Er121, Fv121, Fc121, Vt121⟩ := hQ121
        have N121 := Fr.app N103 Nq121
        obtain ⟨hx, hZ, hown, hby, hml, hnm, hret, hlk⟩ := id Cc121
        have sz_r121 : h0.size ≤ r121 := Nat.le_trans K105.1 R_r121
        have fr_r121 : h0.size ≤ r121 := sz_r121
        have ne_o101_r121 : o101 ≠ r121 := Nat.ne_of_lt (Nat.lt_of_lt_of_le f122.lt R_r121)
        have sz_t121 : h0.size ≤ t121 := Nat.le_trans K105.1 R_t121
        have fr_t121 : h0.size ≤ t121 := sz_t121
        have ne_o101_t121 : o101 ≠ t121 := Nat.ne_of_lt (Nat.lt_of_lt_of_le f122.lt R_t121)
        have K121 := K105.ext Eq121
        have O121 := O105.ext Eq121
        refine Go.of st121 ?_
        show Go p e s below _ _ _ _ T121 (mkF m 82 #[.val (.int p1), .val (.int p2), .val (.int p3), .val (.int p4), .val (.ref o101), .val (.ref o105), .val .null, .unset, .unset, .unset] [(.ref r121)])
        refine Go.of (fun _ hr => XS.astore X121.here hx rfl (hb hby at_82) rfl rfl (l' := #[.val (.int p1), .val (.int p2), .val (.int p3), .val (.int p4), .val (.ref o101), .val (.ref o105), .val .null, .val (.ref r121), .unset, .unset]) rfl hr) ?_
        show Go p e s below _ _ _ _ T121 (mkF m 84 #[.val (.int p1), .val (.int p2), .val (.int p3), .val (.int p4), .val (.ref o101), .val (.ref o105), .val .null, .val (.ref r121), .unset, .unset] [])
        refine Go.of (fun _ hr => XS.aconstNull X121.here hx rfl (hb hby at_84) hr) ?_
        show Go p e s below _ _ _ _ T121 (mkF m 85 #[.val (.int p1), .val (.int p2), .val (.int p3), .val (.int p4), .val (.ref o101), .val (.ref o105), .val .null, .val (.ref r121), .unset, .unset] [.null])
        refine Go.of (fun _ hr => XS.aload X121.here hx rfl (hb hby at_85) rfl rfl hr) ?_
        show Go p e s below _ _ _ _ T121 (mkF m 87 #[.val (.int p1), .val (.int p2), .val (.int p3), .val (.int p4), .val (.ref o101), .val (.ref o105), .val .null, .val (.ref r121), .unset, .unset] [.null, .null])
        refine Go.of (fun _ hr => XS.aload X121.here hx rfl (hb hby at_87) rfl rfl hr) ?_
        show Go p e s below _ _ _ _ T121 (mkF m 89 #[.val (.int p1), .val (.int p2), .val (.int p3), .val (.int p4), .val (.ref o101), .val (.ref o105), .val .null, .val (.ref r121), .unset, .unset] [(.ref o105), .null, .null])
        obtain ⟨_, b123, T123, h123, L123, e123, Cc123, X123, B123, J123, g123, hQ123, st123⟩ := own_callS Cc121 B121 J121 X121 (hw _ (List.mem_of_getElem? (i := 30) rfl)) (hw _ (List.mem_of_getElem? (i := 31) rfl)) (hw _ (List.mem_of_getElem? (i := 32) rfl)) (hw _ (List.mem_of_getElem? (i := 33) rfl)) (by decide) (rmON l Z a0 hw [] o105 _ h121 n0 O121 h0.size (own_ole O0) K121.1) e121 (g := (mkF m 89 #[.val (.int p1), .val (.int p2), .val (.int p3), .val (.int p4), .val (.ref o101), .val (.ref o105), .val .null, .val (.ref r121), .unset, .unset] [(.ref o105), .null, .null])) rfl (by rw [hml]; rfl) (argsL := [.null, .null, (.ref o105)]) (rest := []) (lenOf pd11 rfl) rfl (W := 0) (by show 2 * 0 + _ ≤ _; exact Nat.le_of_eq rfl) (hb hby at_89) (by decide) (by decide) (by decide) (by decide)
        obtain ⟨rfl, Nq123, hh123⟩ := hQ123
        have N123 := Fr.app N121 Nq123
        obtain ⟨hx, hZ, hown, hby, hml, hnm, hret, hlk⟩ := id Cc123
        rw [hh123] at e123 B123 J123
        refine Go.of st123 ?_
        show Go p e s below _ _ _ _ T123 (mkF m 92 #[.val (.int p1), .val (.int p2), .val (.int p3), .val (.int p4), .val (.ref o101), .val (.ref o105), .val .null, .val (.ref r121), .unset, .unset] [.null])
        refine Go.of (fun _ hr => X123.checkcastNull hx (g := (mkF m 92 #[.val (.int p1), .val (.int p2), .val (.int p3), .val (.int p4), .val (.ref o101), .val (.ref o105), .val .null, .val (.ref r121), .unset, .unset] [.null])) rfl rfl (hb hby at_92) _ hr) ?_
        show Go p e s below _ _ _ _ T123 (mkF m 95 #[.val (.int p1), .val (.int p2), .val (.int p3), .val (.int p4), .val (.ref o101), .val (.ref o105), .val .null, .val (.ref r121), .unset, .unset] [.null])
        refine Go.of (fun _ hr => XS.astore X123.here hx rfl (hb hby at_95) rfl rfl (l' := #[.val (.int p1), .val (.int p2), .val (.int p3), .val (.int p4), .val (.ref o101), .val (.ref o105), .val .null, .val (.ref r121), .val .null, .unset]) rfl hr) ?_
        show Go p e s below _ _ _ _ T123 (mkF m 97 #[.val (.int p1), .val (.int p2), .val (.int p3), .val (.int p4), .val (.ref o101), .val (.ref o105), .val .null, .val (.ref r121), .val .null, .unset] [])
        refine Go.of (fun _ hr => XS.aconstNull X123.here hx rfl (hb hby at_97) hr) ?_
        show Go p e s below _ _ _ _ T123 (mkF m 98 #[.val (.int p1), .val (.int p2), .val (.int p3), .val (.int p4), .val (.ref o101), .val (.ref o105), .val .null, .val (.ref r121), .val .null, .unset] [.null])
        refine Go.of (fun _ hr => XS.aload X123.here hx rfl (hb hby at_98) rfl rfl hr) ?_
        show Go p e s below _ _ _ _ T123 (mkF m 100 #[.val (.int p1), .val (.int p2), .val (.int p3), .val (.int p4), .val (.ref o101), .val (.ref o105), .val .null, .val (.ref r121), .val .null, .unset] [(.ref r121), .null])
        refine Go.of (fun _ hr => XS.aload X123.here hx rfl (hb hby at_100) rfl rfl hr) ?_
        show Go p e s below _ _ _ _ T123 (mkF m 102 #[.val (.int p1), .val (.int p2), .val (.int p3), .val (.int p4), .val (.ref o101), .val (.ref o105), .val .null, .val (.ref r121), .val .null, .unset] [(.ref o105), (.ref r121), .null])
        obtain ⟨_, b125, T125, h125, L125, e125, Cc125, X125, B125, J125, g125, hQ125, st125⟩ := own_callS Cc123 B123 J123 X123 (hw _ (List.mem_of_getElem? (i := 30) rfl)) (hw _ (List.mem_of_getElem? (i := 31) rfl)) (hw _ (List.mem_of_getElem? (i := 32) rfl)) (hw _ (List.mem_of_getElem? (i := 33) rfl)) (by decide) (rmOR l Z a0 hw [] r121 o105 _ h121 n0 O121 h0.size (own_ole O0) K121.1) e123 (g := (mkF m 102 #[.val (.int p1), .val (.int p2), .val (.int p3), .val (.int p4), .val (.ref o101), .val (.ref o105), .val .null, .val (.ref r121), .val .null, .unset] [(.ref o105), (.ref r121), .null])) rfl (by rw [hml]; rfl) (argsL := [.null, (.ref r121), (.ref o105)]) (rest := []) (lenOf pd11 rfl) rfl (W := 0) (by show 2 * 0 + _ ≤ _; exact Nat.le_of_eq rfl) (hb hby at_102) (by decide) (by decide) (by decide) (by decide)
        obtain ⟨rfl, Nq125, hh125⟩ := hQ125
        have N125 := Fr.app N123 Nq125
        obtain ⟨hx, hZ, hown, hby, hml, hnm, hret, hlk⟩ := id Cc125
        rw [hh125] at e125 B125 J125
        refine Go.of st125 ?_
        show Go p e s below _ _ _ _ T125 (mkF m 105 #[.val (.int p1), .val (.int p2), .val (.int p3), .val (.int p4), .val (.ref o101), .val (.ref o105), .val .null, .val (.ref r121), .val .null, .unset] [(.ref r121)])
        obtain ⟨T126, X126, e126, st126⟩ := castY X125 hx hZ hown (hw _ (List.mem_of_getElem? (i := 34) rfl)) e125 (Ins.self Er121) (g := (mkF m 105 #[.val (.int p1), .val (.int p2), .val (.int p3), .val (.int p4), .val (.ref o101), .val (.ref o105), .val .null, .val (.ref r121), .val .null, .unset] [(.ref r121)])) rfl rfl (hb hby at_105)
        refine Go.of (fun _ hr => st126 _ hr) ?_
        show Go p e s below _ _ _ _ T126 (mkF m 108 #[.val (.int p1), .val (.int p2), .val (.int p3), .val (.int p4), .val (.ref o101), .val (.ref o105), .val .null, .val (.ref r121), .val .null, .unset] [(.ref r121)])
        refine Go.of (fun _ hr => XS.astore X126.here hx rfl (hb hby at_108) rfl rfl (l' := #[.val (.int p1), .val (.int p2), .val (.int p3), .val (.int p4), .val (.ref o101), .val (.ref o105), .val .null, .val (.ref r121), .val .null, .val (.ref r121)]) rfl hr) ?_
        show Go p e s below _ _ _ _ T126 (mkF m 110 #[.val (.int p1), .val (.int p2), .val (.int p3), .val (.int p4), .val (.ref o101), .val (.ref o105), .val .null, .val (.ref r121), .val .null, .val (.ref r121)] [])
        refine Go.of (fun _ hr => XS.aload X126.here hx rfl (hb hby at_110) rfl rfl hr) ?_
        show Go p e s below _ _ _ _ T126 (mkF m 112 #[.val (.int p1), .val (.int p2), .val (.int p3), .val (.int p4), .val (.ref o101), .val (.ref o105), .val .null, .val (.ref r121), .val .null, .val (.ref r121)] [.null])
        refine Go.of (fun _ hr => XS.aload X126.here hx rfl (hb hby at_112) rfl rfl hr) ?_
        show Go p e s below _ _ _ _ T126 (mkF m 114 #[.val (.int p1), .val (.int p2), .val (.int p3), .val (.int p4), .val (.ref o101), .val (.ref o105), .val .null, .val (.ref r121), .val .null, .val (.ref r121)] [.null, .null])
        refine Go.of (fun _ hr => Jvm.RoadKit.acmp (g := (mkF m 114 #[.val (.int p1), .val (.int p2), .val (.int p3), .val (.int p4), .val (.ref o101), .val (.ref o105), .val .null, .val (.ref r121), .val .null, .val (.ref r121)] [.null, .null])) X126 hx rfl rfl rfl (pc0 := 114) (pc' := 117) (same := true) rfl (hb hby at_114) rfl (decide_eq_true rfl) (by decide) (by decide) hr) ?_
        show Go p e s below _ _ _ _ T126 (mkF m 117 #[.val (.int p1), .val (.int p2), .val (.int p3), .val (.int p4), .val (.ref o101), .val (.ref o105), .val .null, .val (.ref r121), .val .null, .val (.ref r121)] [])
        refine Go.of (fun _ hr => XS.aload X126.here hx rfl (hb hby at_117) rfl rfl hr) ?_
        show Go p e s below _ _ _ _ T126 (mkF m 119 #[.val (.int p1), .val (.int p2), .val (.int p3), .val (.int p4), .val (.ref o101), .val (.ref o105), .val .null, .val (.ref r121), .val .null, .val (.ref r121)] [(.ref r121)])
        refine Go.of (fun _ hr => XS.aload X126.here hx rfl (hb hby at_119) rfl rfl hr) ?_
        show Go p e s below _ _ _ _ T126 (mkF m 121 #[.val (.int p1), .val (.int p2), .val (.int p3), .val (.int p4), .val (.ref o101), .val (.ref o105), .val .null, .val (.ref r121), .val .null, .val (.ref r121)] [(.ref r121), (.ref r121)])
        refine Go.of (fun _ hr => Jvm.RoadKit.acmp (g := (mkF m 121 #[.val (.int p1), .val (.int p2), .val (.int p3), .val (.int p4), .val (.ref o101), .val (.ref o105), .val .null, .val (.ref r121), .val .null, .val (.ref r121)] [(.ref r121), (.ref r121)])) X126 hx rfl rfl rfl (pc0 := 121) (pc' := 124) (same := true) rfl (hb hby at_121) rfl (decide_eq_true rfl) (by decide) (by decide) hr) ?_
        show Go p e s below _ _ _ _ T126 (mkF m 124 #[.val (.int p1), .val (.int p2), .val (.int p3), .val (.int p4), .val (.ref o101), .val (.ref o105), .val .null, .val (.ref r121), .val .null, .val (.ref r121)] [])
        refine Go.of (fun _ hr => XS.iconst X126.here hx rfl (hb hby at_124) hr) ?_
        show Go p e s below _ _ _ _ T126 (mkF m 125 #[.val (.int p1), .val (.int p2), .val (.int p3), .val (.int p4), .val (.ref o101), .val (.ref o105), .val .null, .val (.ref r121), .val .null, .val (.ref r121)] [(.int (1 : Int32))])
        refine Go.of (fun _ hr => XS.goto X126.here hx rfl (pc0 := 125) (pc' := 129) rfl (hb hby at_125) (by decide) (by decide) hr) ?_
        show Go p e s below _ _ _ _ T126 (mkF m 129 #[.val (.int p1), .val (.int p2), .val (.int p3), .val (.int p4), .val (.ref o101), .val (.ref o105), .val .null, .val (.ref r121), .val .null, .val (.ref r121)] [(.int (1 : Int32))])
        exact Go.retN X126 hx hlk B125 (J125.sub fun x hx => (List.mem_cons_of_mem _ hx)) e126 (t := .boolean) (z' := (1 : Int32)) hret (by simp) (hb hby at_129) rfl (by decide) (by decide) (fun vm_ hw_ => ⟨rfl, (fun y hy => Nat.le_trans hnb (N125 y hy))⟩)
      · refine Go.of (fun _ hr => XS.ifNo X105.here hx rfl (hb hby at_66) rfl ((if0 _ _).trans (feq hb66_120).1) hr) ?_
        show Go p e s below _ _ _ _ T105 (mkF m 69 #[.val (.int p1), .val (.int p2), .val (.int p3), .val (.int p4), .val (.ref o101), .val (.ref o105), .val .null, .unset, .unset, .unset] [])
        refine Go.of (fun _ hr => XS.aconstNull X105.here hx rfl (hb hby at_69) hr) ?_
        show Go p e s below _ _ _ _ T105 (mkF m 70 #[.val (.int p1), .val (.int p2), .val (.int p3), .val (.int p4), .val (.ref o101), .val (.ref o105), .val .null, .unset, .unset, .unset] [.null])
        refine Go.of (fun _ hr => XS.goto X105.here hx rfl (pc0 := 70) (pc' := 82) rfl (hb hby at_70) (by decide) (by decide) hr) ?_
        show Go p e s below _ _ _ _ T105 (mkF m 82 #[.val (.int p1), .val (.int p2), .val (.int p3), .val (.int p4), .val (.ref o101), .val (.ref o105), .val .null, .unset, .unset, .unset] [.null])
        refine Go.of (fun _ hr => XS.astore X105.here hx rfl (hb hby at_82) rfl rfl (l' := #[.val (.int p1), .val (.int p2), .val (.int p3), .val (.int p4), .val (.ref o101), .val (.ref o105), .val .null, .val .null, .unset, .unset]) rfl hr) ?_
        show Go p e s below _ _ _ _ T105 (mkF m 84 #[.val (.int p1), .val (.int p2), .val (.int p3), .val (.int p4), .val (.ref o101), .val (.ref o105), .val .null, .val .null, .unset, .unset] [])
        refine Go.of (fun _ hr => XS.aconstNull X105.here hx rfl (hb hby at_84) hr) ?_
        show Go p e s below _ _ _ _ T105 (mkF m 85 #[.val (.int p1), .val (.int p2), .val (.int p3), .val (.int p4), .val (.ref o101), .val (.ref o105), .val .null, .val .null, .unset, .unset] [.null])
        refine Go.of (fun _ hr => XS.aload X105.here hx rfl (hb hby at_85) rfl rfl hr) ?_
        show Go p e s below _ _ _ _ T105 (mkF m 87 #[.val (.int p1), .val (.int p2), .val (.int p3), .val (.int p4), .val (.ref o101), .val (.ref o105), .val .null, .val .null, .unset, .unset] [.null, .null])
        refine Go.of (fun _ hr => XS.aload X105.here hx rfl (hb hby at_87) rfl rfl hr) ?_
        show Go p e s below _ _ _ _ T105 (mkF m 89 #[.val (.int p1), .val (.int p2), .val (.int p3), .val (.int p4), .val (.ref o101), .val (.ref o105), .val .null, .val .null, .unset, .unset] [(.ref o105), .null, .null])
        obtain ⟨_, b127, T127, h127, L127, e127, Cc127, X127, B127, J127, g127, hQ127, st127⟩ := own_callS Cc105 B105 J105 X105 (hw _ (List.mem_of_getElem? (i := 30) rfl)) (hw _ (List.mem_of_getElem? (i := 31) rfl)) (hw _ (List.mem_of_getElem? (i := 32) rfl)) (hw _ (List.mem_of_getElem? (i := 33) rfl)) (by decide) (rmON l Z a0 hw [] o105 _ h105 n0 O105 h0.size (own_ole O0) K105.1) e105 (g := (mkF m 89 #[.val (.int p1), .val (.int p2), .val (.int p3), .val (.int p4), .val (.ref o101), .val (.ref o105), .val .null, .val .null, .unset, .unset] [(.ref o105), .null, .null])) rfl (by rw [hml]; rfl) (argsL := [.null, .null, (.ref o105)]) (rest := []) (lenOf pd11 rfl) rfl (W := 0) (by show 2 * 0 + _ ≤ _; exact Nat.le_of_eq rfl) (hb hby at_89) (by decide) (by decide) (by decide) (by decide)
        obtain ⟨rfl, Nq127, hh127⟩ := hQ127
        have N127 := Fr.app N103 Nq127
        obtain ⟨hx, hZ, hown, hby, hml, hnm, hret, hlk⟩ := id Cc127
        rw [hh127] at e127 B127 J127
        refine Go.of st127 ?_
        show Go p e s below _ _ _ _ T127 (mkF m 92 #[.val (.int p1), .val (.int p2), .val (.int p3), .val (.int p4), .val (.ref o101), .val (.ref o105), .val .null, .val .null, .unset, .unset] [.null])
        refine Go.of (fun _ hr => X127.checkcastNull hx (g := (mkF m 92 #[.val (.int p1), .val (.int p2), .val (.int p3), .val (.int p4), .val (.ref o101), .val (.ref o105), .val .null, .val .null, .unset, .unset] [.null])) rfl rfl (hb hby at_92) _ hr) ?_
        show Go p e s below _ _ _ _ T127 (mkF m 95 #[.val (.int p1), .val (.int p2), .val (.int p3), .val (.int p4), .val (.ref o101), .val (.ref o105), .val .null, .val .null, .unset, .unset] [.null])
        refine Go.of (fun _ hr => XS.astore X127.here hx rfl (hb hby at_95) rfl rfl (l' := #[.val (.int p1), .val (.int p2), .val (.int p3), .val (.int p4), .val (.ref o101), .val (.ref o105), .val .null, .val .null, .val .null, .unset]) rfl hr) ?_
        show Go p e s below _ _ _ _ T127 (mkF m 97 #[.val (.int p1), .val (.int p2), .val (.int p3), .val (.int p4), .val (.ref o101), .val (.ref o105), .val .null, .val .null, .val .null, .unset] [])
        refine Go.of (fun _ hr => XS.aconstNull X127.here hx rfl (hb hby at_97) hr) ?_
        show Go p e s below _ _ _ _ T127 (mkF m 98 #[.val (.int p1), .val (.int p2), .val (.int p3), .val (.int p4), .val (.ref o101), .val (.ref o105), .val .null, .val .null, .val .null, .unset] [.null])
        refine Go.of (fun _ hr => XS.aload X127.here hx rfl (hb hby at_98) rfl rfl hr) ?_
        show Go p e s below _ _ _ _ T127 (mkF m 100 #[.val (.int p1), .val (.int p2), .val (.int p3), .val (.int p4), .val (.ref o101), .val (.ref o105), .val .null, .val .null, .val .null, .unset] [.null, .null])
        refine Go.of (fun _ hr => XS.aload X127.here hx rfl (hb hby at_100) rfl rfl hr) ?_
        show Go p e s below _ _ _ _ T127 (mkF m 102 #[.val (.int p1), .val (.int p2), .val (.int p3), .val (.int p4), .val (.ref o101), .val (.ref o105), .val .null, .val .null, .val .null, .unset] [(.ref o105), .null, .null])
        obtain ⟨_, b129, T129, h129, L129, e129, Cc129, X129, B129, J129, g129, hQ129, st129⟩ := own_callS Cc127 B127 J127 X127 (hw _ (List.mem_of_getElem? (i := 30) rfl)) (hw _ (List.mem_of_getElem? (i := 31) rfl)) (hw _ (List.mem_of_getElem? (i := 32) rfl)) (hw _ (List.mem_of_getElem? (i := 33) rfl)) (by decide) (rmON l Z a0 hw [] o105 _ h105 n0 O105 h0.size (own_ole O0) K105.1) e127 (g := (mkF m 102 #[.val (.int p1), .val (.int p2), .val (.int p3), .val (.int p4), .val (.ref o101), .val (.ref o105), .val .null, .val .null, .val .null, .unset] [(.ref o105), .null, .null])) rfl (by rw [hml]; rfl) (argsL := [.null, .null, (.ref o105)]) (rest := []) (lenOf pd11 rfl) rfl (W := 0) (by show 2 * 0 + _ ≤ _; exact Nat.le_of_eq rfl) (hb hby at_102) (by decide) (by decide) (by decide) (by decide)
        obtain ⟨rfl, Nq129, hh129⟩ := hQ129
        have N129 := Fr.app N127 Nq129
        obtain ⟨hx, hZ, hown, hby, hml, hnm, hret, hlk⟩ := id Cc129
        rw [hh129] at e129 B129 J129
        refine Go.of st129 ?_
        show Go p e s below _ _ _ _ T129 (mkF m 105 #[.val (.int p1), .val (.int p2), .val (.int p3), .val (.int p4), .val (.ref o101), .val (.ref o105), .val .null, .val .null, .val .null, .unset] [.null])
        refine Go.of (fun _ hr => X129.checkcastNull hx (g := (mkF m 105 #[.val (.int p1), .val (.int p2), .val (.int p3), .val (.int p4), .val (.ref o101), .val (.ref o105), .val .null, .val .null, .val .null, .unset] [.null])) rfl rfl (hb hby at_105) _ hr) ?_
        show Go p e s below _ _ _ _ T129 (mkF m 108 #[.val (.int p1), .val (.int p2), .val (.int p3), .val (.int p4), .val (.ref o101), .val (.ref o105), .val .null, .val .null, .val .null, .unset] [.null])
        refine Go.of (fun _ hr => XS.astore X129.here hx rfl (hb hby at_108) rfl rfl (l' := #[.val (.int p1), .val (.int p2), .val (.int p3), .val (.int p4), .val (.ref o101), .val (.ref o105), .val .null, .val .null, .val .null, .val .null]) rfl hr) ?_
        show Go p e s below _ _ _ _ T129 (mkF m 110 #[.val (.int p1), .val (.int p2), .val (.int p3), .val (.int p4), .val (.ref o101), .val (.ref o105), .val .null, .val .null, .val .null, .val .null] [])
        refine Go.of (fun _ hr => XS.aload X129.here hx rfl (hb hby at_110) rfl rfl hr) ?_
        show Go p e s below _ _ _ _ T129 (mkF m 112 #[.val (.int p1), .val (.int p2), .val (.int p3), .val (.int p4), .val (.ref o101), .val (.ref o105), .val .null, .val .null, .val .null, .val .null] [.null])
        refine Go.of (fun _ hr => XS.aload X129.here hx rfl (hb hby at_112) rfl rfl hr) ?_
        show Go p e s below _ _ _ _ T129 (mkF m 114 #[.val (.int p1), .val (.int p2), .val (.int p3), .val (.int p4), .val (.ref o101), .val (.ref o105), .val .null, .val .null, .val .null, .val .null] [.null, .null])
        refine Go.of (fun _ hr => Jvm.RoadKit.acmp (g := (mkF m 114 #[.val (.int p1), .val (.int p2), .val (.int p3), .val (.int p4), .val (.ref o101), .val (.ref o105), .val .null, .val .null, .val .null, .val .null] [.null, .null])) X129 hx rfl rfl rfl (pc0 := 114) (pc' := 117) (same := true) rfl (hb hby at_114) rfl (decide_eq_true rfl) (by decide) (by decide) hr) ?_
        show Go p e s below _ _ _ _ T129 (mkF m 117 #[.val (.int p1), .val (.int p2), .val (.int p3), .val (.int p4), .val (.ref o101), .val (.ref o105), .val .null, .val .null, .val .null, .val .null] [])
        refine Go.of (fun _ hr => XS.aload X129.here hx rfl (hb hby at_117) rfl rfl hr) ?_
        show Go p e s below _ _ _ _ T129 (mkF m 119 #[.val (.int p1), .val (.int p2), .val (.int p3), .val (.int p4), .val (.ref o101), .val (.ref o105), .val .null, .val .null, .val .null, .val .null] [.null])
        refine Go.of (fun _ hr => XS.aload X129.here hx rfl (hb hby at_119) rfl rfl hr) ?_
        show Go p e s below _ _ _ _ T129 (mkF m 121 #[.val (.int p1), .val (.int p2), .val (.int p3), .val (.int p4), .val (.ref o101), .val (.ref o105), .val .null, .val .null, .val .null, .val .null] [.null, .null])
        refine Go.of (fun _ hr => Jvm.RoadKit.acmp (g := (mkF m 121 #[.val (.int p1), .val (.int p2), .val (.int p3), .val (.int p4), .val (.ref o101), .val (.ref o105), .val .null, .val .null, .val .null, .val .null] [.null, .null])) X129 hx rfl rfl rfl (pc0 := 121) (pc' := 124) (same := true) rfl (hb hby at_121) rfl (decide_eq_true rfl) (by decide) (by decide) hr) ?_
        show Go p e s below _ _ _ _ T129 (mkF m 124 #[.val (.int p1), .val (.int p2), .val (.int p3), .val (.int p4), .val (.ref o101), .val (.ref o105), .val .null, .val .null, .val .null, .val .null] [])
        refine Go.of (fun _ hr => XS.iconst X129.here hx rfl (hb hby at_124) hr) ?_
        show Go p e s below _ _ _ _ T129 (mkF m 125 #[.val (.int p1), .val (.int p2), .val (.int p3), .val (.int p4), .val (.ref o101), .val (.ref o105), .val .null, .val .null, .val .null, .val .null] [(.int (1 : Int32))])
        refine Go.of (fun _ hr => XS.goto X129.here hx rfl (pc0 := 125) (pc' := 129) rfl (hb hby at_125) (by decide) (by decide) hr) ?_
        show Go p e s below _ _ _ _ T129 (mkF m 129 #[.val (.int p1), .val (.int p2), .val (.int p3), .val (.int p4), .val (.ref o101), .val (.ref o105), .val .null, .val .null, .val .null, .val .null] [(.int (1 : Int32))])
        exact Go.retN X129 hx hlk B129 (J129.sub fun x hx => (List.mem_cons_of_mem _ hx)) e129 (t := .boolean) (z' := (1 : Int32)) hret (by simp) (hb hby at_129) rfl (by decide) (by decide) (fun vm_ hw_ => ⟨rfl, (fun y hy => Nat.le_trans hnb (N129 y hy))⟩)
  · refine Go.of (fun _ hr => XS.ifNo X103.here hx rfl (hb hby at_28) rfl ((if0 _ _).trans (feq hb28_104).1) hr) ?_
    show Go p e s below _ _ _ _ T103 (mkF m 31 #[.val (.int p1), .val (.int p2), .val (.int p3), .val (.int p4), .val (.ref o101), .unset, .unset, .unset, .unset, .unset] [])
    obtain ⟨T131, h131, X131, e131, E131, A131, D131, -, st131⟩ := newO X103 hx hZ hown (hw _ (List.mem_of_getElem? (i := 34) rfl)) (hw _ (List.mem_of_getElem? (i := 3) rfl)) (hw _ (List.mem_of_getElem? (i := 2) rfl)) e103 (g := (mkF m 31 #[.val (.int p1), .val (.int p2), .val (.int p3), .val (.int p4), .val (.ref o101), .unset, .unset, .unset, .unset, .unset] [])) rfl (hb hby at_31) (by decide) (by decide)
    obtain ⟨o131, g131⟩ : ∃ z, z = h103.size := ⟨_, rfl⟩
    rw [← g131] at A131 D131 st131
    have ne_o101_o131 : o101 ≠ o131 := Nat.ne_of_lt (Nat.lt_of_lt_of_le V103.lt (Nat.le_of_eq g131.symm))
    have lt131 : o131 < h131.size := A131.lt
    have J131 := J103.add E131 g131 lt131
    have B131 := B103.mono E131.1
    have O131 := O103.ext E131
    have sz131 : h0.size ≤ o131 := Nat.le_trans K103.1 (Nat.le_of_eq g131.symm)
    have fr131 : h0.size ≤ o131 := sz131
    have K131 := K103.ext E131
    have F131_value : Fld Z h131 o131 "java/lang/String" "value" "[B" .null := D131 (Or.inr (hw _ (List.mem_of_getElem? (i := 5) rfl))) (ty := (.array .byte)) (by decide)
    have F131_coder : Fld Z h131 o131 "java/lang/String" "coder" "B" (.int (0 : Int32)) := D131 (Or.inr (hw _ (List.mem_of_getElem? (i := 6) rfl))) (ty := .byte) (by decide)
    refine Go.of (fun _ hr => st131 _ hr) ?_
    show Go p e s below _ _ _ _ T131 (mkF m 34 #[.val (.int p1), .val (.int p2), .val (.int p3), .val (.int p4), .val (.ref o101), .unset, .unset, .unset, .unset, .unset] [(.ref o131)])
    refine Go.of (fun _ hr => XS.dup X131.here hx rfl (hb hby at_34) rfl rfl hr) ?_
    show Go p e s below _ _ _ _ T131 (mkF m 35 #[.val (.int p1), .val (.int p2), .val (.int p3), .val (.int p4), .val (.ref o101), .unset, .unset, .unset, .unset, .unset] [(.ref o131), (.ref o131)])
    refine Go.of (fun _ hr => XS.aload X131.here hx rfl (hb hby at_35) rfl rfl hr) ?_
    show Go p e s below _ _ _ _ T131 (mkF m 37 #[.val (.int p1), .val (.int p2), .val (.int p3), .val (.int p4), .val (.ref o101), .unset, .unset, .unset, .unset, .unset] [(.ref o101), (.ref o131), (.ref o131)])
    have f133 := (V103.ext E131)
    obtain ⟨_, b132, T132, h132, L132, e132, Cc132, X132, B132, J132, g132, hQ132, st132⟩ := own_callI Cc B131 J131 X131 rfl (hw _ (List.mem_of_getElem? (i := 58) rfl)) (hw _ (List.mem_of_getElem? (i := 59) rfl)) (hw _ (List.mem_of_getElem? (i := 2) rfl)) (hw _ (List.mem_of_getElem? (i := 60) rfl)) (by decide) (rm10 l Z a0 hw [] o131 o101 _ [x0, x1] _ _ zc _ h131 n0 O131 h0.size (own_ole O0) K131.1 fr131 trivial (by simp) (by intro x hx; simp only [List.mem_cons, List.not_mem_nil, or_false] at hx; rcases hx with rfl | rfl <;> assumption) (by simp) f133 ne_o101_o131 A131 F131_value F131_coder S_C hzc) e131 (g := (mkF m 37 #[.val (.int p1), .val (.int p2), .val (.int p3), .val (.int p4), .val (.ref o101), .unset, .unset, .unset, .unset, .unset] [(.ref o101), (.ref o131), (.ref o131)])) rfl (by rw [hml]; rfl) (argsL := [(.ref o101)]) (rest := [(.ref o131)]) (lenOf pd12 rfl) rfl (W := 1) (by show 2 * 0 + _ ≤ _; exact Nat.le_of_eq rfl) (hb hby at_37) (by decide) (by decide) (by decide) (by decide)
    obtain ⟨rfl, Nq132, Kq132, t132, kt132, R_t132, Fv132, Fc132, Vt132⟩ := hQ132
    have N132 := Fr.app N103 Nq132
    obtain ⟨hx, hZ, hown, hby, hml, hnm, hret, hlk⟩ := id Cc132
    have sz_t132 : h0.size ≤ t132 := Nat.le_trans K131.1 R_t132
    have fr_t132 : h0.size ≤ t132 := sz_t132
    have ne_o101_t132 : o101 ≠ t132 := Nat.ne_of_lt (Nat.lt_of_lt_of_le f133.lt R_t132)
    have ne_o131_t132 : o131 ≠ t132 := Nat.ne_of_lt (Nat.lt_of_lt_of_le A131.lt R_t132)
    have K132 := K131.trans Kq132 (allS (Or.inr sz131) all0)
    have O132 := O131.keep Kq132 (allS (Nat.le_trans (own_ole O0) fr131) all0)
    refine Go.of st132 ?_
    show Go p e s below _ _ _ _ T132 (mkF m 40 #[.val (.int p1), .val (.int p2), .val (.int p3), .val (.int p4), .val (.ref o101), .unset, .unset, .unset, .unset, .unset] [(.ref o131)])
    refine Go.of (fun _ hr => XS.goto X132.here hx rfl (pc0 := 40) (pc' := 45) rfl (hb hby at_40) (by decide) (by decide) hr) ?_
    show Go p e s below _ _ _ _ T132 (mkF m 45 #[.val (.int p1), .val (.int p2), .val (.int p3), .val (.int p4), .val (.ref o101), .unset, .unset, .unset, .unset, .unset] [(.ref o131)])
    refine Go.of (fun _ hr => XS.astore X132.here hx rfl (hb hby at_45) rfl rfl (l' := #[.val (.int p1), .val (.int p2), .val (.int p3), .val (.int p4), .val (.ref o101), .val (.ref o131), .unset, .unset, .unset, .unset]) rfl hr) ?_
    show Go p e s below _ _ _ _ T132 (mkF m 47 #[.val (.int p1), .val (.int p2), .val (.int p3), .val (.int p4), .val (.ref o101), .val (.ref o131), .unset, .unset, .unset, .unset] [])
    refine Go.of (fun _ hr => XS.iloadN X132.here hx rfl (hb hby at_47) rfl  hr) ?_
    show Go p e s below _ _ _ _ T132 (mkF m 48 #[.val (.int p1), .val (.int p2), .val (.int p3), .val (.int p4), .val (.ref o101), .val (.ref o131), .unset, .unset, .unset, .unset] [(.int p4)])
    refine Go.of (fun _ hr => XS.iconst X132.here hx rfl (hb hby at_48) hr) ?_
    show Go p e s below _ _ _ _ T132 (mkF m 49 #[.val (.int p1), .val (.int p2), .val (.int p3), .val (.int p4), .val (.ref o101), .val (.ref o131), .unset, .unset, .unset, .unset] [(.int (1 : Int32)), (.int p4)])
    refine Go.of (fun _ hr => XS.iand X132.here hx rfl (hb hby at_49) rfl hr) ?_
    show Go p e s below _ _ _ _ T132 (mkF m 50 #[.val (.int p1), .val (.int p2), .val (.int p3), .val (.int p4), .val (.ref o101), .val (.ref o131), .unset, .unset, .unset, .unset] [(.int (p4 &&& (1 : Int32)))])
    by_cases hb50_134 : (p4 &&& (1 : Int32)) = (0 : Int32)
    · refine Go.of (fun _ hr => XS.ifYes X132.here hx rfl (pc0 := 50) (pc' := 57) rfl (hb hby at_50) rfl ((if0 _ _).trans (teq hb50_134).1) (by decide) (by decide) hr) ?_
      show Go p e s below _ _ _ _ T132 (mkF m 57 #[.val (.int p1), .val (.int p2), .val (.int p3), .val (.int p4), .val (.ref o101), .val (.ref o131), .unset, .unset, .unset, .unset] [])
      refine Go.of (fun _ hr => XS.iloadN X132.here hx rfl (hb hby at_57) rfl  hr) ?_
      show Go p e s below _ _ _ _ T132 (mkF m 58 #[.val (.int p1), .val (.int p2), .val (.int p3), .val (.int p4), .val (.ref o101), .val (.ref o131), .unset, .unset, .unset, .unset] [(.int p1)])
      obtain ⟨_, b135, T135, h135, L135, e135, Cc135, X135, B135, J135, g135, hQ135, st135⟩ := own_callS Cc132 B132 J132 X132 (hw _ (List.mem_of_getElem? (i := 35) rfl)) (hw _ (List.mem_of_getElem? (i := 36) rfl)) (hw _ (List.mem_of_getElem? (i := 37) rfl)) (hw _ (List.mem_of_getElem? (i := 38) rfl)) (by decide) (rm7 l Z a0 hw [] p1 wc cc _ h132 n0 O132 h0.size (own_ole O0) K132.1 S_high S_cache BX) e132 (g := (mkF m 58 #[.val (.int p1), .val (.int p2), .val (.int p3), .val (.int p4), .val (.ref o101), .val (.ref o131), .unset, .unset, .unset, .unset] [(.int p1)])) rfl (by rw [hml]; rfl) (argsL := [(.int p1)]) (rest := []) (lenOf pd9 rfl) rfl (W := 0) (by show 2 * 0 + _ ≤ _; exact Nat.le_of_eq rfl) (hb hby at_58) (by decide) (by decide) (by decide) (by decide)
      obtain ⟨r135, rfl, Nq135, Eq135, Er135⟩ := hQ135
      have N135 := Fr.app N132 Nq135
      obtain ⟨hx, hZ, hown, hby, hml, hnm, hret, hlk⟩ := id Cc135
      have K135 := K132.ext Eq135
      have O135 := O132.ext Eq135
      refine Go.of st135 ?_
      show Go p e s below _ _ _ _ T135 (mkF m 61 #[.val (.int p1), .val (.int p2), .val (.int p3), .val (.int p4), .val (.ref o101), .val (.ref o131), .unset, .unset, .unset, .unset] [(.ref r135)])
      refine Go.of (fun _ hr => XS.astore X135.here hx rfl (hb hby at_61) rfl rfl (l' := #[.val (.int p1), .val (.int p2), .val (.int p3), .val (.int p4), .val (.ref o101), .val (.ref o131), .val (.ref r135), .unset, .unset, .unset]) rfl hr) ?_
      show Go p e s below _ _ _ _ T135 (mkF m 63 #[.val (.int p1), .val (.int p2), .val (.int p3), .val (.int p4), .val (.ref o101), .val (.ref o131), .val (.ref r135), .unset, .unset, .unset] [])
      refine Go.of (fun _ hr => XS.iloadN X135.here hx rfl (hb hby at_63) rfl  hr) ?_
      show Go p e s below _ _ _ _ T135 (mkF m 64 #[.val (.int p1), .val (.int p2), .val (.int p3), .val (.int p4), .val (.ref o101), .val (.ref o131), .val (.ref r135), .unset, .unset, .unset] [(.int p4)])
      refine Go.of (fun _ hr => XS.iconst X135.here hx rfl (hb hby at_64) hr) ?_
      show Go p e s below _ _ _ _ T135 (mkF m 65 #[.val (.int p1), .val (.int p2), .val (.int p3), .val (.int p4), .val (.ref o101), .val (.ref o131), .val (.ref r135), .unset, .unset, .unset] [(.int (2 : Int32)), (.int p4)])
      refine Go.of (fun _ hr => XS.iand X135.here hx rfl (hb hby at_65) rfl hr) ?_
      show Go p e s below _ _ _ _ T135 (mkF m 66 #[.val (.int p1), .val (.int p2), .val (.int p3), .val (.int p4), .val (.ref o101), .val (.ref o131), .val (.ref r135), .unset, .unset, .unset] [(.int (p4 &&& (2 : Int32)))])
      by_cases hb66_136 : (p4 &&& (2 : Int32)) = (0 : Int32)
      · refine Go.of (fun _ hr => XS.ifYes X135.here hx rfl (pc0 := 66) (pc' := 73) rfl (hb hby at_66) rfl ((if0 _ _).trans (teq hb66_136).1) (by decide) (by decide) hr) ?_
        show Go p e s below _ _ _ _ T135 (mkF m 73 #[.val (.int p1), .val (.int p2), .val (.int p3), .val (.int p4), .val (.ref o101), .val (.ref o131), .val (.ref r135), .unset, .unset, .unset] [])
        refine Go.of (fun _ hr => XS.iloadN X135.here hx rfl (hb hby at_73) rfl  hr) ?_
        show Go p e s below _ _ _ _ T135 (mkF m 74 #[.val (.int p1), .val (.int p2), .val (.int p3), .val (.int p4), .val (.ref o101), .val (.ref o131), .val (.ref r135), .unset, .unset, .unset] [(.int p3)])
        refine Go.of (fun _ hr => XS.sipush X135.here hx rfl (hb hby at_74) hr) ?_
        show Go p e s below _ _ _ _ T135 (mkF m 77 #[.val (.int p1), .val (.int p2), .val (.int p3), .val (.int p4), .val (.ref o101), .val (.ref o131), .val (.ref r135), .unset, .unset, .unset] [(.int (255 : Int32)), (.int p3)])
        refine Go.of (fun _ hr => XS.iand X135.here hx rfl (hb hby at_77) rfl hr) ?_
        show Go p e s below _ _ _ _ T135 (mkF m 78 #[.val (.int p1), .val (.int p2), .val (.int p3), .val (.int p4), .val (.ref o101), .val (.ref o131), .val (.ref r135), .unset, .unset, .unset] [(.int (p3 &&& (255 : Int32)))])
        refine Go.of (fun _ hr => XS.i2c X135.here hx rfl (hb hby at_78) rfl hr) ?_
        show Go p e s below _ _ _ _ T135 (mkF m 79 #[.val (.int p1), .val (.int p2), .val (.int p3), .val (.int p4), .val (.ref o101), .val (.ref o131), .val (.ref r135), .unset, .unset, .unset] [(.int ((p3 &&& (255 : Int32)).toUInt32.toUInt16.toUInt32.toInt32))])
        obtain ⟨_, b137, T137, h137, L137, e137, Cc137, X137, B137, J137, g137, hQ137, st137⟩ := own_callS Cc135 B135 J135 X135 (hw _ (List.mem_of_getElem? (i := 9) rfl)) (hw _ (List.mem_of_getElem? (i := 10) rfl)) (hw _ (List.mem_of_getElem? (i := 2) rfl)) (hw _ (List.mem_of_getElem? (i := 11) rfl)) (by decide) (rm1 l Z a0 hw [] ((p3 &&& (255 : Int32)).toUInt32.toUInt16.toUInt32.toInt32) zc _ h135 n0 O135 h0.size (own_ole O0) K135.1 (chr8 p3).2 S_C hzc) e135 (g := (mkF m 79 #[.val (.int p1), .val (.int p2), .val (.int p3), .val (.int p4), .val (.ref o101), .val (.ref o131), .val (.ref r135), .unset, .unset, .unset] [(.int ((p3 &&& (255 : Int32)).toUInt32.toUInt16.toUInt32.toInt32))])) rfl (by rw [hml]; rfl) (argsL := [(.int ((p3 &&& (255 : Int32)).toUInt32.toUInt16.toUInt32.toInt32))]) (rest := []) (lenOf pd10 rfl) rfl (W := 0) (by show 2 * 0 + _ ≤ _; exact Nat.le_of_eq rfl) (hb hby at_79) (by decide) (by decide) (by decide) (by decide)
        have f138 := ((f133.keep Kq132 (ninS ne_o101_o131 nin0)).ext Eq135)
        have f139 := ((A131.keep Kq132).ext Eq135)
        have f140 := (Vt132.ext Eq135)
        obtain ⟨r137, t137, kt137, rfl, Nq137, Eq137, R_r137, R_t137, Er137, Fv137, Fc137, Vt137⟩ := hQ137
        have N137 := Fr.app N135 Nq137
        obtain ⟨hx, hZ, hown, hby, hml, hnm, hret, hlk⟩ := id Cc137
        have sz_r137 : h0.size ≤ r137 := Nat.le_trans K135.1 R_r137
        have fr_r137 : h0.size ≤ r137 := sz_r137
        have ne_o101_r137 : o101 ≠ r137 := Nat.ne_of_lt (Nat.lt_of_lt_of_le f138.lt R_r137)
        have ne_o131_r137 : o131 ≠ r137 := Nat.ne_of_lt (Nat.lt_of_lt_of_le f139.lt R_r137)
        have ne_t132_r137 : t132 ≠ r137 := Nat.ne_of_lt (Nat.lt_of_lt_of_le f140.lt R_r137)
        have ne_r135_r137 : r135 ≠ r137 := Nat.ne_of_lt (Nat.lt_of_lt_of_le Er135.lt R_r137)
        have sz_t137 : h0.size ≤ t137 := Nat.le_trans K135.1 R_t137
        have fr_t137 : h0.size ≤ t137 := sz_t137
        have ne_o101_t137 : o101 ≠ t137 := Nat.ne_of_lt (Nat.lt_of_lt_of_le f138.lt R_t137)
        have ne_o131_t137 : o131 ≠ t137 := Nat.ne_of_lt (Nat.lt_of_lt_of_le f139.lt R_t137)
        have ne_t132_t137 : t132 ≠ t137 := Nat.ne_of_lt (Nat.lt_of_lt_of_le f140.lt R_t137)
        have ne_r135_t137 : r135 ≠ t137 := Nat.ne_of_lt (Nat.lt_of_lt_of_le Er135.lt R_t137)
        have K137 := K135.ext Eq137
        have O137 := O135.ext Eq137
        refine Go.of st137 ?_
        show Go p e s below _ _ _ _ T137 (mkF m 82 #[.val (.int p1), .val (.int p2), .val (.int p3), .val (.int p4), .val (.ref o101), .val (.ref o131), .val (.ref r135), .unset, .unset, .unset] [(.ref r137)])
        refine Go.of (fun _ hr => XS.astore X137.here hx rfl (hb hby at_82) rfl rfl (l' := #[.val (.int p1), .val (.int p2), .val (.int p3), .val (.int p4), .val (.ref o101), .val (.ref o131), .val (.ref r135), .val (.ref r137), .unset, .unset]) rfl hr) ?_
        show Go p e s below _ _ _ _ T137 (mkF m 84 #[.val (.int p1), .val (.int p2), .val (.int p3), .val (.int p4), .val (.ref o101), .val (.ref o131), .val (.ref r135), .val (.ref r137), .unset, .unset] [])
        refine Go.of (fun _ hr => XS.aconstNull X137.here hx rfl (hb hby at_84) hr) ?_
        show Go p e s below _ _ _ _ T137 (mkF m 85 #[.val (.int p1), .val (.int p2), .val (.int p3), .val (.int p4), .val (.ref o101), .val (.ref o131), .val (.ref r135), .val (.ref r137), .unset, .unset] [.null])
        refine Go.of (fun _ hr => XS.aload X137.here hx rfl (hb hby at_85) rfl rfl hr) ?_
        show Go p e s below _ _ _ _ T137 (mkF m 87 #[.val (.int p1), .val (.int p2), .val (.int p3), .val (.int p4), .val (.ref o101), .val (.ref o131), .val (.ref r135), .val (.ref r137), .unset, .unset] [(.ref r135), .null])
        refine Go.of (fun _ hr => XS.aload X137.here hx rfl (hb hby at_87) rfl rfl hr) ?_
        show Go p e s below _ _ _ _ T137 (mkF m 89 #[.val (.int p1), .val (.int p2), .val (.int p3), .val (.int p4), .val (.ref o101), .val (.ref o131), .val (.ref r135), .val (.ref r137), .unset, .unset] [(.ref o131), (.ref r135), .null])
        obtain ⟨_, b141, T141, h141, L141, e141, Cc141, X141, B141, J141, g141, hQ141, st141⟩ := own_callS Cc137 B137 J137 X137 (hw _ (List.mem_of_getElem? (i := 30) rfl)) (hw _ (List.mem_of_getElem? (i := 31) rfl)) (hw _ (List.mem_of_getElem? (i := 32) rfl)) (hw _ (List.mem_of_getElem? (i := 33) rfl)) (by decide) (rmOR l Z a0 hw [] r135 o131 _ h137 n0 O137 h0.size (own_ole O0) K137.1) e137 (g := (mkF m 89 #[.val (.int p1), .val (.int p2), .val (.int p3), .val (.int p4), .val (.ref o101), .val (.ref o131), .val (.ref r135), .val (.ref r137), .unset, .unset] [(.ref o131), (.ref r135), .null])) rfl (by rw [hml]; rfl) (argsL := [.null, (.ref r135), (.ref o131)]) (rest := []) (lenOf pd11 rfl) rfl (W := 0) (by show 2 * 0 + _ ≤ _; exact Nat.le_of_eq rfl) (hb hby at_89) (by decide) (by decide) (by decide) (by decide)
        obtain ⟨rfl, Nq141, hh141⟩ := hQ141
        have N141 := Fr.app N137 Nq141
        obtain ⟨hx, hZ, hown, hby, hml, hnm, hret, hlk⟩ := id Cc141
        rw [hh141] at e141 B141 J141
        refine Go.of st141 ?_
        show Go p e s below _ _ _ _ T141 (mkF m 92 #[.val (.int p1), .val (.int p2), .val (.int p3), .val (.int p4), .val (.ref o101), .val (.ref o131), .val (.ref r135), .val (.ref r137), .unset, .unset] [(.ref r135)])
        have f143 := (Er135.ext Eq137)
        obtain ⟨T142, X142, e142, st142⟩ := castY X141 hx hZ hown (hw _ (List.mem_of_getElem? (i := 42) rfl)) e141 (Ins.self f143) (g := (mkF m 92 #[.val (.int p1), .val (.int p2), .val (.int p3), .val (.int p4), .val (.ref o101), .val (.ref o131), .val (.ref r135), .val (.ref r137), .unset, .unset] [(.ref r135)])) rfl rfl (hb hby at_92)
        refine Go.of (fun _ hr => st142 _ hr) ?_
        show Go p e s below _ _ _ _ T142 (mkF m 95 #[.val (.int p1), .val (.int p2), .val (.int p3), .val (.int p4), .val (.ref o101), .val (.ref o131), .val (.ref r135), .val (.ref r137), .unset, .unset] [(.ref r135)])
        refine Go.of (fun _ hr => XS.astore X142.here hx rfl (hb hby at_95) rfl rfl (l' := #[.val (.int p1), .val (.int p2), .val (.int p3), .val (.int p4), .val (.ref o101), .val (.ref o131), .val (.ref r135), .val (.ref r137), .val (.ref r135), .unset]) rfl hr) ?_
        show Go p e s below _ _ _ _ T142 (mkF m 97 #[.val (.int p1), .val (.int p2), .val (.int p3), .val (.int p4), .val (.ref o101), .val (.ref o131), .val (.ref r135), .val (.ref r137), .val (.ref r135), .unset] [])
        refine Go.of (fun _ hr => XS.aconstNull X142.here hx rfl (hb hby at_97) hr) ?_
        show Go p e s below _ _ _ _ T142 (mkF m 98 #[.val (.int p1), .val (.int p2), .val (.int p3), .val (.int p4), .val (.ref o101), .val (.ref o131), .val (.ref r135), .val (.ref r137), .val (.ref r135), .unset] [.null])
        refine Go.of (fun _ hr => XS.aload X142.here hx rfl (hb hby at_98) rfl rfl hr) ?_
        show Go p e s below _ _ _ _ T142 (mkF m 100 #[.val (.int p1), .val (.int p2), .val (.int p3), .val (.int p4), .val (.ref o101), .val (.ref o131), .val (.ref r135), .val (.ref r137), .val (.ref r135), .unset] [(.ref r137), .null])
        refine Go.of (fun _ hr => XS.aload X142.here hx rfl (hb hby at_100) rfl rfl hr) ?_
        show Go p e s below _ _ _ _ T142 (mkF m 102 #[.val (.int p1), .val (.int p2), .val (.int p3), .val (.int p4), .val (.ref o101), .val (.ref o131), .val (.ref r135), .val (.ref r137), .val (.ref r135), .unset] [(.ref o131), (.ref r137), .null])
        obtain ⟨_, b144, T144, h144, L144, e144, Cc144, X144, B144, J144, g144, hQ144, st144⟩ := own_callS Cc141 B141 J141 X142 (hw _ (List.mem_of_getElem? (i := 30) rfl)) (hw _ (List.mem_of_getElem? (i := 31) rfl)) (hw _ (List.mem_of_getElem? (i := 32) rfl)) (hw _ (List.mem_of_getElem? (i := 33) rfl)) (by decide) (rmOR l Z a0 hw [] r137 o131 _ h137 n0 O137 h0.size (own_ole O0) K137.1) e142 (g := (mkF m 102 #[.val (.int p1), .val (.int p2), .val (.int p3), .val (.int p4), .val (.ref o101), .val (.ref o131), .val (.ref r135), .val (.ref r137), .val (.ref r135), .unset] [(.ref o131), (.ref r137), .null])) rfl (by rw [hml]; rfl) (argsL := [.null, (.ref r137), (.ref o131)]) (rest := []) (lenOf pd11 rfl) rfl (W := 0) (by show 2 * 0 + _ ≤ _; exact Nat.le_of_eq rfl) (hb hby at_102) (by decide) (by decide) (by decide) (by decide)
        obtain ⟨rfl, Nq144, hh144⟩ := hQ144
        have N144 := Fr.app N141 Nq144
        obtain ⟨hx, hZ, hown, hby, hml, hnm, hret, hlk⟩ := id Cc144
        rw [hh144] at e144 B144 J144
        refine Go.of st144 ?_
        show Go p e s below _ _ _ _ T144 (mkF m 105 #[.val (.int p1), .val (.int p2), .val (.int p3), .val (.int p4), .val (.ref o101), .val (.ref o131), .val (.ref r135), .val (.ref r137), .val (.ref r135), .unset] [(.ref r137)])
        obtain ⟨T145, X145, e145, st145⟩ := castY X144 hx hZ hown (hw _ (List.mem_of_getElem? (i := 34) rfl)) e144 (Ins.self Er137) (g := (mkF m 105 #[.val (.int p1), .val (.int p2), .val (.int p3), .val (.int p4), .val (.ref o101), .val (.ref o131), .val (.ref r135), .val (.ref r137), .val (.ref r135), .unset] [(.ref r137)])) rfl rfl (hb hby at_105)
        refine Go.of (fun _ hr => st145 _ hr) ?_
        show Go p e s below _ _ _ _ T145 (mkF m 108 #[.val (.int p1), .val (.int p2), .val (.int p3), .val (.int p4), .val (.ref o101), .val (.ref o131), .val (.ref r135), .val (.ref r137), .val (.ref r135), .unset] [(.ref r137)])
        refine Go.of (fun _ hr => XS.astore X145.here hx rfl (hb hby at_108) rfl rfl (l' := #[.val (.int p1), .val (.int p2), .val (.int p3), .val (.int p4), .val (.ref o101), .val (.ref o131), .val (.ref r135), .val (.ref r137), .val (.ref r135), .val (.ref r137)]) rfl hr) ?_
        show Go p e s below _ _ _ _ T145 (mkF m 110 #[.val (.int p1), .val (.int p2), .val (.int p3), .val (.int p4), .val (.ref o101), .val (.ref o131), .val (.ref r135), .val (.ref r137), .val (.ref r135), .val (.ref r137)] [])
        refine Go.of (fun _ hr => XS.aload X145.here hx rfl (hb hby at_110) rfl rfl hr) ?_
        show Go p e s below _ _ _ _ T145 (mkF m 112 #[.val (.int p1), .val (.int p2), .val (.int p3), .val (.int p4), .val (.ref o101), .val (.ref o131), .val (.ref r135), .val (.ref r137), .val (.ref r135), .val (.ref r137)] [(.ref r135)])
        refine Go.of (fun _ hr => XS.aload X145.here hx rfl (hb hby at_112) rfl rfl hr) ?_
        show Go p e s below _ _ _ _ T145 (mkF m 114 #[.val (.int p1), .val (.int p2), .val (.int p3), .val (.int p4), .val (.ref o101), .val (.ref o131), .val (.ref r135), .val (.ref r137), .val (.ref r135), .val (.ref r137)] [(.ref r135), (.ref r135)])
        refine Go.of (fun _ hr => Jvm.RoadKit.acmp (g := (mkF m 114 #[.val (.int p1), .val (.int p2), .val (.int p3), .val (.int p4), .val (.ref o101), .val (.ref o131), .val (.ref r135), .val (.ref r137), .val (.ref r135), .val (.ref r137)] [(.ref r135), (.ref r135)])) X145 hx rfl rfl rfl (pc0 := 114) (pc' := 117) (same := true) rfl (hb hby at_114) rfl (decide_eq_true rfl) (by decide) (by decide) hr) ?_
        show Go p e s below _ _ _ _ T145 (mkF m 117 #[.val (.int p1), .val (.int p2), .val (.int p3), .val (.int p4), .val (.ref o101), .val (.ref o131), .val (.ref r135), .val (.ref r137), .val (.ref r135), .val (.ref r137)] [])
        refine Go.of (fun _ hr => XS.aload X145.here hx rfl (hb hby at_117) rfl rfl hr) ?_
        show Go p e s below _ _ _ _ T145 (mkF m 119 #[.val (.int p1), .val (.int p2), .val (.int p3), .val (.int p4), .val (.ref o101), .val (.ref o131), .val (.ref r135), .val (.ref r137), .val (.ref r135), .val (.ref r137)] [(.ref r137)])
        refine Go.of (fun _ hr => XS.aload X145.here hx rfl (hb hby at_119) rfl rfl hr) ?_
        show Go p e s below _ _ _ _ T145 (mkF m 121 #[.val (.int p1), .val (.int p2), .val (.int p3), .val (.int p4), .val (.ref o101), .val (.ref o131), .val (.ref r135), .val (.ref r137), .val (.ref r135), .val (.ref r137)] [(.ref r137), (.ref r137)])
        refine Go.of (fun _ hr => Jvm.RoadKit.acmp (g := (mkF m 121 #[.val (.int p1), .val (.int p2), .val (.int p3), .val (.int p4), .val (.ref o101), .val (.ref o131), .val (.ref r135), .val (.ref r137), .val (.ref r135), .val (.ref r137)] [(.ref r137), (.ref r137)])) X145 hx rfl rfl rfl (pc0 := 121) (pc' := 124) (same := true) rfl (hb hby at_121) rfl (decide_eq_true rfl) (by decide) (by decide) hr) ?_
        show Go p e s below _ _ _ _ T145 (mkF m 124 #[.val (.int p1), .val (.int p2), .val (.int p3), .val (.int p4), .val (.ref o101), .val (.ref o131), .val (.ref r135), .val (.ref r137), .val (.ref r135), .val (.ref r137)] [])
        refine Go.of (fun _ hr => XS.iconst X145.here hx rfl (hb hby at_124) hr) ?_
        show Go p e s below _ _ _ _ T145 (mkF m 125 #[.val (.int p1), .val (.int p2), .val (.int p3), .val (.int p4), .val (.ref o101), .val (.ref o131), .val (.ref r135), .val (.ref r137), .val (.ref r135), .val (.ref r137)] [(.int (1 : Int32))])
        refine Go.of (fun _ hr => XS.goto X145.here hx rfl (pc0 := 125) (pc' := 129) rfl (hb hby at_125) (by decide) (by decide) hr) ?_
        show Go p e s below _ _ _ _ T145 (mkF m 129 #[.val (.int p1), .val (.int p2), .val (.int p3), .val (.int p4), .val (.ref o101), .val (.ref o131), .val (.ref r135), .val (.ref r137), .val (.ref r135), .val (.ref r137)] [(.int (1 : Int32))])
        exact Go.retN X145 hx hlk B144 (J144.sub fun x hx => (List.mem_cons_of_mem _ (List.mem_cons_of_mem _ hx))) e145 (t := .boolean) (z' := (1 : Int32)) hret (by simp) (hb hby at_129) rfl (by decide) (by decide) (fun vm_ hw_ => ⟨rfl, (fun y hy => Nat.le_trans hnb (N144 y hy))⟩)
      · refine Go.of (fun _ hr => XS.ifNo X135.here hx rfl (hb hby at_66) rfl ((if0 _ _).trans (feq hb66_136).1) hr) ?_
        show Go p e s below _ _ _ _ T135 (mkF m 69 #[.val (.int p1), .val (.int p2), .val (.int p3), .val (.int p4), .val (.ref o101), .val (.ref o131), .val (.ref r135), .unset, .unset, .unset] [])
        refine Go.of (fun _ hr => XS.aconstNull X135.here hx rfl (hb hby at_69) hr) ?_
        show Go p e s below _ _ _ _ T135 (mkF m 70 #[.val (.int p1), .val (.int p2), .val (.int p3), .val (.int p4), .val (.ref o101), .val (.ref o131), .val (.ref r135), .unset, .unset, .unset] [.null])
        refine Go.of (fun _ hr => XS.goto X135.here hx rfl (pc0 := 70) (pc' := 82) rfl (hb hby at_70) (by decide) (by decide) hr) ?_
        show Go p e s below _ _ _ _ T135 (mkF m 82 #[.val (.int p1), .val (.int p2), .val (.int p3), .val (.int p4), .val (.ref o101), .val (.ref o131), .val (.ref r135), .unset, .unset, .unset] [.null])
        refine Go.of (fun _ hr => XS.astore X135.here hx rfl (hb hby at_82) rfl rfl (l' := #[.val (.int p1), .val (.int p2), .val (.int p3), .val (.int p4), .val (.ref o101), .val (.ref o131), .val (.ref r135), .val .null, .unset, .unset]) rfl hr) ?_
        show Go p e s below _ _ _ _ T135 (mkF m 84 #[.val (.int p1), .val (.int p2), .val (.int p3), .val (.int p4), .val (.ref o101), .val (.ref o131), .val (.ref r135), .val .null, .unset, .unset] [])
        refine Go.of (fun _ hr => XS.aconstNull X135.here hx rfl (hb hby at_84) hr) ?_
        show Go p e s below _ _ _ _ T135 (mkF m 85 #[.val (.int p1), .val (.int p2), .val (.int p3), .val (.int p4), .val (.ref o101), .val (.ref o131), .val (.ref r135), .val .null, .unset, .unset] [.null])
        refine Go.of (fun _ hr => XS.aload X135.here hx rfl (hb hby at_85) rfl rfl hr) ?_
        show Go p e s below _ _ _ _ T135 (mkF m 87 #[.val (.int p1), .val (.int p2), .val (.int p3), .val (.int p4), .val (.ref o101), .val (.ref o131), .val (.ref r135), .val .null, .unset, .unset] [(.ref r135), .null])
        refine Go.of (fun _ hr => XS.aload X135.here hx rfl (hb hby at_87) rfl rfl hr) ?_
        show Go p e s below _ _ _ _ T135 (mkF m 89 #[.val (.int p1), .val (.int p2), .val (.int p3), .val (.int p4), .val (.ref o101), .val (.ref o131), .val (.ref r135), .val .null, .unset, .unset] [(.ref o131), (.ref r135), .null])
        obtain ⟨_, b146, T146, h146, L146, e146, Cc146, X146, B146, J146, g146, hQ146, st146⟩ := own_callS Cc135 B135 J135 X135 (hw _ (List.mem_of_getElem? (i := 30) rfl)) (hw _ (List.mem_of_getElem? (i := 31) rfl)) (hw _ (List.mem_of_getElem? (i := 32) rfl)) (hw _ (List.mem_of_getElem? (i := 33) rfl)) (by decide) (rmOR l Z a0 hw [] r135 o131 _ h135 n0 O135 h0.size (own_ole O0) K135.1) e135 (g := (mkF m 89 #[.val (.int p1), .val (.int p2), .val (.int p3), .val (.int p4), .val (.ref o101), .val (.ref o131), .val (.ref r135), .val .null, .unset, .unset] [(.ref o131), (.ref r135), .null])) rfl (by rw [hml]; rfl) (argsL := [.null, (.ref r135), (.ref o131)]) (rest := []) (lenOf pd11 rfl) rfl (W := 0) (by show 2 * 0 + _ ≤ _; exact Nat.le_of_eq rfl) (hb hby at_89) (by decide) (by decide) (by decide) (by decide)
        obtain ⟨rfl, Nq146, hh146⟩ := hQ146
        have N146 := Fr.app N135 Nq146
        obtain ⟨hx, hZ, hown, hby, hml, hnm, hret, hlk⟩ := id Cc146
        rw [hh146] at e146 B146 J146
        refine Go.of st146 ?_
        show Go p e s below _ _ _ _ T146 (mkF m 92 #[.val (.int p1), .val (.int p2), .val (.int p3), .val (.int p4), .val (.ref o101), .val (.ref o131), .val (.ref r135), .val .null, .unset, .unset] [(.ref r135)])
        obtain ⟨T147, X147, e147, st147⟩ := castY X146 hx hZ hown (hw _ (List.mem_of_getElem? (i := 42) rfl)) e146 (Ins.self Er135) (g := (mkF m 92 #[.val (.int p1), .val (.int p2), .val (.int p3), .val (.int p4), .val (.ref o101), .val (.ref o131), .val (.ref r135), .val .null, .unset, .unset] [(.ref r135)])) rfl rfl (hb hby at_92)
        refine Go.of (fun _ hr => st147 _ hr) ?_
        show Go p e s below _ _ _ _ T147 (mkF m 95 #[.val (.int p1), .val (.int p2), .val (.int p3), .val (.int p4), .val (.ref o101), .val (.ref o131), .val (.ref r135), .val .null, .unset, .unset] [(.ref r135)])
        refine Go.of (fun _ hr => XS.astore X147.here hx rfl (hb hby at_95) rfl rfl (l' := #[.val (.int p1), .val (.int p2), .val (.int p3), .val (.int p4), .val (.ref o101), .val (.ref o131), .val (.ref r135), .val .null, .val (.ref r135), .unset]) rfl hr) ?_
        show Go p e s below _ _ _ _ T147 (mkF m 97 #[.val (.int p1), .val (.int p2), .val (.int p3), .val (.int p4), .val (.ref o101), .val (.ref o131), .val (.ref r135), .val .null, .val (.ref r135), .unset] [])
        refine Go.of (fun _ hr => XS.aconstNull X147.here hx rfl (hb hby at_97) hr) ?_
        show Go p e s below _ _ _ _ T147 (mkF m 98 #[.val (.int p1), .val (.int p2), .val (.int p3), .val (.int p4), .val (.ref o101), .val (.ref o131), .val (.ref r135), .val .null, .val (.ref r135), .unset] [.null])
        refine Go.of (fun _ hr => XS.aload X147.here hx rfl (hb hby at_98) rfl rfl hr) ?_
        show Go p e s below _ _ _ _ T147 (mkF m 100 #[.val (.int p1), .val (.int p2), .val (.int p3), .val (.int p4), .val (.ref o101), .val (.ref o131), .val (.ref r135), .val .null, .val (.ref r135), .unset] [.null, .null])
        refine Go.of (fun _ hr => XS.aload X147.here hx rfl (hb hby at_100) rfl rfl hr) ?_
        show Go p e s below _ _ _ _ T147 (mkF m 102 #[.val (.int p1), .val (.int p2), .val (.int p3), .val (.int p4), .val (.ref o101), .val (.ref o131), .val (.ref r135), .val .null, .val (.ref r135), .unset] [(.ref o131), .null, .null])
        obtain ⟨_, b148, T148, h148, L148, e148, Cc148, X148, B148, J148, g148, hQ148, st148⟩ := own_callS Cc146 B146 J146 X147 (hw _ (List.mem_of_getElem? (i := 30) rfl)) (hw _ (List.mem_of_getElem? (i := 31) rfl)) (hw _ (List.mem_of_getElem? (i := 32) rfl)) (hw _ (List.mem_of_getElem? (i := 33) rfl)) (by decide) (rmON l Z a0 hw [] o131 _ h135 n0 O135 h0.size (own_ole O0) K135.1) e147 (g := (mkF m 102 #[.val (.int p1), .val (.int p2), .val (.int p3), .val (.int p4), .val (.ref o101), .val (.ref o131), .val (.ref r135), .val .null, .val (.ref r135), .unset] [(.ref o131), .null, .null])) rfl (by rw [hml]; rfl) (argsL := [.null, .null, (.ref o131)]) (rest := []) (lenOf pd11 rfl) rfl (W := 0) (by show 2 * 0 + _ ≤ _; exact Nat.le_of_eq rfl) (hb hby at_102) (by decide) (by decide) (by decide) (by decide)
        obtain ⟨rfl, Nq148, hh148⟩ := hQ148
        have N148 := Fr.app N146 Nq148
        obtain ⟨hx, hZ, hown, hby, hml, hnm, hret, hlk⟩ := id Cc148
        rw [hh148] at e148 B148 J148
        refine Go.of st148 ?_
        show Go p e s below _ _ _ _ T148 (mkF m 105 #[.val (.int p1), .val (.int p2), .val (.int p3), .val (.int p4), .val (.ref o101), .val (.ref o131), .val (.ref r135), .val .null, .val (.ref r135), .unset] [.null])
        refine Go.of (fun _ hr => X148.checkcastNull hx (g := (mkF m 105 #[.val (.int p1), .val (.int p2), .val (.int p3), .val (.int p4), .val (.ref o101), .val (.ref o131), .val (.ref r135), .val .null, .val (.ref r135), .unset] [.null])) rfl rfl (hb hby at_105) _ hr) ?_
        show Go p e s below _ _ _ _ T148 (mkF m 108 #[.val (.int p1), .val (.int p2), .val (.int p3), .val (.int p4), .val (.ref o101), .val (.ref o131), .val (.ref r135), .val .null, .val (.ref r135), .unset] [.null])
        refine Go.of (fun _ hr => XS.astore X148.here hx rfl (hb hby at_108) rfl rfl (l' := #[.val (.int p1), .val (.int p2), .val (.int p3), .val (.int p4), .val (.ref o101), .val (.ref o131), .val (.ref r135), .val .null, .val (.ref r135), .val .null]) rfl hr) ?_
        show Go p e s below _ _ _ _ T148 (mkF m 110 #[.val (.int p1), .val (.int p2), .val (.int p3), .val (.int p4), .val (.ref o101), .val (.ref o131), .val (.ref r135), .val .null, .val (.ref r135), .val .null] [])
        refine Go.of (fun _ hr => XS.aload X148.here hx rfl (hb hby at_110) rfl rfl hr) ?_
        show Go p e s below _ _ _ _ T148 (mkF m 112 #[.val (.int p1), .val (.int p2), .val (.int p3), .val (.int p4), .val (.ref o101), .val (.ref o131), .val (.ref r135), .val .null, .val (.ref r135), .val .null] [(.ref r135)])
        refine Go.of (fun _ hr => XS.aload X148.here hx rfl (hb hby at_112) rfl rfl hr) ?_
        show Go p e s below _ _ _ _ T148 (mkF m 114 #[.val (.int p1), .val (.int p2), .val (.int p3), .val (.int p4), .val (.ref o101), .val (.ref o131), .val (.ref r135), .val .null, .val (.ref r135), .val .null] [(.ref r135), (.ref r135)])
        refine Go.of (fun _ hr => Jvm.RoadKit.acmp (g := (mkF m 114 #[.val (.int p1), .val (.int p2), .val (.int p3), .val (.int p4), .val (.ref o101), .val (.ref o131), .val (.ref r135), .val .null, .val (.ref r135), .val .null] [(.ref r135), (.ref r135)])) X148 hx rfl rfl rfl (pc0 := 114) (pc' := 117) (same := true) rfl (hb hby at_114) rfl (decide_eq_true rfl) (by decide) (by decide) hr) ?_
        show Go p e s below _ _ _ _ T148 (mkF m 117 #[.val (.int p1), .val (.int p2), .val (.int p3), .val (.int p4), .val (.ref o101), .val (.ref o131), .val (.ref r135), .val .null, .val (.ref r135), .val .null] [])
        refine Go.of (fun _ hr => XS.aload X148.here hx rfl (hb hby at_117) rfl rfl hr) ?_
        show Go p e s below _ _ _ _ T148 (mkF m 119 #[.val (.int p1), .val (.int p2), .val (.int p3), .val (.int p4), .val (.ref o101), .val (.ref o131), .val (.ref r135), .val .null, .val (.ref r135), .val .null] [.null])
        refine Go.of (fun _ hr => XS.aload X148.here hx rfl (hb hby at_119) rfl rfl hr) ?_
        show Go p e s below _ _ _ _ T148 (mkF m 121 #[.val (.int p1), .val (.int p2), .val (.int p3), .val (.int p4), .val (.ref o101), .val (.ref o131), .val (.ref r135), .val .null, .val (.ref r135), .val .null] [.null, .null])
        refine Go.of (fun _ hr => Jvm.RoadKit.acmp (g := (mkF m 121 #[.val (.int p1), .val (.int p2), .val (.int p3), .val (.int p4), .val (.ref o101), .val (.ref o131), .val (.ref r135), .val .null, .val (.ref r135), .val .null] [.null, .null])) X148 hx rfl rfl rfl (pc0 := 121) (pc' := 124) (same := true) rfl (hb hby at_121) rfl (decide_eq_true rfl) (by decide) (by decide) hr) ?_
        show Go p e s below _ _ _ _ T148 (mkF m 124 #[.val (.int p1), .val (.int p2), .val (.int p3), .val (.int p4), .val (.ref o101), .val (.ref o131), .val (.ref r135), .val .null, .val (.ref r135), .val .null] [])
        refine Go.of (fun _ hr => XS.iconst X148.here hx rfl (hb hby at_124) hr) ?_
        show Go p e s below _ _ _ _ T148 (mkF m 125 #[.val (.int p1), .val (.int p2), .val (.int p3), .val (.int p4), .val (.ref o101), .val (.ref o131), .val (.ref r135), .val .null, .val (.ref r135), .val .null] [(.int (1 : Int32))])
        refine Go.of (fun _ hr => XS.goto X148.here hx rfl (pc0 := 125) (pc' := 129) rfl (hb hby at_125) (by decide) (by decide) hr) ?_
        show Go p e s below _ _ _ _ T148 (mkF m 129 #[.val (.int p1), .val (.int p2), .val (.int p3), .val (.int p4), .val (.ref o101), .val (.ref o131), .val (.ref r135), .val .null, .val (.ref r135), .val .null] [(.int (1 : Int32))])
        exact Go.retN X148 hx hlk B148 (J148.sub fun x hx => (List.mem_cons_of_mem _ (List.mem_cons_of_mem _ hx))) e148 (t := .boolean) (z' := (1 : Int32)) hret (by simp) (hb hby at_129) rfl (by decide) (by decide) (fun vm_ hw_ => ⟨rfl, (fun y hy => Nat.le_trans hnb (N148 y hy))⟩)
    · refine Go.of (fun _ hr => XS.ifNo X132.here hx rfl (hb hby at_50) rfl ((if0 _ _).trans (feq hb50_134).1) hr) ?_
      show Go p e s below _ _ _ _ T132 (mkF m 53 #[.val (.int p1), .val (.int p2), .val (.int p3), .val (.int p4), .val (.ref o101), .val (.ref o131), .unset, .unset, .unset, .unset] [])
      refine Go.of (fun _ hr => XS.aconstNull X132.here hx rfl (hb hby at_53) hr) ?_
      show Go p e s below _ _ _ _ T132 (mkF m 54 #[.val (.int p1), .val (.int p2), .val (.int p3), .val (.int p4), .val (.ref o101), .val (.ref o131), .unset, .unset, .unset, .unset] [.null])
      refine Go.of (fun _ hr => XS.goto X132.here hx rfl (pc0 := 54) (pc' := 61) rfl (hb hby at_54) (by decide) (by decide) hr) ?_
      show Go p e s below _ _ _ _ T132 (mkF m 61 #[.val (.int p1), .val (.int p2), .val (.int p3), .val (.int p4), .val (.ref o101), .val (.ref o131), .unset, .unset, .unset, .unset] [.null])
      refine Go.of (fun _ hr => XS.astore X132.here hx rfl (hb hby at_61) rfl rfl (l' := #[.val (.int p1), .val (.int p2), .val (.int p3), .val (.int p4), .val (.ref o101), .val (.ref o131), .val .null, .unset, .unset, .unset]) rfl hr) ?_
      show Go p e s below _ _ _ _ T132 (mkF m 63 #[.val (.int p1), .val (.int p2), .val (.int p3), .val (.int p4), .val (.ref o101), .val (.ref o131), .val .null, .unset, .unset, .unset] [])
      refine Go.of (fun _ hr => XS.iloadN X132.here hx rfl (hb hby at_63) rfl  hr) ?_
      show Go p e s below _ _ _ _ T132 (mkF m 64 #[.val (.int p1), .val (.int p2), .val (.int p3), .val (.int p4), .val (.ref o101), .val (.ref o131), .val .null, .unset, .unset, .unset] [(.int p4)])
      refine Go.of (fun _ hr => XS.iconst X132.here hx rfl (hb hby at_64) hr) ?_
      show Go p e s below _ _ _ _ T132 (mkF m 65 #[.val (.int p1), .val (.int p2), .val (.int p3), .val (.int p4), .val (.ref o101), .val (.ref o131), .val .null, .unset, .unset, .unset] [(.int (2 : Int32)), (.int p4)])
      refine Go.of (fun _ hr => XS.iand X132.here hx rfl (hb hby at_65) rfl hr) ?_
      show Go p e s below _ _ _ _ T132 (mkF m 66 #[.val (.int p1), .val (.int p2), .val (.int p3), .val (.int p4), .val (.ref o101), .val (.ref o131), .val .null, .unset, .unset, .unset] [(.int (p4 &&& (2 : Int32)))])
      by_cases hb66_150 : (p4 &&& (2 : Int32)) = (0 : Int32)
      · refine Go.of (fun _ hr => XS.ifYes X132.here hx rfl (pc0 := 66) (pc' := 73) rfl (hb hby at_66) rfl ((if0 _ _).trans (teq hb66_150).1) (by decide) (by decide) hr) ?_
        show Go p e s below _ _ _ _ T132 (mkF m 73 #[.val (.int p1), .val (.int p2), .val (.int p3), .val (.int p4), .val (.ref o101), .val (.ref o131), .val .null, .unset, .unset, .unset] [])
        refine Go.of (fun _ hr => XS.iloadN X132.here hx rfl (hb hby at_73) rfl  hr) ?_
        show Go p e s below _ _ _ _ T132 (mkF m 74 #[.val (.int p1), .val (.int p2), .val (.int p3), .val (.int p4), .val (.ref o101), .val (.ref o131), .val .null, .unset, .unset, .unset] [(.int p3)])
        refine Go.of (fun _ hr => XS.sipush X132.here hx rfl (hb hby at_74) hr) ?_
        show Go p e s below _ _ _ _ T132 (mkF m 77 #[.val (.int p1), .val (.int p2), .val (.int p3), .val (.int p4), .val (.ref o101), .val (.ref o131), .val .null, .unset, .unset, .unset] [(.int (255 : Int32)), (.int p3)])
        refine Go.of (fun _ hr => XS.iand X132.here hx rfl (hb hby at_77) rfl hr) ?_
        show Go p e s below _ _ _ _ T132 (mkF m 78 #[.val (.int p1), .val (.int p2), .val (.int p3), .val (.int p4), .val (.ref o101), .val (.ref o131), .val .null, .unset, .unset, .unset] [(.int (p3 &&& (255 : Int32)))])
        refine Go.of (fun _ hr => XS.i2c X132.here hx rfl (hb hby at_78) rfl hr) ?_
        show Go p e s below _ _ _ _ T132 (mkF m 79 #[.val (.int p1), .val (.int p2), .val (.int p3), .val (.int p4), .val (.ref o101), .val (.ref o131), .val .null, .unset, .unset, .unset] [(.int ((p3 &&& (255 : Int32)).toUInt32.toUInt16.toUInt32.toInt32))])
        obtain ⟨_, b151, T151, h151, L151, e151, Cc151, X151, B151, J151, g151, hQ151, st151⟩ := own_callS Cc132 B132 J132 X132 (hw _ (List.mem_of_getElem? (i := 9) rfl)) (hw _ (List.mem_of_getElem? (i := 10) rfl)) (hw _ (List.mem_of_getElem? (i := 2) rfl)) (hw _ (List.mem_of_getElem? (i := 11) rfl)) (by decide) (rm1 l Z a0 hw [] ((p3 &&& (255 : Int32)).toUInt32.toUInt16.toUInt32.toInt32) zc _ h132 n0 O132 h0.size (own_ole O0) K132.1 (chr8 p3).2 S_C hzc) e132 (g := (mkF m 79 #[.val (.int p1), .val (.int p2), .val (.int p3), .val (.int p4), .val (.ref o101), .val (.ref o131), .val .null, .unset, .unset, .unset] [(.int ((p3 &&& (255 : Int32)).toUInt32.toUInt16.toUInt32.toInt32))])) rfl (by rw [hml]; rfl) (argsL := [(.int ((p3 &&& (255 : Int32)).toUInt32.toUInt16.toUInt32.toInt32))]) (rest := []) (lenOf pd10 rfl) rfl (W := 0) (by show 2 * 0 + _ ≤ _; exact Nat.le_of_eq rfl) (hb hby at_79) (by decide) (by decide) (by decide) (by decide)
        have f152 := (f133.keep Kq132 (ninS ne_o101_o131 nin0))
        have f153 := (A131.keep Kq132)
        obtain ⟨r151, t151, kt151, rfl, Nq151, Eq151, R_r151, R_t151, Er151, Fv151, Fc151, Vt151⟩ := hQ151
        have N151 := Fr.app N132 Nq151
        obtain ⟨hx, hZ, hown, hby, hml, hnm, hret, hlk⟩ := id Cc151
        have sz_r151 : h0.size ≤ r151 := Nat.le_trans K132.1 R_r151
        have fr_r151 : h0.size ≤ r151 := sz_r151
        have ne_o101_r151 : o101 ≠ r151 := Nat.ne_of_lt (Nat.lt_of_lt_of_le f152.lt R_r151)
        have ne_o131_r151 : o131 ≠ r151 := Nat.ne_of_lt (Nat.lt_of_lt_of_le f153.lt R_r151)
        have ne_t132_r151 : t132 ≠ r151 := Nat.ne_of_lt (Nat.lt_of_lt_of_le Vt132.lt R_r151)
        have sz_t151 : h0.size ≤ t151 := Nat.le_trans K132.1 R_t151
        have fr_t151 : h0.size ≤ t151 := sz_t151
        have ne_o101_t151 : o101 ≠ t151 := Nat.ne_of_lt (Nat.lt_of_lt_of_le f152.lt R_t151)
        have ne_o131_t151 : o131 ≠ t151 := Nat.ne_of_lt (Nat.lt_of_lt_of_le f153.lt R_t151)
        have ne_t132_t151 : t132 ≠ t151 := Nat.ne_of_lt (Nat.lt_of_lt_of_le Vt132.lt R_t151)
        have K151 := K132.ext Eq151
        have O151 := O132.ext Eq151
        refine Go.of st151 ?_
        show Go p e s below _ _ _ _ T151 (mkF m 82 #[.val (.int p1), .val (.int p2), .val (.int p3), .val (.int p4), .val (.ref o101), .val (.ref o131), .val .null, .unset, .unset, .unset] [(.ref r151)])
        refine Go.of (fun _ hr => XS.astore X151.here hx rfl (hb hby at_82) rfl rfl (l' := #[.val (.int p1), .val (.int p2), .val (.int p3), .val (.int p4), .val (.ref o101), .val (.ref o131), .val .null, .val (.ref r151), .unset, .unset]) rfl hr) ?_
        show Go p e s below _ _ _ _ T151 (mkF m 84 #[.val (.int p1), .val (.int p2), .val (.int p3), .val (.int p4), .val (.ref o101), .val (.ref o131), .val .null, .val (.ref r151), .unset, .unset] [])
        refine Go.of (fun _ hr => XS.aconstNull X151.here hx rfl (hb hby at_84) hr) ?_
        show Go p e s below _ _ _ _ T151 (mkF m 85 #[.val (.int p1), .val (.int p2), .val (.int p3), .val (.int p4), .val (.ref o101), .val (.ref o131), .val .null, .val (.ref r151), .unset, .unset] [.null])
        refine Go.of (fun _ hr => XS.aload X151.here hx rfl (hb hby at_85) rfl rfl hr) ?_
        show Go p e s below _ _ _ _ T151 (mkF m 87 #[.val (.int p1), .val (.int p2), .val (.int p3), .val (.int p4), .val (.ref o101), .val (.ref o131), .val .null, .val (.ref r151), .unset, .unset] [.null, .null])
        refine Go.of (fun _ hr => XS.aload X151.here hx rfl (hb hby at_87) rfl rfl hr) ?_
        show Go p e s below _ _ _ _ T151 (mkF m 89 #[.val (.int p1), .val (.int p2), .val (.int p3), .val (.int p4), .val (.ref o101), .val (.ref o131), .val .null, .val (.ref r151), .unset, .unset] [(.ref o131), .null, .null])
        obtain ⟨_, b154, T154, h154, L154, e154, Cc154, X154, B154, J154, g154, hQ154, st154⟩ := own_callS Cc151 B151 J151 X151 (hw _ (List.mem_of_getElem? (i := 30) rfl)) (hw _ (List.mem_of_getElem? (i := 31) rfl)) (hw _ (List.mem_of_getElem? (i := 32) rfl)) (hw _ (List.mem_of_getElem? (i := 33) rfl)) (by decide) (rmON l Z a0 hw [] o131 _ h151 n0 O151 h0.size (own_ole O0) K151.1) e151 (g := (mkF m 89 #[.val (.int p1), .val (.int p2), .val (.int p3), .val (.int p4), .val (.ref o101), .val (.ref o131), .val .null, .val (.ref r151), .unset, .unset] [(.ref o131), .null, .null])) rfl (by rw [hml]; rfl) (argsL := [.null, .null, (.ref o131)]) (rest := []) (lenOf pd11 rfl) rfl (W := 0) (by show 2 * 0 + _ ≤ _; exact Nat.le_of_eq rfl) (hb hby at_89) (by decide) (by decide) (by decide) (by decide)
        obtain ⟨rfl, Nq154, hh154⟩ := hQ154
        have N154 := Fr.app N151 Nq154
        obtain ⟨hx, hZ, hown, hby, hml, hnm, hret, hlk⟩ := id Cc154
        rw [hh154] at e154 B154 J154
        refine Go.of st154 ?_
        show Go p e s below _ _ _ _ T154 (mkF m 92 #[.val (.int p1), .val (.int p2), .val (.int p3), .val (.int p4), .val (.ref o101), .val (.ref o131), .val .null, .val (.ref r151), .unset, .unset] [.null])
        refine Go.of (fun _ hr => X154.checkcastNull hx (g := (mkF m 92 #[.val (.int p1), .val (.int p2), .val (.int p3), .val (.int p4), .val (.ref o101), .val (.ref o131), .val .null, .val (.ref r151), .unset, .unset] [.null])) rfl rfl (hb hby at_92) _ hr) ?_
        show Go p e s below _ _ _ _ T154 (mkF m 95 #[.val (.int p1), .val (.int p2), .val (.int p3), .val (.int p4), .val (.ref o101), .val (.ref o131), .val .null, .val (.ref r151), .unset, .unset] [.null])
        refine Go.of (fun _ hr => XS.astore X154.here hx rfl (hb hby at_95) rfl rfl (l' := #[.val (.int p1), .val (.int p2), .val (.int p3), .val (.int p4), .val (.ref o101), .val (.ref o131), .val .null, .val (.ref r151), .val .null, .unset]) rfl hr) ?_
        show Go p e s below _ _ _ _ T154 (mkF m 97 #[.val (.int p1), .val (.int p2), .val (.int p3), .val (.int p4), .val (.ref o101), .val (.ref o131), .val .null, .val (.ref r151), .val .null, .unset] [])
        refine Go.of (fun _ hr => XS.aconstNull X154.here hx rfl (hb hby at_97) hr) ?_
        show Go p e s below _ _ _ _ T154 (mkF m 98 #[.val (.int p1), .val (.int p2), .val (.int p3), .val (.int p4), .val (.ref o101), .val (.ref o131), .val .null, .val (.ref r151), .val .null, .unset] [.null])
        refine Go.of (fun _ hr => XS.aload X154.here hx rfl (hb hby at_98) rfl rfl hr) ?_
        show Go p e s below _ _ _ _ T154 (mkF m 100 #[.val (.int p1), .val (.int p2), .val (.int p3), .val (.int p4), .val (.ref o101), .val (.ref o131), .val .null, .val (.ref r151), .val .null, .unset] [(.ref r151), .null])
        refine Go.of (fun _ hr => XS.aload X154.here hx rfl (hb hby at_100) rfl rfl hr) ?_
        show Go p e s below _ _ _ _ T154 (mkF m 102 #[.val (.int p1), .val (.int p2), .val (.int p3), .val (.int p4), .val (.ref o101), .val (.ref o131), .val .null, .val (.ref r151), .val .null, .unset] [(.ref o131), (.ref r151), .null])
        obtain ⟨_, b156, T156, h156, L156, e156, Cc156, X156, B156, J156, g156, hQ156, st156⟩ := own_callS Cc154 B154 J154 X154 (hw _ (List.mem_of_getElem? (i := 30) rfl)) (hw _ (List.mem_of_getElem? (i := 31) rfl)) (hw _ (List.mem_of_getElem? (i := 32) rfl)) (hw _ (List.mem_of_getElem? (i := 33) rfl)) (by decide) (rmOR l Z a0 hw [] r151 o131 _ h151 n0 O151 h0.size (own_ole O0) K151.1) e154 (g := (mkF m 102 #[.val (.int p1), .val (.int p2), .val (.int p3), .val (.int p4), .val (.ref o101), .val (.ref o131), .val .null, .val (.ref r151), .val .null, .unset] [(.ref o131), (.ref r151), .null])) rfl (by rw [hml]; rfl) (argsL := [.null, (.ref r151), (.ref o131)]) (rest := []) (lenOf pd11 rfl) rfl (W := 0) (by show 2 * 0 + _ ≤ _; exact Nat.le_of_eq rfl) (hb hby at_102) (by decide) (by decide) (by decide) (by decide)
        obtain ⟨rfl, Nq156, hh156⟩ := hQ156
        have N156 := Fr.app N154 Nq156
        obtain ⟨hx, hZ, hown, hby, hml, hnm, hret, hlk⟩ := id Cc156
        rw [hh156] at e156 B156 J156
        refine Go.of st156 ?_
        show Go p e s below _ _ _ _ T156 (mkF m 105 #[.val (.int p1), .val (.int p2), .val (.int p3), .val (.int p4), .val (.ref o101), .val (.ref o131), .val .null, .val (.ref r151), .val .null, .unset] [(.ref r151)])
        obtain ⟨T157, X157, e157, st157⟩ := castY X156 hx hZ hown (hw _ (List.mem_of_getElem? (i := 34) rfl)) e156 (Ins.self Er151) (g := (mkF m 105 #[.val (.int p1), .val (.int p2), .val (.int p3), .val (.int p4), .val (.ref o101), .val (.ref o131), .val .null, .val (.ref r151), .val .null, .unset] [(.ref r151)])) rfl rfl (hb hby at_105)
        refine Go.of (fun _ hr => st157 _ hr) ?_
        show Go p e s below _ _ _ _ T157 (mkF m 108 #[.val (.int p1), .val (.int p2), .val (.int p3), .val (.int p4), .val (.ref o101), .val (.ref o131), .val .null, .val (.ref r151), .val .null, .unset] [(.ref r151)])
        refine Go.of (fun _ hr => XS.astore X157.here hx rfl (hb hby at_108) rfl rfl (l' := #[.val (.int p1), .val (.int p2), .val (.int p3), .val (.int p4), .val (.ref o101), .val (.ref o131), .val .null, .val (.ref r151), .val .null, .val (.ref r151)]) rfl hr) ?_
        show Go p e s below _ _ _ _ T157 (mkF m 110 #[.val (.int p1), .val (.int p2), .val (.int p3), .val (.int p4), .val (.ref o101), .val (.ref o131), .val .null, .val (.ref r151), .val .null, .val (.ref r151)] [])
        refine Go.of (fun _ hr => XS.aload X157.here hx rfl (hb hby at_110) rfl rfl hr) ?_
        show Go p e s below _ _ _ _ T157 (mkF m 112 #[.val (.int p1), .val (.int p2), .val (.int p3), .val (.int p4), .val (.ref o101), .val (.ref o131), .val .null, .val (.ref r151), .val .null, .val (.ref r151)] [.null])
        refine Go.of (fun _ hr => XS.aload X157.here hx rfl (hb hby at_112) rfl rfl hr) ?_
        show Go p e s below _ _ _ _ T157 (mkF m 114 #[.val (.int p1), .val (.int p2), .val (.int p3), .val (.int p4), .val (.ref o101), .val (.ref o131), .val .null, .val (.ref r151), .val .null, .val (.ref r151)] [.null, .null])
        refine Go.of (fun _ hr => Jvm.RoadKit.acmp (g := (mkF m 114 #[.val (.int p1), .val (.int p2), .val (.int p3), .val (.int p4), .val (.ref o101), .val (.ref o131), .val .null, .val (.ref r151), .val .null, .val (.ref r151)] [.null, .null])) X157 hx rfl rfl rfl (pc0 := 114) (pc' := 117) (same := true) rfl (hb hby at_114) rfl (decide_eq_true rfl) (by decide) (by decide) hr) ?_
        show Go p e s below _ _ _ _ T157 (mkF m 117 #[.val (.int p1), .val (.int p2), .val (.int p3), .val (.int p4), .val (.ref o101), .val (.ref o131), .val .null, .val (.ref r151), .val .null, .val (.ref r151)] [])
        refine Go.of (fun _ hr => XS.aload X157.here hx rfl (hb hby at_117) rfl rfl hr) ?_
        show Go p e s below _ _ _ _ T157 (mkF m 119 #[.val (.int p1), .val (.int p2), .val (.int p3), .val (.int p4), .val (.ref o101), .val (.ref o131), .val .null, .val (.ref r151), .val .null, .val (.ref r151)] [(.ref r151)])
        refine Go.of (fun _ hr => XS.aload X157.here hx rfl (hb hby at_119) rfl rfl hr) ?_
        show Go p e s below _ _ _ _ T157 (mkF m 121 #[.val (.int p1), .val (.int p2), .val (.int p3), .val (.int p4), .val (.ref o101), .val (.ref o131), .val .null, .val (.ref r151), .val .null, .val (.ref r151)] [(.ref r151), (.ref r151)])
        refine Go.of (fun _ hr => Jvm.RoadKit.acmp (g := (mkF m 121 #[.val (.int p1), .val (.int p2), .val (.int p3), .val (.int p4), .val (.ref o101), .val (.ref o131), .val .null, .val (.ref r151), .val .null, .val (.ref r151)] [(.ref r151), (.ref r151)])) X157 hx rfl rfl rfl (pc0 := 121) (pc' := 124) (same := true) rfl (hb hby at_121) rfl (decide_eq_true rfl) (by decide) (by decide) hr) ?_
        show Go p e s below _ _ _ _ T157 (mkF m 124 #[.val (.int p1), .val (.int p2), .val (.int p3), .val (.int p4), .val (.ref o101), .val (.ref o131), .val .null, .val (.ref r151), .val .null, .val (.ref r151)] [])
        refine Go.of (fun _ hr => XS.iconst X157.here hx rfl (hb hby at_124) hr) ?_
        show Go p e s below _ _ _ _ T157 (mkF m 125 #[.val (.int p1), .val (.int p2), .val (.int p3), .val (.int p4), .val (.ref o101), .val (.ref o131), .val .null, .val (.ref r151), .val .null, .val (.ref r151)] [(.int (1 : Int32))])
        refine Go.of (fun _ hr => XS.goto X157.here hx rfl (pc0 := 125) (pc' := 129) rfl (hb hby at_125) (by decide) (by decide) hr) ?_
        show Go p e s below _ _ _ _ T157 (mkF m 129 #[.val (.int p1), .val (.int p2), .val (.int p3), .val (.int p4), .val (.ref o101), .val (.ref o131), .val .null, .val (.ref r151), .val .null, .val (.ref r151)] [(.int (1 : Int32))])
        exact Go.retN X157 hx hlk B156 (J156.sub fun x hx => (List.mem_cons_of_mem _ (List.mem_cons_of_mem _ hx))) e157 (t := .boolean) (z' := (1 : Int32)) hret (by simp) (hb hby at_129) rfl (by decide) (by decide) (fun vm_ hw_ => ⟨rfl, (fun y hy => Nat.le_trans hnb (N156 y hy))⟩)
      · refine Go.of (fun _ hr => XS.ifNo X132.here hx rfl (hb hby at_66) rfl ((if0 _ _).trans (feq hb66_150).1) hr) ?_
        show Go p e s below _ _ _ _ T132 (mkF m 69 #[.val (.int p1), .val (.int p2), .val (.int p3), .val (.int p4), .val (.ref o101), .val (.ref o131), .val .null, .unset, .unset, .unset] [])
        refine Go.of (fun _ hr => XS.aconstNull X132.here hx rfl (hb hby at_69) hr) ?_
        show Go p e s below _ _ _ _ T132 (mkF m 70 #[.val (.int p1), .val (.int p2), .val (.int p3), .val (.int p4), .val (.ref o101), .val (.ref o131), .val .null, .unset, .unset, .unset] [.null])
        refine Go.of (fun _ hr => XS.goto X132.here hx rfl (pc0 := 70) (pc' := 82) rfl (hb hby at_70) (by decide) (by decide) hr) ?_
        show Go p e s below _ _ _ _ T132 (mkF m 82 #[.val (.int p1), .val (.int p2), .val (.int p3), .val (.int p4), .val (.ref o101), .val (.ref o131), .val .null, .unset, .unset, .unset] [.null])
        refine Go.of (fun _ hr => XS.astore X132.here hx rfl (hb hby at_82) rfl rfl (l' := #[.val (.int p1), .val (.int p2), .val (.int p3), .val (.int p4), .val (.ref o101), .val (.ref o131), .val .null, .val .null, .unset, .unset]) rfl hr) ?_
        show Go p e s below _ _ _ _ T132 (mkF m 84 #[.val (.int p1), .val (.int p2), .val (.int p3), .val (.int p4), .val (.ref o101), .val (.ref o131), .val .null, .val .null, .unset, .unset] [])
        refine Go.of (fun _ hr => XS.aconstNull X132.here hx rfl (hb hby at_84) hr) ?_
        show Go p e s below _ _ _ _ T132 (mkF m 85 #[.val (.int p1), .val (.int p2), .val (.int p3), .val (.int p4), .val (.ref o101), .val (.ref o131), .val .null, .val .null, .unset, .unset] [.null])
        refine Go.of (fun _ hr => XS.aload X132.here hx rfl (hb hby at_85) rfl rfl hr) ?_
        show Go p e s below _ _ _ _ T132 (mkF m 87 #[.val (.int p1), .val (.int p2), .val (.int p3), .val (.int p4), .val (.ref o101), .val (.ref o131), .val .null, .val .null, .unset, .unset] [.null, .null])
        refine Go.of (fun _ hr => XS.aload X132.here hx rfl (hb hby at_87) rfl rfl hr) ?_
        show Go p e s below _ _ _ _ T132 (mkF m 89 #[.val (.int p1), .val (.int p2), .val (.int p3), .val (.int p4), .val (.ref o101), .val (.ref o131), .val .null, .val .null, .unset, .unset] [(.ref o131), .null, .null])
        obtain ⟨_, b158, T158, h158, L158, e158, Cc158, X158, B158, J158, g158, hQ158, st158⟩ := own_callS Cc132 B132 J132 X132 (hw _ (List.mem_of_getElem? (i := 30) rfl)) (hw _ (List.mem_of_getElem? (i := 31) rfl)) (hw _ (List.mem_of_getElem? (i := 32) rfl)) (hw _ (List.mem_of_getElem? (i := 33) rfl)) (by decide) (rmON l Z a0 hw [] o131 _ h132 n0 O132 h0.size (own_ole O0) K132.1) e132 (g := (mkF m 89 #[.val (.int p1), .val (.int p2), .val (.int p3), .val (.int p4), .val (.ref o101), .val (.ref o131), .val .null, .val .null, .unset, .unset] [(.ref o131), .null, .null])) rfl (by rw [hml]; rfl) (argsL := [.null, .null, (.ref o131)]) (rest := []) (lenOf pd11 rfl) rfl (W := 0) (by show 2 * 0 + _ ≤ _; exact Nat.le_of_eq rfl) (hb hby at_89) (by decide) (by decide) (by decide) (by decide)
        obtain ⟨rfl, Nq158, hh158⟩ := hQ158
        have N158 := Fr.app N132 Nq158
        obtain ⟨hx, hZ, hown, hby, hml, hnm, hret, hlk⟩ := id Cc158
        rw [hh158] at e158 B158 J158
        refine Go.of st158 ?_
        show Go p e s below _ _ _ _ T158 (mkF m 92 #[.val (.int p1), .val (.int p2), .val (.int p3), .val (.int p4), .val (.ref o101), .val (.ref o131), .val .null, .val .null, .unset, .unset] [.null])
        refine Go.of (fun _ hr => X158.checkcastNull hx (g := (mkF m 92 #[.val (.int p1), .val (.int p2), .val (.int p3), .val (.int p4), .val (.ref o101), .val (.ref o131), .val .null, .val .null, .unset, .unset] [.null])) rfl rfl (hb hby at_92) _ hr) ?_
        show Go p e s below _ _ _ _ T158 (mkF m 95 #[.val (.int p1), .val (.int p2), .val (.int p3), .val (.int p4), .val (.ref o101), .val (.ref o131), .val .null, .val .null, .unset, .unset] [.null])
        refine Go.of (fun _ hr => XS.astore X158.here hx rfl (hb hby at_95) rfl rfl (l' := #[.val (.int p1), .val (.int p2), .val (.int p3), .val (.int p4), .val (.ref o101), .val (.ref o131), .val .null, .val .null, .val .null, .unset]) rfl hr) ?_
        show Go p e s below _ _ _ _ T158 (mkF m 97 #[.val (.int p1), .val (.int p2), .val (.int p3), .val (.int p4), .val (.ref o101), .val (.ref o131), .val .null, .val .null, .val .null, .unset] [])
        refine Go.of (fun _ hr => XS.aconstNull X158.here hx rfl (hb hby at_97) hr) ?_
        show Go p e s below _ _ _ _ T158 (mkF m 98 #[.val (.int p1), .val (.int p2), .val (.int p3), .val (.int p4), .val (.ref o101), .val (.ref o131), .val .null, .val .null, .val .null, .unset] [.null])
        refine Go.of (fun _ hr => XS.aload X158.here hx rfl (hb hby at_98) rfl rfl hr) ?_
        show Go p e s below _ _ _ _ T158 (mkF m 100 #[.val (.int p1), .val (.int p2), .val (.int p3), .val (.int p4), .val (.ref o101), .val (.ref o131), .val .null, .val .null, .val .null, .unset] [.null, .null])
        refine Go.of (fun _ hr => XS.aload X158.here hx rfl (hb hby at_100) rfl rfl hr) ?_
        show Go p e s below _ _ _ _ T158 (mkF m 102 #[.val (.int p1), .val (.int p2), .val (.int p3), .val (.int p4), .val (.ref o101), .val (.ref o131), .val .null, .val .null, .val .null, .unset] [(.ref o131), .null, .null])
        obtain ⟨_, b160, T160, h160, L160, e160, Cc160, X160, B160, J160, g160, hQ160, st160⟩ := own_callS Cc158 B158 J158 X158 (hw _ (List.mem_of_getElem? (i := 30) rfl)) (hw _ (List.mem_of_getElem? (i := 31) rfl)) (hw _ (List.mem_of_getElem? (i := 32) rfl)) (hw _ (List.mem_of_getElem? (i := 33) rfl)) (by decide) (rmON l Z a0 hw [] o131 _ h132 n0 O132 h0.size (own_ole O0) K132.1) e158 (g := (mkF m 102 #[.val (.int p1), .val (.int p2), .val (.int p3), .val (.int p4), .val (.ref o101), .val (.ref o131), .val .null, .val .null, .val .null, .unset] [(.ref o131), .null, .null])) rfl (by rw [hml]; rfl) (argsL := [.null, .null, (.ref o131)]) (rest := []) (lenOf pd11 rfl) rfl (W := 0) (by show 2 * 0 + _ ≤ _; exact Nat.le_of_eq rfl) (hb hby at_102) (by decide) (by decide) (by decide) (by decide)
        obtain ⟨rfl, Nq160, hh160⟩ := hQ160
        have N160 := Fr.app N158 Nq160
        obtain ⟨hx, hZ, hown, hby, hml, hnm, hret, hlk⟩ := id Cc160
        rw [hh160] at e160 B160 J160
        refine Go.of st160 ?_
        show Go p e s below _ _ _ _ T160 (mkF m 105 #[.val (.int p1), .val (.int p2), .val (.int p3), .val (.int p4), .val (.ref o101), .val (.ref o131), .val .null, .val .null, .val .null, .unset] [.null])
        refine Go.of (fun _ hr => X160.checkcastNull hx (g := (mkF m 105 #[.val (.int p1), .val (.int p2), .val (.int p3), .val (.int p4), .val (.ref o101), .val (.ref o131), .val .null, .val .null, .val .null, .unset] [.null])) rfl rfl (hb hby at_105) _ hr) ?_
        show Go p e s below _ _ _ _ T160 (mkF m 108 #[.val (.int p1), .val (.int p2), .val (.int p3), .val (.int p4), .val (.ref o101), .val (.ref o131), .val .null, .val .null, .val .null, .unset] [.null])
        refine Go.of (fun _ hr => XS.astore X160.here hx rfl (hb hby at_108) rfl rfl (l' := #[.val (.int p1), .val (.int p2), .val (.int p3), .val (.int p4), .val (.ref o101), .val (.ref o131), .val .null, .val .null, .val .null, .val .null]) rfl hr) ?_
        show Go p e s below _ _ _ _ T160 (mkF m 110 #[.val (.int p1), .val (.int p2), .val (.int p3), .val (.int p4), .val (.ref o101), .val (.ref o131), .val .null, .val .null, .val .null, .val .null] [])
        refine Go.of (fun _ hr => XS.aload X160.here hx rfl (hb hby at_110) rfl rfl hr) ?_
        show Go p e s below _ _ _ _ T160 (mkF m 112 #[.val (.int p1), .val (.int p2), .val (.int p3), .val (.int p4), .val (.ref o101), .val (.ref o131), .val .null, .val .null, .val .null, .val .null] [.null])
        refine Go.of (fun _ hr => XS.aload X160.here hx rfl (hb hby at_112) rfl rfl hr) ?_
        show Go p e s below _ _ _ _ T160 (mkF m 114 #[.val (.int p1), .val (.int p2), .val (.int p3), .val (.int p4), .val (.ref o101), .val (.ref o131), .val .null, .val .null, .val .null, .val .null] [.null, .null])
        refine Go.of (fun _ hr => Jvm.RoadKit.acmp (g := (mkF m 114 #[.val (.int p1), .val (.int p2), .val (.int p3), .val (.int p4), .val (.ref o101), .val (.ref o131), .val .null, .val .null, .val .null, .val .null] [.null, .null])) X160 hx rfl rfl rfl (pc0 := 114) (pc' := 117) (same := true) rfl (hb hby at_114) rfl (decide_eq_true rfl) (by decide) (by decide) hr) ?_
        show Go p e s below _ _ _ _ T160 (mkF m 117 #[.val (.int p1), .val (.int p2), .val (.int p3), .val (.int p4), .val (.ref o101), .val (.ref o131), .val .null, .val .null, .val .null, .val .null] [])
        refine Go.of (fun _ hr => XS.aload X160.here hx rfl (hb hby at_117) rfl rfl hr) ?_
        show Go p e s below _ _ _ _ T160 (mkF m 119 #[.val (.int p1), .val (.int p2), .val (.int p3), .val (.int p4), .val (.ref o101), .val (.ref o131), .val .null, .val .null, .val .null, .val .null] [.null])
        refine Go.of (fun _ hr => XS.aload X160.here hx rfl (hb hby at_119) rfl rfl hr) ?_
        show Go p e s below _ _ _ _ T160 (mkF m 121 #[.val (.int p1), .val (.int p2), .val (.int p3), .val (.int p4), .val (.ref o101), .val (.ref o131), .val .null, .val .null, .val .null, .val .null] [.null, .null])
        refine Go.of (fun _ hr => Jvm.RoadKit.acmp (g := (mkF m 121 #[.val (.int p1), .val (.int p2), .val (.int p3), .val (.int p4), .val (.ref o101), .val (.ref o131), .val .null, .val .null, .val .null, .val .null] [.null, .null])) X160 hx rfl rfl rfl (pc0 := 121) (pc' := 124) (same := true) rfl (hb hby at_121) rfl (decide_eq_true rfl) (by decide) (by decide) hr) ?_
        show Go p e s below _ _ _ _ T160 (mkF m 124 #[.val (.int p1), .val (.int p2), .val (.int p3), .val (.int p4), .val (.ref o101), .val (.ref o131), .val .null, .val .null, .val .null, .val .null] [])
        refine Go.of (fun _ hr => XS.iconst X160.here hx rfl (hb hby at_124) hr) ?_
        show Go p e s below _ _ _ _ T160 (mkF m 125 #[.val (.int p1), .val (.int p2), .val (.int p3), .val (.int p4), .val (.ref o101), .val (.ref o131), .val .null, .val .null, .val .null, .val .null] [(.int (1 : Int32))])
        refine Go.of (fun _ hr => XS.goto X160.here hx rfl (pc0 := 125) (pc' := 129) rfl (hb hby at_125) (by decide) (by decide) hr) ?_
        show Go p e s below _ _ _ _ T160 (mkF m 129 #[.val (.int p1), .val (.int p2), .val (.int p3), .val (.int p4), .val (.ref o101), .val (.ref o131), .val .null, .val .null, .val .null, .val .null] [(.int (1 : Int32))])
        exact Go.retN X160 hx hlk B160 (J160.sub fun x hx => (List.mem_cons_of_mem _ (List.mem_cons_of_mem _ hx))) e160 (t := .boolean) (z' := (1 : Int32)) hret (by simp) (hb hby at_129) rfl (by decide) (by decide) (fun vm_ hw_ => ⟨rfl, (fun y hy => Nat.le_trans hnb (N160 y hy))⟩)

set_option maxRecDepth 65536 in
set_option maxHeartbeats 40000000 in
theorem comes_1 {Post : Tables → Env → Array Value → State → Outcome → State → Prop} (hpost : ∀ tb e args s v u, (limb_1_1.after args s (.returned v) u = true ∧ limb_1_2.after args s (.returned v) u = true ∧ True) → ReturnedEndW s (.returned v) u (Jvm.fieldLocs frame_1_writes args s ++ Jvm.arrayLocs frame_1_arrays args s ++ Jvm.staticLocs frame_1_statics s) 24 1152 → Post tb e args s (.returned v) u) :
    ArmFor flags0 classFile x code maxLocals ret World_1 tables_1 room_1 Calls_1 rest_1 Pre_1 Post := by
  intro l hfl _ _ p e ha hc hk s m args below hf hA hF happ hP
  obtain ⟨hcalls, hrest, hpre⟩ := hP
  obtain ⟨-, -, -, hnamed, -, -, -, hat⟩ := (Spec.applies_iff hf).mp happ
  obtain ⟨hg, hn⟩ := and_e (Cond.before_iff.mp (show (Jvm.Cond.and given_1 narrow_1).before args s = true from hpre))
  have hw := fun d (hd : d ∈ tables_1) => atoms_spec (ws := Jvm.Cond.code x code maxLocals ret :: tables_1) hat d (List.mem_cons_of_mem _ hd)
  obtain ⟨hsets, hown0⟩ := atoms_of _ (rest_1_c_eq ▸ (show rest_1_c.before _ s = true from hrest))
  have hfit : Fit s := fun {y c} hc i hi => by
    obtain ⟨ha, rfl⟩ := Array.getElem?_eq_some_iff.mp hc
    have q := List.all_eq_true.mp ((Array.all_eq_true_iff_forall_mem.mp hF) _ (Array.getElem_mem ha)) i (List.mem_range.mpr hi)
    simpa [Array.getElem?_eq_getElem hi] using q
  obtain ⟨hg0, hg⟩ := and_e hg
  obtain ⟨hg1, hg⟩ := and_e hg
  obtain ⟨hg2, hg⟩ := and_e hg
  obtain ⟨hg3, hg⟩ := and_e hg
  obtain ⟨w0, w1, w2, w3, rfl⟩ : ∃ w0 w1 w2 w3 : Value, args = #[w0, w1, w2, w3] := by
    have hs : args.size = 4 := by simpa [Cond.value] using hg0
    obtain ⟨L⟩ := args
    match L, hs with
    | [w0, w1, w2, w3], _ => exact ⟨w0, w1, w2, w3, rfl⟩
  obtain ⟨i0, ev0⟩ := is_v hg1
  obtain rfl : w0 = (.int i0) := Option.some.inj ev0
  obtain ⟨i1, ev1⟩ := is_v hg2
  obtain rfl : w1 = (.int i1) := Option.some.inj ev1
  obtain ⟨i2, ev2⟩ := is_v hg3
  obtain rfl : w2 = (.int i2) := Option.some.inj ev2
  obtain ⟨i3, ev3⟩ := is_v hg
  obtain rfl : w3 = (.int i3) := Option.some.inj ev3
  obtain ⟨zc, evC⟩ := is_v (Cond.before_iff.mp (hsets _ (List.mem_of_getElem? (i := 1) rfl)))
  have S_C : Sta s s.heap "java/lang/String" "COMPACT_STRINGS" "Z" (.int zc) := Sta.start evC (Or.inl (hsets _ (List.mem_of_getElem? (i := 0) rfl)))
  have hzc : ¬ (zc = (0 : Int32)) := gotF (Cond.eq_ints evC (Term.int_eval (0))) (not_v (Cond.before_iff.mp (hsets _ (List.mem_of_getElem? (i := 2) rfl))))
  have hJ : Hd s [] s.vm s.heap := trivial
  have S_high : Sta s s.heap "java/lang/Integer$IntegerCache" "high" "I" (.int 127) := Sta.start (own_eqI (Cond.before_iff.mp (hsets _ (List.mem_of_getElem? (i := 12) rfl)))) (Or.inl (hsets _ (List.mem_of_getElem? (i := 10) rfl)))
  obtain ⟨wc, evW⟩ := exa_v (Cond.before_iff.mp (hsets _ (List.mem_of_getElem? (i := 14) rfl)))
  have S_cache : Sta s s.heap "java/lang/Integer$IntegerCache" "cache" "[Ljava/lang/Integer;" (.ref wc) := Sta.start evW (Or.inr ⟨(hw _ (List.mem_of_getElem? (i := 40) rfl)), (hsets _ (List.mem_of_getElem? (i := 11) rfl))⟩)
  obtain ⟨cc, Acc⟩ := Arr.start evW (Cond.before_iff.mp (hsets _ (List.mem_of_getElem? (i := 13) rfl)))
  have hlen := own_eqI (Cond.before_iff.mp (hsets _ (List.mem_of_getElem? (i := 15) rfl)))
  have haA : s.arrayAt? wc = some cc := Acc.fin (Vm.Alike.refl _)
  have q31 : cc.slots.size < 2 ^ 31 := Jvm.Free.SBG.length_lt evW haA hlen
  have e256 := Value.int.inj (Option.some.inj ((len_f evW haA q31).symm.trans hlen))
  have BX : Bxs s wc cc "java/lang/Integer" "I" 256 (fun j => .int (j - 128)) := Bxs.start (F := .sub (.index 0) (.int 128)) (fun _ => evW) Acc q31 e256 (by decide) (Cond.before_iff.mp (hsets _ (List.mem_of_getElem? (i := 16) rfl))) (fun X j hj hh => eqv_i (by simp [Term.eval, idx_at hj, show j.toNatClampNeg.toInt32 = j from q_back hj]) hh)
  obtain ⟨n, o, h1, h2, h3, _, L, rfl, ⟨rfl, N⟩, -, hq⟩ := rm0 l s _ hw tables_1 i0 i1 i2 i3 zc wc cc [] s.heap s.heap.size (Old.start s) s.heap.size (Nat.le_refl _) (Nat.le_refl _) S_C hzc S_high S_cache BX p e ha hc hk s m _ below hf ((Spec.applies_iff_loose hf).mp happ).1 ⟨rfl, State.Warmed39.refl s, rfl, hJ⟩ trivial
  refine ⟨n, _, h1, h2, h3, hpost _ _ _ _ _ _ ⟨Cond.after_iff.mpr rfl, Cond.after_iff.mpr (eq_i res_at (Term.int_eval (1)) rfl), trivial⟩ ⟨hq.1, hq.2.1, hq.2.2.1, (hq.2.2.2.sift fun y hy => Or.inr (N y hy)).mono (by decide) (by decide)⟩⟩
theorem main_1_1 : Claimed_1_1 := comes_1 fun _ _ _ _ _ _ h hF => ⟨h.1, hF⟩
theorem main_1_2 : Claimed_1_2 := comes_1 fun _ _ _ _ _ _ h hF => ⟨h.2.1, hF⟩

end Jvm.Pilot.@@N@@
namespace Jvm.Pilot.@@N@@
open Jvm Jvm.ClassFile Sem Op Lib Jvm.Free Jvm.Stand Jvm.Pilot.@@N@@.Jvm.D
/-! MADE BY PROGRAM (witnessworld.py) out of the Statement's table words and the real class files: 24 classes; the members and pool entries that the words name. The judged class is class 1, her method 1. -/
namespace start1
open Jvm.ClassFile
def u (s : String) : CpInfo := .utf8 (stringToUtf16 s)
/-- a pool by its gaps: so many unusable entries, then the entry; so many at the end -/
def gap : Nat → List CpInfo → List CpInfo
  | 0, r => r
  | n + 1, r => .unusable :: gap n r
def poolList (es : List (Nat × CpInfo)) (last : Nat) : List CpInfo := es.foldr (fun e r => gap e.1 (e.2 :: r)) (gap last [])
def pool (es : List (Nat × CpInfo)) (last : Nat) : Array CpInfo := ⟨poolList es last⟩
def fileOf (pool : Array CpInfo) (this : Nat) (attrs : Array Attribute := #[]) (ms : Array MethodInfo := #[]) (fl : Nat := 33) (sup : Nat := 0) (ifs : Array Nat := #[]) (fds : Array FieldInfo := #[]) : ClassFile where
  minorVersion := 0
  majorVersion := 65
  constantPool := pool
  accessFlags := fl
  thisClass := this
  superClass := sup
  interfaces := ifs
  fields := fds
  methods := ms
  attributes := attrs
def plain (name : String) (sup : Option ClassId) : Class where
  name := name
  kind := .ordinary
  loader := none
  accessFlags := 33
  super := sup
  interfaces := #[]
  cf := none
  fields := #[]
  methods := #[]
  instanceTypes := #[]
  staticTypes := #[]
  resolved := #[]
  callSites := []
  init := .initialized
  statics := none
  mirror := none

def pool0 : Array CpInfo := pool [(5, u "<init>"), (0, u "()V"), (1, .class_ 10), (1, u "java/lang/Object")] 113

def k0c0 : Code := { maxStack := 0, maxLocals := 1, code := object_method_1_code, exceptionTable := #[], attributes := #[] }
def k0m0 : Method := { name := "<init>", desc := "()V", sig := { parameters := [], returnType := none }, accessFlags := 1, code := some k0c0 }
/-- java/lang/Object -/
def k0 : Class := { plain "java/lang/Object" none with
  accessFlags := 33
  interfaces := #[]
  cf := some (fileOf pool0 8 #[] #[{ accessFlags := 1, nameIndex := 5, descriptorIndex := 6, attributes := #[] }] 33 0 #[] #[])
  fields := #[]
  methods := #[k0m0]
  instanceTypes := #[]
  staticTypes := #[]
  resolved := Array.replicate 124 none
  statics := none }

def pool1 : Array CpInfo := pool [(2, .class_ 4), (1, u "java/lang/Object"), (0, u "<init>"), (0, u "()V"), (0, .class_ 8), (0, u "java/lang/String"), (0, .methodref 7 10), (0, .nameAndType 5 11), (0, u "([C)V"), (0, .string 13), (0, u ""), (0, .methodref 15 16), (0, .class_ 17), (0, .nameAndType 18 19), (0, u "java/lang/Integer"), (0, u "valueOf"), (0, u "(I)Ljava/lang/Integer;"), (0, .methodref 7 21), (0, .nameAndType 18 22), (0, u "(C)Ljava/lang/String;"), (0, .methodref 24 25), (0, .class_ 26), (0, .nameAndType 27 28), (0, u "com/example/liken2/liken2/cli/Arguments"), (0, u "once"), (0, u "(Ljava/lang/Object;Ljava/lang/Object;Ljava/lang/String;)Ljava/lang/Object;"), (0, .class_ 30), (0, u "com/example/liken2/liken2/cli/ArgumentsOncePinLaw"), (2, u "law"), (0, u "(IIII)Z")] 8

def k1m0 : Method := { name := "<init>", desc := "()V", sig := { parameters := [], returnType := none }, accessFlags := 1, code := none }
def k1c1 : Code := { maxStack := 4, maxLocals := 10, code := code, exceptionTable := #[], attributes := #[] }
def k1m1 : Method := { name := "law", desc := "(IIII)Z", sig := { parameters := [.int, .int, .int, .int], returnType := some .boolean }, accessFlags := 9, code := some k1c1 }
/-- com/example/liken2/liken2/cli/ArgumentsOncePinLaw -/
def k1 : Class := { plain "com/example/liken2/liken2/cli/ArgumentsOncePinLaw" (some 0) with
  accessFlags := 49
  interfaces := #[]
  cf := some (fileOf pool1 29 #[] #[{ accessFlags := 1, nameIndex := 5, descriptorIndex := 6, attributes := #[] }, { accessFlags := 9, nameIndex := 33, descriptorIndex := 34, attributes := #[] }] 49 2 #[] #[])
  fields := #[]
  methods := #[k1m0, k1m1]
  instanceTypes := #[]
  staticTypes := #[]
  resolved := Array.replicate 43 none
  statics := none }

def pool2 : Array CpInfo := pool [(1, .class_ 2), (0, u "java/io/Serializable"), (0, .class_ 4), (0, u "java/lang/Object")] 2

/-- java/io/Serializable -/
def k2 : Class := { plain "java/io/Serializable" (some 0) with
  accessFlags := 1537
  interfaces := #[]
  cf := some (fileOf pool2 1 #[] #[] 1537 3 #[] #[])
  fields := #[]
  methods := #[]
  instanceTypes := #[]
  staticTypes := #[]
  resolved := Array.replicate 7 none
  statics := none }

def pool3 : Array CpInfo := pool [(1, .class_ 2), (0, u "java/lang/Comparable"), (0, .class_ 4), (0, u "java/lang/Object")] 7

/-- java/lang/Comparable -/
def k3 : Class := { plain "java/lang/Comparable" (some 0) with
  accessFlags := 1537
  interfaces := #[]
  cf := some (fileOf pool3 1 #[] #[] 1537 3 #[] #[])
  fields := #[]
  methods := #[]
  instanceTypes := #[]
  staticTypes := #[]
  resolved := Array.replicate 12 none
  statics := none }

def pool4 : Array CpInfo := pool [(2, .class_ 4), (1, u "java/lang/CharSequence"), (42, .class_ 48), (0, u "java/lang/CharSequence$1CodePointIterator"), (10, .class_ 60), (0, u "java/lang/CharSequence$1CharIterator"), (5, .class_ 67), (0, u "java/lang/Object")] 63

/-- java/lang/CharSequence -/
def k4 : Class := { plain "java/lang/CharSequence" (some 0) with
  accessFlags := 1537
  interfaces := #[]
  cf := some (fileOf pool4 2 #[.nestMembers #[47, 59]] #[] 1537 66 #[] #[])
  fields := #[]
  methods := #[]
  instanceTypes := #[]
  staticTypes := #[]
  resolved := Array.replicate 131 none
  statics := none }

def pool5 : Array CpInfo := pool [(1, .class_ 2), (0, u "java/lang/constant/Constable"), (0, .class_ 4), (0, u "java/lang/Object")] 6

/-- java/lang/constant/Constable -/
def k5 : Class := { plain "java/lang/constant/Constable" (some 0) with
  accessFlags := 1537
  interfaces := #[]
  cf := some (fileOf pool5 1 #[] #[] 1537 3 #[] #[])
  fields := #[]
  methods := #[]
  instanceTypes := #[]
  staticTypes := #[]
  resolved := Array.replicate 11 none
  statics := none }

def pool6 : Array CpInfo := pool [(1, .class_ 2), (0, u "java/lang/constant/ConstantDesc"), (0, .class_ 4), (0, u "java/lang/Object")] 32

/-- java/lang/constant/ConstantDesc -/
def k6 : Class := { plain "java/lang/constant/ConstantDesc" (some 0) with
  accessFlags := 1537
  interfaces := #[]
  cf := some (fileOf pool6 1 #[] #[] 1537 3 #[] #[])
  fields := #[]
  methods := #[]
  instanceTypes := #[]
  staticTypes := #[]
  resolved := Array.replicate 37 none
  statics := none }

def pool7 : Array CpInfo := pool [(1, .methodref 2 3), (0, .class_ 4), (0, .nameAndType 5 6), (0, u "java/lang/Object"), (0, u "<init>"), (0, u "()V"), (2, .fieldref 10 11), (0, .class_ 12), (0, .nameAndType 13 14), (0, u "java/lang/String"), (0, u "value"), (0, u "[B"), (0, .fieldref 10 16), (0, .nameAndType 17 18), (0, u "coder"), (0, u "B"), (2, u "hash"), (0, u "I"), (2, u "hashIsZero"), (0, u "Z"), (0, .methodref 10 28), (0, .nameAndType 5 29), (0, u "([CIILjava/lang/Void;)V"), (8, .fieldref 10 39), (0, .nameAndType 40 26), (0, u "COMPACT_STRINGS"), (1, .class_ 44), (1, u "java/lang/StringUTF16"), (0, u "compress"), (1, .methodref 42 48), (0, .nameAndType 49 50), (0, u "coderFromArrayLen"), (0, u "([BI)B"), (2, u "toBytes"), (53, .class_ 109), (1, u "java/lang/StringLatin1"), (67, .methodref 42 178), (0, .nameAndType 45 179), (0, u "([CII)[B"), (29, .methodref 10 210), (0, .nameAndType 5 211), (0, u "([BB)V"), (157, u "(C)Z"), (205, .class_ 576), (0, u "java/lang/CharSequence"), (22, u "CASE_INSENSITIVE_ORDER"), (0, u "Ljava/util/Comparator;"), (181, u "valueOf"), (0, u "(C)Ljava/lang/String;"), (226, u "([C)V"), (4, .methodref 107 1016), (0, .nameAndType 1017 369), (0, u "canEncode"), (0, .methodref 107 1019), (0, .nameAndType 53 1020), (0, u "(C)[B"), (80, u "serialPersistentFields"), (0, u "[Ljava/io/ObjectStreamField;"), (0, .class_ 1104), (0, u "java/lang/String$CaseInsensitiveComparator"), (1, .class_ 1107), (0, u "java/io/Serializable"), (0, .class_ 1109), (0, u "java/lang/Comparable"), (0, .class_ 1111), (0, u "java/lang/constant/Constable"), (0, .class_ 1113), (0, u "java/lang/constant/ConstantDesc"), (2, u "serialVersionUID"), (0, u "J"), (3, u "REPL"), (0, u "C"), (2, u "LATIN1"), (1, u "UTF16")] 323

def k7m0 : Method := { name := "<init>", desc := "()V", sig := { parameters := [], returnType := none }, accessFlags := 1, code := none }
def k7c1 : Code := { maxStack := 5, maxLocals := 2, code := jdk_42_method_3_code, exceptionTable := #[], attributes := #[] }
def k7m1 : Method := { name := "<init>", desc := "([C)V", sig := { parameters := [(.array .char)], returnType := none }, accessFlags := 1, code := some k7c1 }
def k7c2 : Code := { maxStack := 4, maxLocals := 1, code := jdk_42_method_139_code, exceptionTable := #[], attributes := #[] }
def k7m2 : Method := { name := "valueOf", desc := "(C)Ljava/lang/String;", sig := { parameters := [.char], returnType := some (.object "java/lang/String") }, accessFlags := 9, code := some k7c2 }
def k7c3 : Code := { maxStack := 4, maxLocals := 6, code := jdk_42_method_149_code, exceptionTable := #[], attributes := #[] }
def k7m3 : Method := { name := "<init>", desc := "([CIILjava/lang/Void;)V", sig := { parameters := [(.array .char), .int, .int, (.object "java/lang/Void")], returnType := none }, accessFlags := 2, code := some k7c3 }
def k7c4 : Code := { maxStack := 2, maxLocals := 3, code := jdk_42_method_151_code, exceptionTable := #[], attributes := #[] }
def k7m4 : Method := { name := "<init>", desc := "([BB)V", sig := { parameters := [(.array .byte), .byte], returnType := none }, accessFlags := 0, code := some k7c4 }
/-- java/lang/String -/
def k7 : Class := { plain "java/lang/String" (some 0) with
  accessFlags := 49
  interfaces := #[2, 3, 4, 5, 6]
  cf := some (fileOf pool7 10 #[.nestMembers #[1103]] #[{ accessFlags := 1, nameIndex := 5, descriptorIndex := 6, attributes := #[] }, { accessFlags := 1, nameIndex := 5, descriptorIndex := 1010, attributes := #[] }, { accessFlags := 9, nameIndex := 782, descriptorIndex := 783, attributes := #[] }, { accessFlags := 2, nameIndex := 5, descriptorIndex := 29, attributes := #[] }, { accessFlags := 0, nameIndex := 5, descriptorIndex := 211, attributes := #[] }] 49 2 #[1106, 1108, 575, 1110, 1112] #[{ accessFlags := 18, nameIndex := 13, descriptorIndex := 14, attributes := #[] }, { accessFlags := 18, nameIndex := 17, descriptorIndex := 18, attributes := #[] }, { accessFlags := 2, nameIndex := 21, descriptorIndex := 22, attributes := #[] }, { accessFlags := 2, nameIndex := 25, descriptorIndex := 26, attributes := #[] }, { accessFlags := 26, nameIndex := 1116, descriptorIndex := 1117, attributes := #[] }, { accessFlags := 24, nameIndex := 40, descriptorIndex := 26, attributes := #[] }, { accessFlags := 26, nameIndex := 1101, descriptorIndex := 1102, attributes := #[] }, { accessFlags := 26, nameIndex := 1121, descriptorIndex := 1122, attributes := #[] }, { accessFlags := 25, nameIndex := 599, descriptorIndex := 600, attributes := #[] }, { accessFlags := 24, nameIndex := 1125, descriptorIndex := 18, attributes := #[] }, { accessFlags := 24, nameIndex := 1127, descriptorIndex := 18, attributes := #[] }])
  fields := #[{ name := "value", type := (.array .byte), accessFlags := 18, slot := 0, constantValue := 0 }, { name := "coder", type := .byte, accessFlags := 18, slot := 1, constantValue := 0 }, { name := "hash", type := .int, accessFlags := 2, slot := 2, constantValue := 0 }, { name := "hashIsZero", type := .boolean, accessFlags := 2, slot := 3, constantValue := 0 }, { name := "serialVersionUID", type := .long, accessFlags := 26, slot := 0, constantValue := 0 }, { name := "COMPACT_STRINGS", type := .boolean, accessFlags := 24, slot := 1, constantValue := 0 }, { name := "serialPersistentFields", type := (.array (.object "java/io/ObjectStreamField")), accessFlags := 26, slot := 2, constantValue := 0 }, { name := "REPL", type := .char, accessFlags := 26, slot := 3, constantValue := 0 }, { name := "CASE_INSENSITIVE_ORDER", type := (.object "java/util/Comparator"), accessFlags := 25, slot := 4, constantValue := 0 }, { name := "LATIN1", type := .byte, accessFlags := 24, slot := 5, constantValue := 0 }, { name := "UTF16", type := .byte, accessFlags := 24, slot := 6, constantValue := 0 }]
  methods := #[k7m0, k7m1, k7m2, k7m3, k7m4]
  instanceTypes := #[(.array .byte), .byte, .int, .boolean]
  staticTypes := #[.long, .boolean, (.array (.object "java/io/ObjectStreamField")), .char, (.object "java/util/Comparator"), .byte, .byte]
  resolved := Array.replicate 1451 none
  statics := some 0 }

def pool8 : Array CpInfo := pool [(4, .class_ 6), (1, u "java/lang/Object"), (0, u "<init>"), (0, u "()V"), (5, .class_ 16), (1, u "java/lang/StringLatin1"), (73, u "canEncode"), (14, u "(C)Z"), (15, u "$assertionsDisabled"), (0, u "Z"), (98, .class_ 223), (1, u "java/lang/StringLatin1$LinesSpliterator"), (156, u "toBytes"), (1, u "(C)[B"), (7, .class_ 391), (0, u "java/lang/StringLatin1$CharsSpliterator")] 3

def k8m0 : Method := { name := "<init>", desc := "()V", sig := { parameters := [], returnType := none }, accessFlags := 0, code := none }
def k8c1 : Code := { maxStack := 2, maxLocals := 1, code := jdk_43_method_3_code, exceptionTable := #[], attributes := #[] }
def k8m1 : Method := { name := "canEncode", desc := "(C)Z", sig := { parameters := [.char], returnType := some .boolean }, accessFlags := 9, code := some k8c1 }
def k8c2 : Code := { maxStack := 4, maxLocals := 1, code := jdk_43_method_46_code, exceptionTable := #[], attributes := #[] }
def k8m2 : Method := { name := "toBytes", desc := "(C)[B", sig := { parameters := [.char], returnType := some (.array .byte) }, accessFlags := 9, code := some k8c2 }
/-- java/lang/StringLatin1 -/
def k8 : Class := { plain "java/lang/StringLatin1" (some 0) with
  accessFlags := 48
  interfaces := #[]
  cf := some (fileOf pool8 14 #[.nestMembers #[390, 221]] #[{ accessFlags := 0, nameIndex := 7, descriptorIndex := 8, attributes := #[] }, { accessFlags := 9, nameIndex := 90, descriptorIndex := 105, attributes := #[] }, { accessFlags := 9, nameIndex := 380, descriptorIndex := 382, attributes := #[] }] 48 4 #[] #[{ accessFlags := 4120, nameIndex := 121, descriptorIndex := 122, attributes := #[] }])
  fields := #[{ name := "$assertionsDisabled", type := .boolean, accessFlags := 4120, slot := 0, constantValue := 0 }]
  methods := #[k8m0, k8m1, k8m2]
  instanceTypes := #[]
  staticTypes := #[.boolean]
  resolved := Array.replicate 395 none
  statics := none }

def pool9 : Array CpInfo := pool [(2, .class_ 4), (1, u "java/lang/Object"), (0, u "<init>"), (0, u "()V"), (40, .class_ 48), (0, u "com/example/liken2/liken2/cli/Arguments"), (0, u "DEFAULT_TIMEOUT_SECONDS"), (0, u "J"), (13, u "once"), (0, u "(Ljava/lang/Object;Ljava/lang/Object;Ljava/lang/String;)Ljava/lang/Object;")] 25

def k9m0 : Method := { name := "<init>", desc := "()V", sig := { parameters := [], returnType := none }, accessFlags := 2, code := none }
def k9c1 : Code := { maxStack := 3, maxLocals := 3, code := prog_1_method_4_code, exceptionTable := #[], attributes := #[] }
def k9m1 : Method := { name := "once", desc := "(Ljava/lang/Object;Ljava/lang/Object;Ljava/lang/String;)Ljava/lang/Object;", sig := { parameters := [(.object "java/lang/Object"), (.object "java/lang/Object"), (.object "java/lang/String")], returnType := some (.object "java/lang/Object") }, accessFlags := 8, code := some k9c1 }
/-- com/example/liken2/liken2/cli/Arguments -/
def k9 : Class := { plain "com/example/liken2/liken2/cli/Arguments" (some 0) with
  accessFlags := 32
  interfaces := #[]
  cf := some (fileOf pool9 47 #[] #[{ accessFlags := 2, nameIndex := 5, descriptorIndex := 6, attributes := #[] }, { accessFlags := 8, nameIndex := 64, descriptorIndex := 65, attributes := #[] }] 32 2 #[] #[{ accessFlags := 24, nameIndex := 49, descriptorIndex := 50, attributes := #[] }])
  fields := #[{ name := "DEFAULT_TIMEOUT_SECONDS", type := .long, accessFlags := 24, slot := 0, constantValue := 0 }]
  methods := #[k9m0, k9m1]
  instanceTypes := #[]
  staticTypes := #[.long]
  resolved := Array.replicate 91 none
  statics := none }

def pool10 : Array CpInfo := pool [(1, .methodref 2 3), (0, .class_ 4), (0, .nameAndType 5 6), (0, u "java/lang/Object"), (0, u "<init>"), (0, u "()V"), (1, .class_ 10), (1, u "java/lang/Number"), (2, .class_ 14), (0, u "java/io/Serializable"), (0, u "serialVersionUID"), (0, u "J")] 20

def k10c0 : Code := { maxStack := 1, maxLocals := 1, code := jdk_18_method_1_code, exceptionTable := #[], attributes := #[] }
def k10m0 : Method := { name := "<init>", desc := "()V", sig := { parameters := [], returnType := none }, accessFlags := 1, code := some k10c0 }
/-- java/lang/Number -/
def k10 : Class := { plain "java/lang/Number" (some 0) with
  accessFlags := 1057
  interfaces := #[2]
  cf := some (fileOf pool10 8 #[] #[{ accessFlags := 1, nameIndex := 5, descriptorIndex := 6, attributes := #[] }] 1057 2 #[13] #[{ accessFlags := 26, nameIndex := 15, descriptorIndex := 16, attributes := #[] }])
  fields := #[{ name := "serialVersionUID", type := .long, accessFlags := 26, slot := 0, constantValue := 0 }]
  methods := #[k10m0]
  instanceTypes := #[]
  staticTypes := #[.long]
  resolved := Array.replicate 37 none
  statics := none }

def pool11 : Array CpInfo := pool [(1, .class_ 2), (0, u "java/lang/Integer"), (16, u "digits"), (0, u "[C"), (46, u "<init>"), (17, u "DigitOnes"), (0, u "[B"), (2, u "DigitTens"), (10, .nameAndType 67 101), (0, u "()V"), (85, u "valueOf"), (0, u "(I)Ljava/lang/Integer;"), (0, .class_ 190), (0, u "java/lang/Integer$IntegerCache"), (0, .fieldref 189 192), (0, .nameAndType 193 194), (0, u "high"), (0, u "I"), (0, .fieldref 189 196), (0, .nameAndType 197 198), (0, u "cache"), (0, u "[Ljava/lang/Integer;"), (0, .methodref 1 200), (0, .nameAndType 67 201), (0, u "(I)V"), (0, .methodref 203 100), (0, .class_ 204), (0, u "java/lang/Number"), (0, .fieldref 1 206), (0, .nameAndType 207 194), (0, u "value"), (94, u "TYPE"), (0, u "Ljava/lang/Class;"), (0, .class_ 305), (0, u "java/lang/Comparable"), (0, .class_ 307), (0, u "java/lang/constant/Constable"), (0, .class_ 309), (0, u "java/lang/constant/ConstantDesc"), (0, u "MIN_VALUE"), (1, u "MAX_VALUE"), (3, u "SIZE"), (1, u "BYTES"), (1, u "serialVersionUID"), (0, u "J")] 131

def k11c0 : Code := { maxStack := 3, maxLocals := 1, code := jdk_33_method_22_code, exceptionTable := #[], attributes := #[] }
def k11m0 : Method := { name := "valueOf", desc := "(I)Ljava/lang/Integer;", sig := { parameters := [.int], returnType := some (.object "java/lang/Integer") }, accessFlags := 9, code := some k11c0 }
def k11c1 : Code := { maxStack := 2, maxLocals := 2, code := jdk_33_method_23_code, exceptionTable := #[], attributes := #[] }
def k11m1 : Method := { name := "<init>", desc := "(I)V", sig := { parameters := [.int], returnType := none }, accessFlags := 1, code := some k11c1 }
/-- java/lang/Integer -/
def k11 : Class := { plain "java/lang/Integer" (some 10) with
  accessFlags := 49
  interfaces := #[3, 5, 6]
  cf := some (fileOf pool11 1 #[.nestMembers #[189]] #[{ accessFlags := 9, nameIndex := 187, descriptorIndex := 188, attributes := #[] }, { accessFlags := 1, nameIndex := 67, descriptorIndex := 201, attributes := #[] }] 49 203 #[304, 306, 308] #[{ accessFlags := 25, nameIndex := 310, descriptorIndex := 194, attributes := #[] }, { accessFlags := 25, nameIndex := 312, descriptorIndex := 194, attributes := #[] }, { accessFlags := 25, nameIndex := 302, descriptorIndex := 303, attributes := #[] }, { accessFlags := 24, nameIndex := 19, descriptorIndex := 20, attributes := #[] }, { accessFlags := 24, nameIndex := 89, descriptorIndex := 86, attributes := #[] }, { accessFlags := 24, nameIndex := 85, descriptorIndex := 86, attributes := #[] }, { accessFlags := 18, nameIndex := 207, descriptorIndex := 194, attributes := #[] }, { accessFlags := 25, nameIndex := 316, descriptorIndex := 194, attributes := #[] }, { accessFlags := 25, nameIndex := 318, descriptorIndex := 194, attributes := #[] }, { accessFlags := 26, nameIndex := 320, descriptorIndex := 321, attributes := #[] }])
  fields := #[{ name := "MIN_VALUE", type := .int, accessFlags := 25, slot := 0, constantValue := 0 }, { name := "MAX_VALUE", type := .int, accessFlags := 25, slot := 1, constantValue := 0 }, { name := "TYPE", type := (.object "java/lang/Class"), accessFlags := 25, slot := 2, constantValue := 0 }, { name := "digits", type := (.array .char), accessFlags := 24, slot := 3, constantValue := 0 }, { name := "DigitTens", type := (.array .byte), accessFlags := 24, slot := 4, constantValue := 0 }, { name := "DigitOnes", type := (.array .byte), accessFlags := 24, slot := 5, constantValue := 0 }, { name := "value", type := .int, accessFlags := 18, slot := 0, constantValue := 0 }, { name := "SIZE", type := .int, accessFlags := 25, slot := 6, constantValue := 0 }, { name := "BYTES", type := .int, accessFlags := 25, slot := 7, constantValue := 0 }, { name := "serialVersionUID", type := .long, accessFlags := 26, slot := 8, constantValue := 0 }]
  methods := #[k11m0, k11m1]
  instanceTypes := #[.int]
  staticTypes := #[.int, .int, (.object "java/lang/Class"), (.array .char), (.array .byte), (.array .byte), .int, .int, .long]
  resolved := Array.replicate 453 none
  statics := none }

def pool12 : Array CpInfo := pool [(2, .class_ 4), (1, u "java/lang/Object"), (0, u "<init>"), (0, u "()V"), (0, .class_ 8), (0, u "java/lang/Integer"), (7, .class_ 18), (1, u "java/lang/Integer$IntegerCache"), (0, u "$assertionsDisabled"), (0, u "Z"), (26, u "high"), (0, u "I"), (8, u "archivedCache"), (0, u "[Ljava/lang/Integer;"), (12, u "cache"), (0, u "low")] 27

def k12m0 : Method := { name := "<init>", desc := "()V", sig := { parameters := [], returnType := none }, accessFlags := 2, code := none }
/-- java/lang/Integer$IntegerCache -/
def k12 : Class := { plain "java/lang/Integer$IntegerCache" (some 0) with
  accessFlags := 48
  interfaces := #[]
  cf := some (fileOf pool12 16 #[.nestHost 7] #[{ accessFlags := 2, nameIndex := 5, descriptorIndex := 6, attributes := #[] }] 48 2 #[] #[{ accessFlags := 24, nameIndex := 72, descriptorIndex := 48, attributes := #[] }, { accessFlags := 24, nameIndex := 47, descriptorIndex := 48, attributes := #[] }, { accessFlags := 24, nameIndex := 71, descriptorIndex := 58, attributes := #[] }, { accessFlags := 8, nameIndex := 57, descriptorIndex := 58, attributes := #[] }, { accessFlags := 4120, nameIndex := 19, descriptorIndex := 20, attributes := #[] }])
  fields := #[{ name := "low", type := .int, accessFlags := 24, slot := 0, constantValue := 0 }, { name := "high", type := .int, accessFlags := 24, slot := 1, constantValue := 0 }, { name := "cache", type := (.array (.object "java/lang/Integer")), accessFlags := 24, slot := 2, constantValue := 0 }, { name := "archivedCache", type := (.array (.object "java/lang/Integer")), accessFlags := 8, slot := 3, constantValue := 0 }, { name := "$assertionsDisabled", type := .boolean, accessFlags := 4120, slot := 4, constantValue := 0 }]
  methods := #[k12m0]
  instanceTypes := #[]
  staticTypes := #[.int, .int, (.array (.object "java/lang/Integer")), (.array (.object "java/lang/Integer")), .boolean]
  resolved := Array.replicate 100 none
  statics := some 1 }

def pool13 : Array CpInfo := pool [(6, .class_ 8), (1, u "java/lang/Object"), (0, u "<init>"), (0, u "()V"), (1, .class_ 14), (1, u "java/lang/StringUTF16"), (31, u "$assertionsDisabled"), (0, u "Z"), (13, u "HI_BYTE_SHIFT"), (0, u "I"), (2, u "LO_BYTE_SHIFT"), (49, .methodref 12 116), (0, .nameAndType 117 118), (0, u "compress"), (0, u "([CI[BII)I"), (3, u "([CII)[B"), (138, u "coderFromArrayLen"), (0, u "([BI)B"), (106, .class_ 371), (1, u "java/lang/StringUTF16$LinesSpliterator"), (58, u "MAX_LENGTH"), (196, .class_ 628), (0, u "java/lang/StringUTF16$CodePointsSpliterator"), (0, .class_ 630), (0, u "java/lang/StringUTF16$CharsSpliterator")] 4

def k13m0 : Method := { name := "<init>", desc := "()V", sig := { parameters := [], returnType := none }, accessFlags := 0, code := none }
def k13c1 : Code := { maxStack := 2, maxLocals := 2, code := jdk_52_method_15_code, exceptionTable := #[], attributes := #[] }
def k13m1 : Method := { name := "coderFromArrayLen", desc := "([BI)B", sig := { parameters := [(.array .byte), .int], returnType := some .byte }, accessFlags := 8, code := some k13c1 }
def k13c2 : Code := { maxStack := 5, maxLocals := 6, code := jdk_52_method_16_code, exceptionTable := #[], attributes := #[] }
def k13m2 : Method := { name := "compress", desc := "([CII)[B", sig := { parameters := [(.array .char), .int, .int], returnType := some (.array .byte) }, accessFlags := 9, code := some k13c2 }
def k13c3 : Code := { maxStack := 3, maxLocals := 7, code := jdk_52_method_21_code, exceptionTable := #[], attributes := #[] }
def k13m3 : Method := { name := "compress", desc := "([CI[BII)I", sig := { parameters := [(.array .char), .int, (.array .byte), .int, .int], returnType := some .int }, accessFlags := 9, code := some k13c3 }
/-- java/lang/StringUTF16 -/
def k13 : Class := { plain "java/lang/StringUTF16" (some 0) with
  accessFlags := 48
  interfaces := #[]
  cf := some (fileOf pool13 12 #[.nestMembers #[627, 629, 369]] #[{ accessFlags := 0, nameIndex := 9, descriptorIndex := 10, attributes := #[] }, { accessFlags := 8, nameIndex := 261, descriptorIndex := 262, attributes := #[] }, { accessFlags := 9, nameIndex := 117, descriptorIndex := 122, attributes := #[] }, { accessFlags := 9, nameIndex := 117, descriptorIndex := 118, attributes := #[] }] 48 6 #[] #[{ accessFlags := 26, nameIndex := 61, descriptorIndex := 62, attributes := #[] }, { accessFlags := 26, nameIndex := 65, descriptorIndex := 62, attributes := #[] }, { accessFlags := 24, nameIndex := 430, descriptorIndex := 62, attributes := #[] }, { accessFlags := 4120, nameIndex := 46, descriptorIndex := 47, attributes := #[] }])
  fields := #[{ name := "HI_BYTE_SHIFT", type := .int, accessFlags := 26, slot := 0, constantValue := 0 }, { name := "LO_BYTE_SHIFT", type := .int, accessFlags := 26, slot := 1, constantValue := 0 }, { name := "MAX_LENGTH", type := .int, accessFlags := 24, slot := 2, constantValue := 0 }, { name := "$assertionsDisabled", type := .boolean, accessFlags := 4120, slot := 3, constantValue := 0 }]
  methods := #[k13m0, k13m1, k13m2, k13m3]
  instanceTypes := #[]
  staticTypes := #[.int, .int, .int, .boolean]
  resolved := Array.replicate 635 none
  statics := none }

def pool14 : Array CpInfo := pool [(2, .class_ 4), (1, u "java/lang/Object"), (0, u "<init>"), (0, u "()V"), (17, .class_ 26), (1, u "jdk/internal/util/Preconditions"), (28, .class_ 56), (0, u "jdk/internal/util/Preconditions$4"), (57, .class_ 115), (0, u "jdk/internal/util/Preconditions$1"), (7, u "SIOOBE_FORMATTER"), (0, u "Ljava/util/function/BiFunction;"), (0, .class_ 126), (0, u "jdk/internal/util/Preconditions$2"), (3, u "AIOOBE_FORMATTER"), (0, .class_ 132), (0, u "jdk/internal/util/Preconditions$3"), (3, u "IOOBE_FORMATTER")] 57

def k14m0 : Method := { name := "<init>", desc := "()V", sig := { parameters := [], returnType := none }, accessFlags := 1, code := none }
/-- jdk/internal/util/Preconditions -/
def k14 : Class := { plain "jdk/internal/util/Preconditions" (some 0) with
  accessFlags := 33
  interfaces := #[]
  cf := some (fileOf pool14 24 #[.nestMembers #[55, 131, 125, 114]] #[{ accessFlags := 1, nameIndex := 5, descriptorIndex := 6, attributes := #[] }] 33 2 #[] #[{ accessFlags := 25, nameIndex := 123, descriptorIndex := 124, attributes := #[] }, { accessFlags := 25, nameIndex := 130, descriptorIndex := 124, attributes := #[] }, { accessFlags := 25, nameIndex := 136, descriptorIndex := 124, attributes := #[] }])
  fields := #[{ name := "SIOOBE_FORMATTER", type := (.object "java/util/function/BiFunction"), accessFlags := 25, slot := 0, constantValue := 0 }, { name := "AIOOBE_FORMATTER", type := (.object "java/util/function/BiFunction"), accessFlags := 25, slot := 1, constantValue := 0 }, { name := "IOOBE_FORMATTER", type := (.object "java/util/function/BiFunction"), accessFlags := 25, slot := 2, constantValue := 0 }]
  methods := #[k14m0]
  instanceTypes := #[]
  staticTypes := #[(.object "java/util/function/BiFunction"), (.object "java/util/function/BiFunction"), (.object "java/util/function/BiFunction")]
  resolved := Array.replicate 194 none
  statics := some 2 }

def pool15 : Array CpInfo := pool [(9, u "<init>"), (6, .class_ 18), (1, u "java/lang/Object"), (0, u "()V"), (1, .class_ 23), (1, u "jdk/internal/util/ArraysSupport"), (0, u "LOG2_ARRAY_LONG_INDEX_SCALE"), (0, u "I"), (2, u "U"), (0, u "Ljdk/internal/misc/Unsafe;"), (8, u "BIG_ENDIAN"), (0, u "Z"), (8, u "LOG2_BYTE_BIT_SIZE"), (4, u "LOG2_ARRAY_INT_INDEX_SCALE"), (54, u "JLA"), (0, u "Ljdk/internal/access/JavaLangAccess;"), (11, u "LOG2_ARRAY_BOOLEAN_INDEX_SCALE"), (9, u "LOG2_ARRAY_BYTE_INDEX_SCALE"), (5, u "LOG2_ARRAY_CHAR_INDEX_SCALE"), (5, u "LOG2_ARRAY_SHORT_INDEX_SCALE"), (18, u "LOG2_ARRAY_FLOAT_INDEX_SCALE"), (24, u "LOG2_ARRAY_DOUBLE_INDEX_SCALE"), (89, u "T_BOOLEAN"), (2, u "T_CHAR"), (1, u "T_FLOAT"), (1, u "T_DOUBLE"), (1, u "T_BYTE"), (1, u "T_SHORT"), (1, u "T_INT"), (1, u "T_LONG"), (1, u "SOFT_MAX_ARRAY_LENGTH")] 83

def k15m0 : Method := { name := "<init>", desc := "()V", sig := { parameters := [], returnType := none }, accessFlags := 2, code := none }
/-- jdk/internal/util/ArraysSupport -/
def k15 : Class := { plain "jdk/internal/util/ArraysSupport" (some 0) with
  accessFlags := 33
  interfaces := #[]
  cf := some (fileOf pool15 21 #[] #[{ accessFlags := 2, nameIndex := 9, descriptorIndex := 19, attributes := #[] }] 33 16 #[] #[{ accessFlags := 24, nameIndex := 28, descriptorIndex := 29, attributes := #[] }, { accessFlags := 26, nameIndex := 38, descriptorIndex := 39, attributes := #[] }, { accessFlags := 25, nameIndex := 121, descriptorIndex := 25, attributes := #[] }, { accessFlags := 25, nameIndex := 131, descriptorIndex := 25, attributes := #[] }, { accessFlags := 25, nameIndex := 137, descriptorIndex := 25, attributes := #[] }, { accessFlags := 25, nameIndex := 143, descriptorIndex := 25, attributes := #[] }, { accessFlags := 25, nameIndex := 53, descriptorIndex := 25, attributes := #[] }, { accessFlags := 25, nameIndex := 24, descriptorIndex := 25, attributes := #[] }, { accessFlags := 25, nameIndex := 162, descriptorIndex := 25, attributes := #[] }, { accessFlags := 25, nameIndex := 187, descriptorIndex := 25, attributes := #[] }, { accessFlags := 26, nameIndex := 48, descriptorIndex := 25, attributes := #[] }, { accessFlags := 25, nameIndex := 277, descriptorIndex := 25, attributes := #[] }, { accessFlags := 25, nameIndex := 280, descriptorIndex := 25, attributes := #[] }, { accessFlags := 25, nameIndex := 282, descriptorIndex := 25, attributes := #[] }, { accessFlags := 25, nameIndex := 284, descriptorIndex := 25, attributes := #[] }, { accessFlags := 25, nameIndex := 286, descriptorIndex := 25, attributes := #[] }, { accessFlags := 25, nameIndex := 288, descriptorIndex := 25, attributes := #[] }, { accessFlags := 25, nameIndex := 290, descriptorIndex := 25, attributes := #[] }, { accessFlags := 25, nameIndex := 292, descriptorIndex := 25, attributes := #[] }, { accessFlags := 26, nameIndex := 108, descriptorIndex := 109, attributes := #[] }, { accessFlags := 25, nameIndex := 294, descriptorIndex := 25, attributes := #[] }])
  fields := #[{ name := "U", type := (.object "jdk/internal/misc/Unsafe"), accessFlags := 24, slot := 0, constantValue := 0 }, { name := "BIG_ENDIAN", type := .boolean, accessFlags := 26, slot := 1, constantValue := 0 }, { name := "LOG2_ARRAY_BOOLEAN_INDEX_SCALE", type := .int, accessFlags := 25, slot := 2, constantValue := 0 }, { name := "LOG2_ARRAY_BYTE_INDEX_SCALE", type := .int, accessFlags := 25, slot := 3, constantValue := 0 }, { name := "LOG2_ARRAY_CHAR_INDEX_SCALE", type := .int, accessFlags := 25, slot := 4, constantValue := 0 }, { name := "LOG2_ARRAY_SHORT_INDEX_SCALE", type := .int, accessFlags := 25, slot := 5, constantValue := 0 }, { name := "LOG2_ARRAY_INT_INDEX_SCALE", type := .int, accessFlags := 25, slot := 6, constantValue := 0 }, { name := "LOG2_ARRAY_LONG_INDEX_SCALE", type := .int, accessFlags := 25, slot := 7, constantValue := 0 }, { name := "LOG2_ARRAY_FLOAT_INDEX_SCALE", type := .int, accessFlags := 25, slot := 8, constantValue := 0 }, { name := "LOG2_ARRAY_DOUBLE_INDEX_SCALE", type := .int, accessFlags := 25, slot := 9, constantValue := 0 }, { name := "LOG2_BYTE_BIT_SIZE", type := .int, accessFlags := 26, slot := 10, constantValue := 0 }, { name := "T_BOOLEAN", type := .int, accessFlags := 25, slot := 11, constantValue := 0 }, { name := "T_CHAR", type := .int, accessFlags := 25, slot := 12, constantValue := 0 }, { name := "T_FLOAT", type := .int, accessFlags := 25, slot := 13, constantValue := 0 }, { name := "T_DOUBLE", type := .int, accessFlags := 25, slot := 14, constantValue := 0 }, { name := "T_BYTE", type := .int, accessFlags := 25, slot := 15, constantValue := 0 }, { name := "T_SHORT", type := .int, accessFlags := 25, slot := 16, constantValue := 0 }, { name := "T_INT", type := .int, accessFlags := 25, slot := 17, constantValue := 0 }, { name := "T_LONG", type := .int, accessFlags := 25, slot := 18, constantValue := 0 }, { name := "JLA", type := (.object "jdk/internal/access/JavaLangAccess"), accessFlags := 26, slot := 19, constantValue := 0 }, { name := "SOFT_MAX_ARRAY_LENGTH", type := .int, accessFlags := 25, slot := 20, constantValue := 0 }]
  methods := #[k15m0]
  instanceTypes := #[]
  staticTypes := #[(.object "jdk/internal/misc/Unsafe"), .boolean, .int, .int, .int, .int, .int, .int, .int, .int, .int, .int, .int, .int, .int, .int, .int, .int, .int, (.object "jdk/internal/access/JavaLangAccess"), .int]
  resolved := Array.replicate 378 none
  statics := none }

def pool16 : Array CpInfo := pool [(1, u "java/lang/Cloneable"), (0, .class_ 1), (0, u "java/lang/Object"), (0, .class_ 3)] 3

/-- java/lang/Cloneable -/
def k16 : Class := { plain "java/lang/Cloneable" (some 0) with
  accessFlags := 1537
  interfaces := #[]
  cf := some (fileOf pool16 2 #[] #[] 1537 4 #[] #[])
  fields := #[]
  methods := #[]
  instanceTypes := #[]
  staticTypes := #[]
  resolved := Array.replicate 8 none
  statics := none }

/-- the primitive byte -/
def k17 : Class := { plain "byte" none with kind := .primitive 'B', accessFlags := 0x411 }
/-- [B -/
def k18 : Class := { plain "[B" (some 0) with kind := .array 17 .byte, interfaces := #[16, 2], accessFlags := 1041 }

/-- the primitive char -/
def k19 : Class := { plain "char" none with kind := .primitive 'C', accessFlags := 0x411 }
/-- [C -/
def k20 : Class := { plain "[C" (some 0) with kind := .array 19 .char, interfaces := #[16, 2], accessFlags := 1041 }

/-- the primitive int -/
def k21 : Class := { plain "int" none with kind := .primitive 'I', accessFlags := 0x411 }
/-- [I -/
def k22 : Class := { plain "[I" (some 0) with kind := .array 21 .int, interfaces := #[16, 2], accessFlags := 1041 }

/-- [Ljava/lang/Integer; -/
def k23 : Class := { plain "[Ljava/lang/Integer;" (some 0) with kind := .array 11 (.object "java/lang/Integer"), interfaces := #[16, 2], accessFlags := 1041 }

def heap : Heap := #[{ cls := 7, slots := #[.long 0, .int 1, .null, .int 0, .null, .int 0, .int 0], vm := .statics 7 },
  { cls := 12, slots := #[.int 0, .int 127, .ref 3, .null, .int 0], vm := .statics 12 },
  { cls := 14, slots := #[.null, .null, .null], vm := .statics 14 },
  { cls := 23, slots := #[.ref 4, .ref 5, .ref 6, .ref 7, .ref 8, .ref 9, .ref 10, .ref 11, .ref 12, .ref 13, .ref 14, .ref 15, .ref 16, .ref 17, .ref 18, .ref 19, .ref 20, .ref 21, .ref 22, .ref 23, .ref 24, .ref 25, .ref 26, .ref 27, .ref 28, .ref 29, .ref 30, .ref 31, .ref 32, .ref 33, .ref 34, .ref 35, .ref 36, .ref 37, .ref 38, .ref 39, .ref 40, .ref 41, .ref 42, .ref 43, .ref 44, .ref 45, .ref 46, .ref 47, .ref 48, .ref 49, .ref 50, .ref 51, .ref 52, .ref 53, .ref 54, .ref 55, .ref 56, .ref 57, .ref 58, .ref 59, .ref 60, .ref 61, .ref 62, .ref 63, .ref 64, .ref 65, .ref 66, .ref 67, .ref 68, .ref 69, .ref 70, .ref 71, .ref 72, .ref 73, .ref 74, .ref 75, .ref 76, .ref 77, .ref 78, .ref 79, .ref 80, .ref 81, .ref 82, .ref 83, .ref 84, .ref 85, .ref 86, .ref 87, .ref 88, .ref 89, .ref 90, .ref 91, .ref 92, .ref 93, .ref 94, .ref 95, .ref 96, .ref 97, .ref 98, .ref 99, .ref 100, .ref 101, .ref 102, .ref 103, .ref 104, .ref 105, .ref 106, .ref 107, .ref 108, .ref 109, .ref 110, .ref 111, .ref 112, .ref 113, .ref 114, .ref 115, .ref 116, .ref 117, .ref 118, .ref 119, .ref 120, .ref 121, .ref 122, .ref 123, .ref 124, .ref 125, .ref 126, .ref 127, .ref 128, .ref 129, .ref 130, .ref 131, .ref 132, .ref 133, .ref 134, .ref 135, .ref 136, .ref 137, .ref 138, .ref 139, .ref 140, .ref 141, .ref 142, .ref 143, .ref 144, .ref 145, .ref 146, .ref 147, .ref 148, .ref 149, .ref 150, .ref 151, .ref 152, .ref 153, .ref 154, .ref 155, .ref 156, .ref 157, .ref 158, .ref 159, .ref 160, .ref 161, .ref 162, .ref 163, .ref 164, .ref 165, .ref 166, .ref 167, .ref 168, .ref 169, .ref 170, .ref 171, .ref 172, .ref 173, .ref 174, .ref 175, .ref 176, .ref 177, .ref 178, .ref 179, .ref 180, .ref 181, .ref 182, .ref 183, .ref 184, .ref 185, .ref 186, .ref 187, .ref 188, .ref 189, .ref 190, .ref 191, .ref 192, .ref 193, .ref 194, .ref 195, .ref 196, .ref 197, .ref 198, .ref 199, .ref 200, .ref 201, .ref 202, .ref 203, .ref 204, .ref 205, .ref 206, .ref 207, .ref 208, .ref 209, .ref 210, .ref 211, .ref 212, .ref 213, .ref 214, .ref 215, .ref 216, .ref 217, .ref 218, .ref 219, .ref 220, .ref 221, .ref 222, .ref 223, .ref 224, .ref 225, .ref 226, .ref 227, .ref 228, .ref 229, .ref 230, .ref 231, .ref 232, .ref 233, .ref 234, .ref 235, .ref 236, .ref 237, .ref 238, .ref 239, .ref 240, .ref 241, .ref 242, .ref 243, .ref 244, .ref 245, .ref 246, .ref 247, .ref 248, .ref 249, .ref 250, .ref 251, .ref 252, .ref 253, .ref 254, .ref 255, .ref 256, .ref 257, .ref 258, .ref 259], vm := .none },
  { cls := 11, slots := #[.int (-128)], vm := .none },
  { cls := 11, slots := #[.int (-127)], vm := .none },
  { cls := 11, slots := #[.int (-126)], vm := .none },
  { cls := 11, slots := #[.int (-125)], vm := .none },
  { cls := 11, slots := #[.int (-124)], vm := .none },
  { cls := 11, slots := #[.int (-123)], vm := .none },
  { cls := 11, slots := #[.int (-122)], vm := .none },
  { cls := 11, slots := #[.int (-121)], vm := .none },
  { cls := 11, slots := #[.int (-120)], vm := .none },
  { cls := 11, slots := #[.int (-119)], vm := .none },
  { cls := 11, slots := #[.int (-118)], vm := .none },
  { cls := 11, slots := #[.int (-117)], vm := .none },
  { cls := 11, slots := #[.int (-116)], vm := .none },
  { cls := 11, slots := #[.int (-115)], vm := .none },
  { cls := 11, slots := #[.int (-114)], vm := .none },
  { cls := 11, slots := #[.int (-113)], vm := .none },
  { cls := 11, slots := #[.int (-112)], vm := .none },
  { cls := 11, slots := #[.int (-111)], vm := .none },
  { cls := 11, slots := #[.int (-110)], vm := .none },
  { cls := 11, slots := #[.int (-109)], vm := .none },
  { cls := 11, slots := #[.int (-108)], vm := .none },
  { cls := 11, slots := #[.int (-107)], vm := .none },
  { cls := 11, slots := #[.int (-106)], vm := .none },
  { cls := 11, slots := #[.int (-105)], vm := .none },
  { cls := 11, slots := #[.int (-104)], vm := .none },
  { cls := 11, slots := #[.int (-103)], vm := .none },
  { cls := 11, slots := #[.int (-102)], vm := .none },
  { cls := 11, slots := #[.int (-101)], vm := .none },
  { cls := 11, slots := #[.int (-100)], vm := .none },
  { cls := 11, slots := #[.int (-99)], vm := .none },
  { cls := 11, slots := #[.int (-98)], vm := .none },
  { cls := 11, slots := #[.int (-97)], vm := .none },
  { cls := 11, slots := #[.int (-96)], vm := .none },
  { cls := 11, slots := #[.int (-95)], vm := .none },
  { cls := 11, slots := #[.int (-94)], vm := .none },
  { cls := 11, slots := #[.int (-93)], vm := .none },
  { cls := 11, slots := #[.int (-92)], vm := .none },
  { cls := 11, slots := #[.int (-91)], vm := .none },
  { cls := 11, slots := #[.int (-90)], vm := .none },
  { cls := 11, slots := #[.int (-89)], vm := .none },
  { cls := 11, slots := #[.int (-88)], vm := .none },
  { cls := 11, slots := #[.int (-87)], vm := .none },
  { cls := 11, slots := #[.int (-86)], vm := .none },
  { cls := 11, slots := #[.int (-85)], vm := .none },
  { cls := 11, slots := #[.int (-84)], vm := .none },
  { cls := 11, slots := #[.int (-83)], vm := .none },
  { cls := 11, slots := #[.int (-82)], vm := .none },
  { cls := 11, slots := #[.int (-81)], vm := .none },
  { cls := 11, slots := #[.int (-80)], vm := .none },
  { cls := 11, slots := #[.int (-79)], vm := .none },
  { cls := 11, slots := #[.int (-78)], vm := .none },
  { cls := 11, slots := #[.int (-77)], vm := .none },
  { cls := 11, slots := #[.int (-76)], vm := .none },
  { cls := 11, slots := #[.int (-75)], vm := .none },
  { cls := 11, slots := #[.int (-74)], vm := .none },
  { cls := 11, slots := #[.int (-73)], vm := .none },
  { cls := 11, slots := #[.int (-72)], vm := .none },
  { cls := 11, slots := #[.int (-71)], vm := .none },
  { cls := 11, slots := #[.int (-70)], vm := .none },
  { cls := 11, slots := #[.int (-69)], vm := .none },
  { cls := 11, slots := #[.int (-68)], vm := .none },
  { cls := 11, slots := #[.int (-67)], vm := .none },
  { cls := 11, slots := #[.int (-66)], vm := .none },
  { cls := 11, slots := #[.int (-65)], vm := .none },
  { cls := 11, slots := #[.int (-64)], vm := .none },
  { cls := 11, slots := #[.int (-63)], vm := .none },
  { cls := 11, slots := #[.int (-62)], vm := .none },
  { cls := 11, slots := #[.int (-61)], vm := .none },
  { cls := 11, slots := #[.int (-60)], vm := .none },
  { cls := 11, slots := #[.int (-59)], vm := .none },
  { cls := 11, slots := #[.int (-58)], vm := .none },
  { cls := 11, slots := #[.int (-57)], vm := .none },
  { cls := 11, slots := #[.int (-56)], vm := .none },
  { cls := 11, slots := #[.int (-55)], vm := .none },
  { cls := 11, slots := #[.int (-54)], vm := .none },
  { cls := 11, slots := #[.int (-53)], vm := .none },
  { cls := 11, slots := #[.int (-52)], vm := .none },
  { cls := 11, slots := #[.int (-51)], vm := .none },
  { cls := 11, slots := #[.int (-50)], vm := .none },
  { cls := 11, slots := #[.int (-49)], vm := .none },
  { cls := 11, slots := #[.int (-48)], vm := .none },
  { cls := 11, slots := #[.int (-47)], vm := .none },
  { cls := 11, slots := #[.int (-46)], vm := .none },
  { cls := 11, slots := #[.int (-45)], vm := .none },
  { cls := 11, slots := #[.int (-44)], vm := .none },
  { cls := 11, slots := #[.int (-43)], vm := .none },
  { cls := 11, slots := #[.int (-42)], vm := .none },
  { cls := 11, slots := #[.int (-41)], vm := .none },
  { cls := 11, slots := #[.int (-40)], vm := .none },
  { cls := 11, slots := #[.int (-39)], vm := .none },
  { cls := 11, slots := #[.int (-38)], vm := .none },
  { cls := 11, slots := #[.int (-37)], vm := .none },
  { cls := 11, slots := #[.int (-36)], vm := .none },
  { cls := 11, slots := #[.int (-35)], vm := .none },
  { cls := 11, slots := #[.int (-34)], vm := .none },
  { cls := 11, slots := #[.int (-33)], vm := .none },
  { cls := 11, slots := #[.int (-32)], vm := .none },
  { cls := 11, slots := #[.int (-31)], vm := .none },
  { cls := 11, slots := #[.int (-30)], vm := .none },
  { cls := 11, slots := #[.int (-29)], vm := .none },
  { cls := 11, slots := #[.int (-28)], vm := .none },
  { cls := 11, slots := #[.int (-27)], vm := .none },
  { cls := 11, slots := #[.int (-26)], vm := .none },
  { cls := 11, slots := #[.int (-25)], vm := .none },
  { cls := 11, slots := #[.int (-24)], vm := .none },
  { cls := 11, slots := #[.int (-23)], vm := .none },
  { cls := 11, slots := #[.int (-22)], vm := .none },
  { cls := 11, slots := #[.int (-21)], vm := .none },
  { cls := 11, slots := #[.int (-20)], vm := .none },
  { cls := 11, slots := #[.int (-19)], vm := .none },
  { cls := 11, slots := #[.int (-18)], vm := .none },
  { cls := 11, slots := #[.int (-17)], vm := .none },
  { cls := 11, slots := #[.int (-16)], vm := .none },
  { cls := 11, slots := #[.int (-15)], vm := .none },
  { cls := 11, slots := #[.int (-14)], vm := .none },
  { cls := 11, slots := #[.int (-13)], vm := .none },
  { cls := 11, slots := #[.int (-12)], vm := .none },
  { cls := 11, slots := #[.int (-11)], vm := .none },
  { cls := 11, slots := #[.int (-10)], vm := .none },
  { cls := 11, slots := #[.int (-9)], vm := .none },
  { cls := 11, slots := #[.int (-8)], vm := .none },
  { cls := 11, slots := #[.int (-7)], vm := .none },
  { cls := 11, slots := #[.int (-6)], vm := .none },
  { cls := 11, slots := #[.int (-5)], vm := .none },
  { cls := 11, slots := #[.int (-4)], vm := .none },
  { cls := 11, slots := #[.int (-3)], vm := .none },
  { cls := 11, slots := #[.int (-2)], vm := .none },
  { cls := 11, slots := #[.int (-1)], vm := .none },
  { cls := 11, slots := #[.int (0)], vm := .none },
  { cls := 11, slots := #[.int (1)], vm := .none },
  { cls := 11, slots := #[.int (2)], vm := .none },
  { cls := 11, slots := #[.int (3)], vm := .none },
  { cls := 11, slots := #[.int (4)], vm := .none },
  { cls := 11, slots := #[.int (5)], vm := .none },
  { cls := 11, slots := #[.int (6)], vm := .none },
  { cls := 11, slots := #[.int (7)], vm := .none },
  { cls := 11, slots := #[.int (8)], vm := .none },
  { cls := 11, slots := #[.int (9)], vm := .none },
  { cls := 11, slots := #[.int (10)], vm := .none },
  { cls := 11, slots := #[.int (11)], vm := .none },
  { cls := 11, slots := #[.int (12)], vm := .none },
  { cls := 11, slots := #[.int (13)], vm := .none },
  { cls := 11, slots := #[.int (14)], vm := .none },
  { cls := 11, slots := #[.int (15)], vm := .none },
  { cls := 11, slots := #[.int (16)], vm := .none },
  { cls := 11, slots := #[.int (17)], vm := .none },
  { cls := 11, slots := #[.int (18)], vm := .none },
  { cls := 11, slots := #[.int (19)], vm := .none },
  { cls := 11, slots := #[.int (20)], vm := .none },
  { cls := 11, slots := #[.int (21)], vm := .none },
  { cls := 11, slots := #[.int (22)], vm := .none },
  { cls := 11, slots := #[.int (23)], vm := .none },
  { cls := 11, slots := #[.int (24)], vm := .none },
  { cls := 11, slots := #[.int (25)], vm := .none },
  { cls := 11, slots := #[.int (26)], vm := .none },
  { cls := 11, slots := #[.int (27)], vm := .none },
  { cls := 11, slots := #[.int (28)], vm := .none },
  { cls := 11, slots := #[.int (29)], vm := .none },
  { cls := 11, slots := #[.int (30)], vm := .none },
  { cls := 11, slots := #[.int (31)], vm := .none },
  { cls := 11, slots := #[.int (32)], vm := .none },
  { cls := 11, slots := #[.int (33)], vm := .none },
  { cls := 11, slots := #[.int (34)], vm := .none },
  { cls := 11, slots := #[.int (35)], vm := .none },
  { cls := 11, slots := #[.int (36)], vm := .none },
  { cls := 11, slots := #[.int (37)], vm := .none },
  { cls := 11, slots := #[.int (38)], vm := .none },
  { cls := 11, slots := #[.int (39)], vm := .none },
  { cls := 11, slots := #[.int (40)], vm := .none },
  { cls := 11, slots := #[.int (41)], vm := .none },
  { cls := 11, slots := #[.int (42)], vm := .none },
  { cls := 11, slots := #[.int (43)], vm := .none },
  { cls := 11, slots := #[.int (44)], vm := .none },
  { cls := 11, slots := #[.int (45)], vm := .none },
  { cls := 11, slots := #[.int (46)], vm := .none },
  { cls := 11, slots := #[.int (47)], vm := .none },
  { cls := 11, slots := #[.int (48)], vm := .none },
  { cls := 11, slots := #[.int (49)], vm := .none },
  { cls := 11, slots := #[.int (50)], vm := .none },
  { cls := 11, slots := #[.int (51)], vm := .none },
  { cls := 11, slots := #[.int (52)], vm := .none },
  { cls := 11, slots := #[.int (53)], vm := .none },
  { cls := 11, slots := #[.int (54)], vm := .none },
  { cls := 11, slots := #[.int (55)], vm := .none },
  { cls := 11, slots := #[.int (56)], vm := .none },
  { cls := 11, slots := #[.int (57)], vm := .none },
  { cls := 11, slots := #[.int (58)], vm := .none },
  { cls := 11, slots := #[.int (59)], vm := .none },
  { cls := 11, slots := #[.int (60)], vm := .none },
  { cls := 11, slots := #[.int (61)], vm := .none },
  { cls := 11, slots := #[.int (62)], vm := .none },
  { cls := 11, slots := #[.int (63)], vm := .none },
  { cls := 11, slots := #[.int (64)], vm := .none },
  { cls := 11, slots := #[.int (65)], vm := .none },
  { cls := 11, slots := #[.int (66)], vm := .none },
  { cls := 11, slots := #[.int (67)], vm := .none },
  { cls := 11, slots := #[.int (68)], vm := .none },
  { cls := 11, slots := #[.int (69)], vm := .none },
  { cls := 11, slots := #[.int (70)], vm := .none },
  { cls := 11, slots := #[.int (71)], vm := .none },
  { cls := 11, slots := #[.int (72)], vm := .none },
  { cls := 11, slots := #[.int (73)], vm := .none },
  { cls := 11, slots := #[.int (74)], vm := .none },
  { cls := 11, slots := #[.int (75)], vm := .none },
  { cls := 11, slots := #[.int (76)], vm := .none },
  { cls := 11, slots := #[.int (77)], vm := .none },
  { cls := 11, slots := #[.int (78)], vm := .none },
  { cls := 11, slots := #[.int (79)], vm := .none },
  { cls := 11, slots := #[.int (80)], vm := .none },
  { cls := 11, slots := #[.int (81)], vm := .none },
  { cls := 11, slots := #[.int (82)], vm := .none },
  { cls := 11, slots := #[.int (83)], vm := .none },
  { cls := 11, slots := #[.int (84)], vm := .none },
  { cls := 11, slots := #[.int (85)], vm := .none },
  { cls := 11, slots := #[.int (86)], vm := .none },
  { cls := 11, slots := #[.int (87)], vm := .none },
  { cls := 11, slots := #[.int (88)], vm := .none },
  { cls := 11, slots := #[.int (89)], vm := .none },
  { cls := 11, slots := #[.int (90)], vm := .none },
  { cls := 11, slots := #[.int (91)], vm := .none },
  { cls := 11, slots := #[.int (92)], vm := .none },
  { cls := 11, slots := #[.int (93)], vm := .none },
  { cls := 11, slots := #[.int (94)], vm := .none },
  { cls := 11, slots := #[.int (95)], vm := .none },
  { cls := 11, slots := #[.int (96)], vm := .none },
  { cls := 11, slots := #[.int (97)], vm := .none },
  { cls := 11, slots := #[.int (98)], vm := .none },
  { cls := 11, slots := #[.int (99)], vm := .none },
  { cls := 11, slots := #[.int (100)], vm := .none },
  { cls := 11, slots := #[.int (101)], vm := .none },
  { cls := 11, slots := #[.int (102)], vm := .none },
  { cls := 11, slots := #[.int (103)], vm := .none },
  { cls := 11, slots := #[.int (104)], vm := .none },
  { cls := 11, slots := #[.int (105)], vm := .none },
  { cls := 11, slots := #[.int (106)], vm := .none },
  { cls := 11, slots := #[.int (107)], vm := .none },
  { cls := 11, slots := #[.int (108)], vm := .none },
  { cls := 11, slots := #[.int (109)], vm := .none },
  { cls := 11, slots := #[.int (110)], vm := .none },
  { cls := 11, slots := #[.int (111)], vm := .none },
  { cls := 11, slots := #[.int (112)], vm := .none },
  { cls := 11, slots := #[.int (113)], vm := .none },
  { cls := 11, slots := #[.int (114)], vm := .none },
  { cls := 11, slots := #[.int (115)], vm := .none },
  { cls := 11, slots := #[.int (116)], vm := .none },
  { cls := 11, slots := #[.int (117)], vm := .none },
  { cls := 11, slots := #[.int (118)], vm := .none },
  { cls := 11, slots := #[.int (119)], vm := .none },
  { cls := 11, slots := #[.int (120)], vm := .none },
  { cls := 11, slots := #[.int (121)], vm := .none },
  { cls := 11, slots := #[.int (122)], vm := .none },
  { cls := 11, slots := #[.int (123)], vm := .none },
  { cls := 11, slots := #[.int (124)], vm := .none },
  { cls := 11, slots := #[.int (125)], vm := .none },
  { cls := 11, slots := #[.int (126)], vm := .none },
  { cls := 11, slots := #[.int (127)], vm := .none }]
def classes : Array Class := #[k0, k1, k2, k3, k4, k5, k6, k7, k8, k9, k10, k11, k12, k13, k14, k15, k16, k17, k18, k19, k20, k21, k22, k23]
def interned : List (Array UInt16 × Addr) := []
def slotsUsed : Nat := 527
def theMethod : MethodId := ⟨1, 1⟩
def args0 : Array Value := #[.int 5, .int 6, .int 7, .int 1]
def aboutOver (below : List Frame) : State where
  vm := { classes := classes, interned := interned.toArray }
  heap := heap
  slotsUsed := slotsUsed
  threads := #[{ frames := .invoking theMethod args0 :: below }]
def below0 : List Frame := [.native { method := ⟨0, 0⟩, args := #[] }]
def about1 : State := aboutOver below0
def p0 : Program := .bare "" "" ""
def e0 : Env := launch0.env 0 0 0
theorem w_frames : about1.frames = Frame.invoking theMethod args0 :: below0 := rfl
set_option maxRecDepth 65536 in
theorem w_args : argsFit about1.vm theMethod args0 = true := by decide +kernel
set_option maxRecDepth 65536 in
theorem w_heap : heapFits about1 = true := by decide +kernel
set_option maxRecDepth 65536 in
theorem w_runnable : about1.curStatus? = some .runnable := by decide +kernel
set_option maxRecDepth 65536 in
theorem w_alone : about1.alone = true := by decide +kernel
set_option maxRecDepth 65536 in
theorem w_named : about1.methodNamed? x = some theMethod := by decide +kernel
set_option maxRecDepth 65536 in
theorem w_hears : about1.hears theMethod below0 = true := by decide +kernel
set_option maxRecDepth 65536 in
theorem w_ripe : about1.ripe theMethod args0 below0 = true := by decide +kernel
theorem w_running : about1.status = .running := rfl
set_option maxRecDepth 65536 in
theorem w_room : about1.hasRoom e0.platform room_1 = true :=
  launch0.hasRoom_least _ room_1 (by decide +kernel) (by decide +kernel) (by decide +kernel) (by decide +kernel) (by decide +kernel) (by decide +kernel)
theorem allAtoms_all (ts : List Jvm.Cond) (a : Array Jvm.Value) (st : Jvm.State) : (allAtoms ts).before a st = ts.all (fun c => c.before a st) := by
  induction ts with
  | nil => rfl
  | cons c t ih =>
    show (Jvm.Cond.and c (allAtoms t)).before a st = _
    rw [Jvm.Cond.before_and, ih, List.all_cons]
def words1 : List Jvm.Cond := Jvm.Cond.code x code maxLocals ret :: tables_1
/-- a 'code' word, met by the world's own term for the bytes: nothing is compared byte by byte -/
theorem code_word {y : MethodName} {bytes : ByteArray} {mx : Nat} {rt : Option FieldType} {a : Array Value} {s : State} {m : MethodId} {meth : Method} {c : Code} (h1 : s.methodNamed? y = some m) (h2 : s.vm.method? m = some meth) (h3 : meth.code = some c) (h4 : c.code = bytes)
    (h5 : (c.maxLocals == mx && c.exceptionTable.isEmpty && decide (c.maxStack ≤ mostOperands) && decide (meth.sig.returnType = rt) && !meth.locks && decide (parseMethodDescriptor y.desc = some meth.sig)) = true) : (Jvm.Cond.code y bytes mx rt).before a s = true := by
  simp only [Bool.and_eq_true, beq_iff_eq, Bool.not_eq_true', decide_eq_true_eq] at h5
  obtain ⟨⟨⟨⟨⟨g1, g2⟩, g3⟩, g4⟩, g5⟩, g6⟩ := h5
  simp [Cond.before, Cond.holds, Cond.value, h1, h2, h3, h4, g1, g2, g3, g4, g5, g6]
def isCode : Jvm.Cond → Bool
  | .code _ _ _ _ => true
  | _ => false
theorem all_split {L : List Jvm.Cond} {P : Jvm.Cond → Bool} (h1 : L.all (fun c => isCode c || P c) = true) (h2 : ∀ c ∈ L.filter isCode, P c = true) : L.all P = true := by
  refine List.all_eq_true.mpr fun c hc => ?_
  have h := List.all_eq_true.mp h1 c hc
  rcases Bool.eq_false_or_eq_true (isCode c) with hi | hi
  · exact h2 c (List.mem_filter.mpr ⟨hc, hi⟩)
  · simpa [hi] using h
set_option maxRecDepth 65536 in
theorem w_c0 : (Jvm.Cond.code x code maxLocals ret).before args0 about1 = true := code_word (m := ⟨1, 1⟩) (meth := k1m1) (c := k1c1) (by decide +kernel) rfl rfl rfl (by decide +kernel)
set_option maxRecDepth 65536 in
theorem w_c1 : (Jvm.Cond.code ({ cls := "java/lang/String", name := "valueOf", desc := "(C)Ljava/lang/String;" } : Jvm.MethodName) jdk_42_method_139_code (1 : Nat) (Option.some (Jvm.ClassFile.FieldType.object "java/lang/String"))).before args0 about1 = true := code_word (m := ⟨7, 2⟩) (meth := k7m2) (c := k7c2) (by decide +kernel) rfl rfl rfl (by decide +kernel)
set_option maxRecDepth 65536 in
theorem w_c2 : (Jvm.Cond.code ({ cls := "java/lang/StringLatin1", name := "canEncode", desc := "(C)Z" } : Jvm.MethodName) jdk_43_method_3_code (1 : Nat) (Option.some Jvm.ClassFile.FieldType.boolean)).before args0 about1 = true := code_word (m := ⟨8, 1⟩) (meth := k8m1) (c := k8c1) (by decide +kernel) rfl rfl rfl (by decide +kernel)
set_option maxRecDepth 65536 in
theorem w_c3 : (Jvm.Cond.code ({ cls := "java/lang/StringLatin1", name := "toBytes", desc := "(C)[B" } : Jvm.MethodName) jdk_43_method_46_code (1 : Nat) (Option.some (Jvm.ClassFile.FieldType.array Jvm.ClassFile.FieldType.byte))).before args0 about1 = true := code_word (m := ⟨8, 2⟩) (meth := k8m2) (c := k8c2) (by decide +kernel) rfl rfl rfl (by decide +kernel)
set_option maxRecDepth 65536 in
theorem w_c4 : (Jvm.Cond.code ({ cls := "java/lang/String", name := "<init>", desc := "([BB)V" } : Jvm.MethodName) jdk_42_method_151_code (3 : Nat) (Option.none : Option Jvm.ClassFile.FieldType)).before args0 about1 = true := code_word (m := ⟨7, 4⟩) (meth := k7m4) (c := k7c4) (by decide +kernel) rfl rfl rfl (by decide +kernel)
set_option maxRecDepth 65536 in
theorem w_c5 : (Jvm.Cond.code ({ cls := "java/lang/Object", name := "<init>", desc := "()V" } : Jvm.MethodName) object_method_1_code (1 : Nat) (Option.none : Option Jvm.ClassFile.FieldType)).before args0 about1 = true := code_word (m := ⟨0, 0⟩) (meth := k0m0) (c := k0c0) (by decide +kernel) rfl rfl rfl (by decide +kernel)
set_option maxRecDepth 65536 in
theorem w_c6 : (Jvm.Cond.code ({ cls := "com/example/liken2/liken2/cli/Arguments", name := "once", desc := "(Ljava/lang/Object;Ljava/lang/Object;Ljava/lang/String;)Ljava/lang/Object;" } : Jvm.MethodName) prog_1_method_4_code (3 : Nat) (Option.some (Jvm.ClassFile.FieldType.object "java/lang/Object"))).before args0 about1 = true := code_word (m := ⟨9, 1⟩) (meth := k9m1) (c := k9c1) (by decide +kernel) rfl rfl rfl (by decide +kernel)
set_option maxRecDepth 65536 in
theorem w_c7 : (Jvm.Cond.code ({ cls := "java/lang/Integer", name := "valueOf", desc := "(I)Ljava/lang/Integer;" } : Jvm.MethodName) jdk_33_method_22_code (1 : Nat) (Option.some (Jvm.ClassFile.FieldType.object "java/lang/Integer"))).before args0 about1 = true := code_word (m := ⟨11, 0⟩) (meth := k11m0) (c := k11c0) (by decide +kernel) rfl rfl rfl (by decide +kernel)
set_option maxRecDepth 65536 in
theorem w_c8 : (Jvm.Cond.code ({ cls := "java/lang/Integer", name := "<init>", desc := "(I)V" } : Jvm.MethodName) jdk_33_method_23_code (2 : Nat) (Option.none : Option Jvm.ClassFile.FieldType)).before args0 about1 = true := code_word (m := ⟨11, 1⟩) (meth := k11m1) (c := k11c1) (by decide +kernel) rfl rfl rfl (by decide +kernel)
set_option maxRecDepth 65536 in
theorem w_c9 : (Jvm.Cond.code ({ cls := "java/lang/Number", name := "<init>", desc := "()V" } : Jvm.MethodName) jdk_18_method_1_code (1 : Nat) (Option.none : Option Jvm.ClassFile.FieldType)).before args0 about1 = true := code_word (m := ⟨10, 0⟩) (meth := k10m0) (c := k10c0) (by decide +kernel) rfl rfl rfl (by decide +kernel)
set_option maxRecDepth 65536 in
theorem w_c10 : (Jvm.Cond.code ({ cls := "java/lang/String", name := "<init>", desc := "([C)V" } : Jvm.MethodName) jdk_42_method_3_code (2 : Nat) (Option.none : Option Jvm.ClassFile.FieldType)).before args0 about1 = true := code_word (m := ⟨7, 1⟩) (meth := k7m1) (c := k7c1) (by decide +kernel) rfl rfl rfl (by decide +kernel)
set_option maxRecDepth 65536 in
theorem w_c11 : (Jvm.Cond.code ({ cls := "java/lang/String", name := "<init>", desc := "([CIILjava/lang/Void;)V" } : Jvm.MethodName) jdk_42_method_149_code (6 : Nat) (Option.none : Option Jvm.ClassFile.FieldType)).before args0 about1 = true := code_word (m := ⟨7, 3⟩) (meth := k7m3) (c := k7c3) (by decide +kernel) rfl rfl rfl (by decide +kernel)
set_option maxRecDepth 65536 in
theorem w_c12 : (Jvm.Cond.code ({ cls := "java/lang/StringUTF16", name := "compress", desc := "([CII)[B" } : Jvm.MethodName) jdk_52_method_16_code (6 : Nat) (Option.some (Jvm.ClassFile.FieldType.array Jvm.ClassFile.FieldType.byte))).before args0 about1 = true := code_word (m := ⟨13, 2⟩) (meth := k13m2) (c := k13c2) (by decide +kernel) rfl rfl rfl (by decide +kernel)
set_option maxRecDepth 65536 in
theorem w_c13 : (Jvm.Cond.code ({ cls := "java/lang/StringUTF16", name := "compress", desc := "([CI[BII)I" } : Jvm.MethodName) jdk_52_method_21_code (7 : Nat) (Option.some Jvm.ClassFile.FieldType.int)).before args0 about1 = true := code_word (m := ⟨13, 3⟩) (meth := k13m3) (c := k13c3) (by decide +kernel) rfl rfl rfl (by decide +kernel)
set_option maxRecDepth 65536 in
theorem w_c14 : (Jvm.Cond.code ({ cls := "java/lang/StringUTF16", name := "coderFromArrayLen", desc := "([BI)B" } : Jvm.MethodName) jdk_52_method_15_code (2 : Nat) (Option.some Jvm.ClassFile.FieldType.byte)).before args0 about1 = true := code_word (m := ⟨13, 1⟩) (meth := k13m1) (c := k13c1) (by decide +kernel) rfl rfl rfl (by decide +kernel)
def codes1 : List Jvm.Cond := [Jvm.Cond.code x code maxLocals ret, Jvm.Cond.code ({ cls := "java/lang/String", name := "valueOf", desc := "(C)Ljava/lang/String;" } : Jvm.MethodName) jdk_42_method_139_code (1 : Nat) (Option.some (Jvm.ClassFile.FieldType.object "java/lang/String")), Jvm.Cond.code ({ cls := "java/lang/StringLatin1", name := "canEncode", desc := "(C)Z" } : Jvm.MethodName) jdk_43_method_3_code (1 : Nat) (Option.some Jvm.ClassFile.FieldType.boolean), Jvm.Cond.code ({ cls := "java/lang/StringLatin1", name := "toBytes", desc := "(C)[B" } : Jvm.MethodName) jdk_43_method_46_code (1 : Nat) (Option.some (Jvm.ClassFile.FieldType.array Jvm.ClassFile.FieldType.byte)), Jvm.Cond.code ({ cls := "java/lang/String", name := "<init>", desc := "([BB)V" } : Jvm.MethodName) jdk_42_method_151_code (3 : Nat) (Option.none : Option Jvm.ClassFile.FieldType), Jvm.Cond.code ({ cls := "java/lang/Object", name := "<init>", desc := "()V" } : Jvm.MethodName) object_method_1_code (1 : Nat) (Option.none : Option Jvm.ClassFile.FieldType), Jvm.Cond.code ({ cls := "com/example/liken2/liken2/cli/Arguments", name := "once", desc := "(Ljava/lang/Object;Ljava/lang/Object;Ljava/lang/String;)Ljava/lang/Object;" } : Jvm.MethodName) prog_1_method_4_code (3 : Nat) (Option.some (Jvm.ClassFile.FieldType.object "java/lang/Object")), Jvm.Cond.code ({ cls := "java/lang/Integer", name := "valueOf", desc := "(I)Ljava/lang/Integer;" } : Jvm.MethodName) jdk_33_method_22_code (1 : Nat) (Option.some (Jvm.ClassFile.FieldType.object "java/lang/Integer")), Jvm.Cond.code ({ cls := "java/lang/Integer", name := "<init>", desc := "(I)V" } : Jvm.MethodName) jdk_33_method_23_code (2 : Nat) (Option.none : Option Jvm.ClassFile.FieldType), Jvm.Cond.code ({ cls := "java/lang/Number", name := "<init>", desc := "()V" } : Jvm.MethodName) jdk_18_method_1_code (1 : Nat) (Option.none : Option Jvm.ClassFile.FieldType), Jvm.Cond.code ({ cls := "java/lang/String", name := "<init>", desc := "([C)V" } : Jvm.MethodName) jdk_42_method_3_code (2 : Nat) (Option.none : Option Jvm.ClassFile.FieldType), Jvm.Cond.code ({ cls := "java/lang/String", name := "<init>", desc := "([CIILjava/lang/Void;)V" } : Jvm.MethodName) jdk_42_method_149_code (6 : Nat) (Option.none : Option Jvm.ClassFile.FieldType), Jvm.Cond.code ({ cls := "java/lang/StringUTF16", name := "compress", desc := "([CII)[B" } : Jvm.MethodName) jdk_52_method_16_code (6 : Nat) (Option.some (Jvm.ClassFile.FieldType.array Jvm.ClassFile.FieldType.byte)), Jvm.Cond.code ({ cls := "java/lang/StringUTF16", name := "compress", desc := "([CI[BII)I" } : Jvm.MethodName) jdk_52_method_21_code (7 : Nat) (Option.some Jvm.ClassFile.FieldType.int), Jvm.Cond.code ({ cls := "java/lang/StringUTF16", name := "coderFromArrayLen", desc := "([BI)B" } : Jvm.MethodName) jdk_52_method_15_code (2 : Nat) (Option.some Jvm.ClassFile.FieldType.byte)]
set_option maxRecDepth 65536 in
theorem codes_eq : words1.filter isCode = codes1 := rfl
theorem w_codes : ∀ c ∈ words1.filter isCode, c.before args0 about1 = true := by
  rw [codes_eq]
  intro c hc
  simp only [codes1, List.mem_cons, List.not_mem_nil, or_false] at hc
  rcases hc with rfl | rfl | rfl | rfl | rfl | rfl | rfl | rfl | rfl | rfl | rfl | rfl | rfl | rfl | rfl
  · exact w_c0
  · exact w_c1
  · exact w_c2
  · exact w_c3
  · exact w_c4
  · exact w_c5
  · exact w_c6
  · exact w_c7
  · exact w_c8
  · exact w_c9
  · exact w_c10
  · exact w_c11
  · exact w_c12
  · exact w_c13
  · exact w_c14
set_option maxRecDepth 65536 in
theorem w_t1 : (words1.take 24).all (fun c => isCode c || c.before args0 about1) = true := by decide +kernel
set_option maxRecDepth 65536 in
theorem w_t2 : ((words1.drop 24).take 24).all (fun c => isCode c || c.before args0 about1) = true := by decide +kernel
set_option maxRecDepth 65536 in
theorem w_t3 : (((words1.drop 24).drop 24).take 24).all (fun c => isCode c || c.before args0 about1) = true := by decide +kernel
set_option maxRecDepth 65536 in
theorem w_t4 : (((words1.drop 24).drop 24).drop 24).all (fun c => isCode c || c.before args0 about1) = true := by decide +kernel
theorem w_tables : (allAtoms (Jvm.Cond.code x code maxLocals ret :: tables_1)).before args0 about1 = true := by
  rw [allAtoms_all]
  show words1.all (fun c => c.before args0 about1) = true
  refine all_split ?_ w_codes
  rw [← List.take_append_drop 24 words1, List.all_append, w_t1, ← List.take_append_drop 24 (words1.drop 24), List.all_append, w_t2, ← List.take_append_drop 24 ((words1.drop 24).drop 24), List.all_append, w_t3, w_t4]
  rfl
set_option maxRecDepth 65536 in
theorem w_rest : rest_1_c.before args0 about1 = true := by decide +kernel
set_option maxRecDepth 65536 in
theorem w_case : (Jvm.Cond.and given_1 narrow_1).before args0 about1 = true := by decide +kernel
theorem w_applies : (headSpec (Jvm.Cond.code x code maxLocals ret :: tables_1) room_1).applies x e0.platform about1 = true :=
  (Spec.applies_iff w_frames).mpr ⟨w_running, w_runnable, w_alone, w_named, w_hears, w_ripe, w_room, w_tables⟩
theorem atStart : AtStart classFile x code maxLocals ret World_1 tables_1 room_1 Calls_1 rest_1 Pre_1 launch0 p0 e0 about1 theMethod args0 below0 :=
  ⟨lists_1, trivial, launch0.admits_env _ _ _, launch0.least_env, fairChoices_fair.cas, fairChoices_fair.clock, w_frames, w_args, w_heap, w_applies, trivial, w_rest, w_case⟩
end start1
theorem witness_1 : WitnessClaimed_1 := ⟨start1.p0, start1.e0, start1.about1, start1.theMethod, start1.args0, start1.below0, start1.atStart⟩
end Jvm.Pilot.@@N@@
