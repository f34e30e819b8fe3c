import JvmDerived
import JvmDerived.Pilot.@@N@@Statement
import JvmDerived.Pilot.@@N@@Code
set_option linter.unusedVariables false
set_option linter.unusedSimpArgs false

namespace Jvm.Pilot.@@N@@
open Jvm Jvm.ClassFile Sem Op Lib Jvm.Free Jvm.Stand Jvm.LawKit Jvm.RoadKit Bundle Jvm.Pilot.@@N@@.Jvm.D

/-- no literal's text is asked -/
def Hd (Z : State) (ms : List Addr) (vm : Vm) (h : Heap) : Prop := True
theorem Hd.warm {Z b : State} {ms : List Addr} {h : Heap} {vm' : Vm} (J : Hd Z ms b.vm h) (q : b.WarmedH vm') : Hd Z ms vm' h := trivial
theorem Hd.ext {Z : State} {ms : List Addr} {h h' : Heap} {vm : Vm} (J : Hd Z ms vm h) (E : Ext h h') : Hd Z ms vm h' := trivial
theorem Hd.add {Z : State} {ms : List Addr} {h h' : Heap} {vm : Vm} {x : Addr} (J : Hd Z ms vm h) (E : Ext h h') (q : x = h.size) (q' : x < h'.size) : Hd Z (x :: ms) vm h' := trivial
theorem Hd.wr {Z : State} {ms : List Addr} {h h' : Heap} {vm : Vm} {x : Addr} {sl : Nat} {v : Value} (J : Hd Z ms vm h) (W : Wr h h' x sl v) (q : True) : Hd Z ms vm h' := trivial
theorem Hd.sub {Z : State} {ms ms' : List Addr} {h : Heap} {vm : Vm} (J : Hd Z ms vm h) (q : ∀ x ∈ ms', x ∈ ms) : Hd Z ms' vm h := trivial
theorem Hd.keep {Z : State} {ms ws : List Addr} {h h' : Heap} {vm : Vm} (J : Hd Z ms vm h) (K : Keep h h' ws) (q : ∀ x ∈ ws, True) : Hd Z ms vm h' := trivial

section OwnKit
variable {p : Program} {l : Launch} {e : Env} {R : Room} {s b : State} {m : MethodId} {args : Array Value} {below : List Frame} {meth : Method} {c : Code} {T T' : State} {locs : List Loc} {cells slots : Nat} {Z : State} {a0 : Array Value} {h h' : Heap} {K N : Nat} {Q : Option Value → Vm → Heap → List Loc → Prop} {g g' : JFrame} {ms : List Addr}
/-- from the frame g over T the body comes to its end, and there Q holds (the end in the wide sense: literals may have been loaded) -/
def Go (p : Program) (e : Env) (s : State) (below : List Frame) (K N : Nat) (J : Vm → Heap → Prop) (Q : Option Value → Vm → Heap → List Loc → Prop) (T : State) (g : JFrame) : Prop :=
  ∃ s₂ o, Steps p.tables e below (T.setTop g) s₂ ∧ s₂.status = .running ∧ Ended s₂ below o ∧ ∃ v L, o = .returned v ∧ Q v s₂.vm s₂.heap L ∧ J s₂.vm s₂.heap ∧ ReturnedEndW s o s₂ L K N
theorem Go.of {J : Vm → Heap → Prop} (st : ∀ t, Steps p.tables e below (T'.setTop g') t → Steps p.tables e below (T.setTop g) t) (q : Go p e s below K N J Q T' g') : Go p e s below K N J Q T g := by
  obtain ⟨s2, o, h1, r⟩ := q
  exact ⟨s2, o, st _ h1, r⟩
/-- two roads meet again: what comes behind is proved once -/
theorem Go.join {J : Vm → Heap → Prop} {α : Type} (P : α → Prop) (f : α → JFrame) (A : ∀ x, P x → Go p e s below K N J Q T (f x)) (C : (∀ x, P x → Go p e s below K N J Q T (f x)) → Go p e s below K N J Q T g) : Go p e s below K N J Q T g := C A
/-- the tables at hand: b is the start s with warmer tables, their new pairs booked below the heap's size -/
def Bs (s b : State) (h : Heap) : Prop := ∃ vm k, b = s.setVm vm ∧ s.Since vm k ∧ k ≤ h.size
theorem Bs.start (s : State) (h : Heap) : Bs s s h := ⟨s.vm, 0, rfl, (State.WarmedH.refl s).since 0, Nat.zero_le _⟩
theorem Bs.mono (B : Bs s b h) (q : h.size ≤ h'.size) : Bs s b h' := by
  obtain ⟨vm, k, e, hS, hk⟩ := B
  exact ⟨vm, k, e, hS, Nat.le_trans hk q⟩
theorem rend_mono {t : State} {o : Outcome} {L : List Loc} {k n k' n' : Nat} (q : ReturnedEndW s o t L k n) (hk : k ≤ k') (hn : n ≤ n') : ReturnedEndW s o t L k' n' := ⟨q.1, q.2.1, q.2.2.1, q.2.2.2.mono hk hn⟩
theorem own_retI (X : Stand p l e R s m args below meth c T locs cells slots) (hx : p.tables.exec = Jvm.exec) {pc : Nat} {Ls : Array Slot} {z : Int32} {rest : List Value} (hret : meth.sig.returnType = some .int) (hd : decode c.code pc = .ok (.ireturn, 1)) {fs : List Frame}
    (hl : ∀ (f : JFrame) (acts : List Action), f.method = m → f.locked = none → f.entered = [] → (doReturn e (T.setTop f) acts (some (.int z))).1 = T.setFrames fs) : Steps p.tables e below (T.setTop (mkF m pc Ls (.int z :: rest))) (T.setFrames fs) := by
  have hm' : T.vm.method? m = some meth := X.method'
  have hn : narrow .int (.int z) = .int z := rfl
  show Steps p.tables e below (T.setTop { method := m, pc := pc, locals := Ls, stack := _ :: rest, locked := none }) _
  jvm_step X.here [X.here.top, hx, hd, hm', hret, hn]
  first | (intro acts; rw [hl _ acts rfl rfl rfl]) | rw [hl _ _ rfl rfl rfl]
  exact Steps.refl _
theorem Go.retI (X : Stand p l e R b m args below meth c T locs cells slots) (hx : p.tables.exec = Jvm.exec) (hlk : meth.locks = false) (B : Bs s b h) (J : Hd Z ms b.vm h) (eT : T.heap = h) {pc : Nat} {Ls : Array Slot} {z : Int32} {rest : List Value} (hret : meth.sig.returnType = some .int) (hd : decode c.code pc = .ok (.ireturn, 1)) (hK : cells ≤ K) (hN : slots ≤ N)
    (hQ : ∀ vm, b.WarmedH vm → Q (some (.int z)) vm h locs) : Go p e s below K N (Hd Z ms) Q T (mkF m pc Ls (.int z :: rest)) := by
  obtain ⟨vm, k, rfl, hS, hk⟩ := B
  subst eT
  obtain ⟨fs, hr, hrun, hended, hW⟩ := X.leaveW hS hk (v := some (.int z)) (fun q => by rw [hret] at q; cases q) hlk
  exact ⟨_, _, own_retI X hx hret hd hr, hrun, hended, _, _, rfl, hQ _ X.warmed, J.warm X.warmed, rend_mono hW hK hN⟩
theorem Go.retN (X : Stand p l e R b m args below meth c T locs cells slots) (hx : p.tables.exec = Jvm.exec) (hlk : meth.locks = false) (B : Bs s b h) (J : Hd Z ms b.vm h) (eT : T.heap = h) {pc : Nat} {Ls : Array Slot} {z z' : Int32} {t : FieldType} {rest : List Value} (hret : meth.sig.returnType = some t) (ht : t = .boolean ∨ t = .byte ∨ t = .char ∨ t = .short) (hd : decode c.code pc = .ok (.ireturn, 1)) (hz : nar t z = z') (hK : cells ≤ K) (hN : slots ≤ N)
    (hQ : ∀ vm, b.WarmedH vm → Q (some (.int z')) vm h locs) : Go p e s below K N (Hd Z ms) Q T (mkF m pc Ls (.int z :: rest)) := by
  obtain ⟨vm, k, rfl, hS, hk⟩ := B
  subst eT hz
  obtain ⟨fs, hr, hrun, hended, hW⟩ := X.leaveW hS hk (v := some (.int (nar t z))) (fun q => by rw [hret] at q; cases q) hlk
  exact ⟨_, _, Jvm.RoadKit.retN X hx hret ht hd hr, hrun, hended, _, _, rfl, hQ _ X.warmed, J.warm X.warmed, rend_mono hW hK hN⟩
theorem Go.retA (X : Stand p l e R b m args below meth c T locs cells slots) (hx : p.tables.exec = Jvm.exec) (hlk : meth.locks = false) (B : Bs s b h) (J : Hd Z ms b.vm h) (eT : T.heap = h) {pc : Nat} {Ls : Array Slot} {w : Value} {t : FieldType} {rest : List Value} (hret : meth.sig.returnType = some t) (ht : t.isReference = true) (hw : w.isRef = true) (hd : decode c.code pc = .ok (.areturn, 1)) (hK : cells ≤ K) (hN : slots ≤ N)
    (hQ : ∀ vm, b.WarmedH vm → Q (some w) vm h locs) : Go p e s below K N (Hd Z ms) Q T (mkF m pc Ls (w :: rest)) := by
  obtain ⟨vm, k, rfl, hS, hk⟩ := B
  subst eT
  obtain ⟨fs, hr, hrun, hended, hW⟩ := X.leaveW hS hk (v := some w) (fun q => by rw [hret] at q; cases q) hlk
  have hn : narrow t w = w := by
    cases t <;> first | (cases ht; done) | (cases w <;> first | rfl | (cases hw; done))
  exact ⟨_, _, retOut X hx hret hn (Or.inr (Or.inr (Or.inr (Or.inr ⟨rfl, ht, hw⟩)))) hd hr, hrun, hended, _, _, rfl, hQ _ X.warmed, J.warm X.warmed, rend_mono hW hK hN⟩
theorem Go.retV (X : Stand p l e R b m args below meth c T locs cells slots) (hx : p.tables.exec = Jvm.exec) (hlk : meth.locks = false) (B : Bs s b h) (J : Hd Z ms b.vm h) (eT : T.heap = h) {pc : Nat} {Ls : Array Slot} (hret : meth.sig.returnType = none) (hd : decode c.code pc = .ok (.return_, 1)) (hK : cells ≤ K) (hN : slots ≤ N)
    (hQ : ∀ vm, b.WarmedH vm → Q none vm h locs) : Go p e s below K N (Hd Z ms) Q T (mkF m pc Ls []) := by
  obtain ⟨vm, k, rfl, hS, hk⟩ := B
  subst eT
  obtain ⟨fs, hr, hrun, hended, hW⟩ := X.leaveW hS hk (v := none) (fun _ => rfl) hlk
  exact ⟨_, _, X.returnOut hx hret hd hr, hrun, hended, _, _, rfl, hQ _ X.warmed, J.warm X.warmed, rend_mono hW hK hN⟩
/-- a body's contract in this family -/
def Con (l : Launch) (Z : State) (ms : List Addr) (y : MethodName) (bytes : ByteArray) (maxL : Nat) (ret : Option FieldType) (ws : List Jvm.Cond) (rm : Room) (as' : Array Value) (h : Heap) (Q : Option Value → Vm → Heap → List Loc → Prop) : Prop :=
  MetFree l y (head1 (Jvm.Cond.code y bytes maxL ret :: ws) rm) (fun a U => a = as' ∧ Z.Warmed39 U.vm ∧ U.heap = h ∧ Hd Z ms U.vm U.heap) (fun _ _ _ _ _ => True) (fun _ U o U' => ∃ v L, o = .returned v ∧ Q v U'.vm U'.heap L ∧ Hd Z ms U'.vm U'.heap ∧ ReturnedEndW U o U' L rm.cells rm.slots)
/-- what a walk knows of the body that it walks -/
def Cx (Z : State) (p : Program) (b : State) (m : MethodId) (meth : Method) (c : Code) (own : String) (bytes : ByteArray) (ml : Nat) (nm : String) (rt : Option FieldType) : Prop :=
  p.tables.exec = Jvm.exec ∧ Z.Warmed39 b.vm ∧ b.vm.findClass own = some m.cls ∧ c.code = bytes ∧ c.maxLocals = ml ∧ meth.name = nm ∧ meth.sig.returnType = rt ∧ meth.locks = false
theorem Con.mk {y : MethodName} {bytes : ByteArray} {maxL : Nat} {ret : Option FieldType} {ws : List Jvm.Cond} {rm : Room} {as' : Array Value} (hp : plainFor y = true)
    (body : ∀ p e s m below meth c s₁, Cx Z p s m meth c y.cls bytes maxL y.name ret → Stand p l e rm s m as' below meth c s₁ [] 0 0 → s₁.heap = h → s.heap = h → Hd Z ms s.vm h → Bs s s h → s.methodNamed? y = some m → Go p e s below rm.cells rm.slots (Hd Z ms) Q s₁ (entryFrame m as' maxL)) : Con l Z ms y bytes maxL ret ws rm as' h Q := by
  refine MetFree.of_bodySF hp hisR ?_
  intro p e s m args below meth c s₁ Bd hml0 hP hK
  obtain ⟨rfl, hZ, hh, hJ⟩ := hP
  exact body p e s m below meth c s₁ ⟨Bd.exec, hZ, findClass_of_methodNamed Bd.named, Bd.bytes, hml0, (name_of_methodNamed Bd.named Bd.method).1, Bd.returns, Bd.notSynchronized⟩ (Stand.of_body Bd) (by rw [← hh, Bd.state]; rfl) hh (hh ▸ hJ) (Bs.start s h) Bd.named
section Calls
variable {y : MethodName} {bytes mybytes : ByteArray} {maxL ml : Nat} {ret rt : Option FieldType} {rm : Room} {own nm : String} {index W : Nat} {argsL rest : List Value} {Q' : Option Value → Vm → Heap → List Loc → Prop}
/-- two roads meet again behind calls that leave the heap as it was -/
theorem Go.joinC {Jq : Vm → Heap → Prop} {α : Type} {n : Nat} (Cc : Cx Z p b m meth c own mybytes ml nm rt) (X : Stand p l e R b m args below meth c T locs cells slots) (hJ : Hd Z ms b.vm h) (hN : Fr n locs) (P : α → Prop) (f : α → JFrame)
    (A : ∀ x b' T' locs', Cx Z p b' m meth c own mybytes ml nm rt → Stand p l e R b' m args below meth c T' locs' cells slots → T'.heap = h → Bs s b' h → Hd Z ms b'.vm h → Fr n locs' → P x → Go p e s below K N Jq Q T' (f x))
    (C : (∀ x b' T' locs', Cx Z p b' m meth c own mybytes ml nm rt → Stand p l e R b' m args below meth c T' locs' cells slots → T'.heap = h → Bs s b' h → Hd Z ms b'.vm h → Fr n locs' → P x → Go p e s below K N Jq Q T' (f x)) → Go p e s below K N Jq Q T g) : Go p e s below K N Jq Q T g := C A
/-- what a call leaves: the tables at hand may be others -/
def Called (Z : State) (ms : List Addr) (p : Program) (l : Launch) (e : Env) (R : Room) (s : State) (m : MethodId) (args : Array Value) (below : List Frame) (meth : Method) (c : Code) (own : String) (mybytes : ByteArray) (ml : Nat) (nm : String) (rt : Option FieldType) (locs : List Loc) (cells slots : Nat) (h : Heap) (Q' : Option Value → Vm → Heap → List Loc → Prop) (T : State) (g : JFrame) (len : Nat) (rest : List Value) : Prop :=
  ∃ v b' T' h' L, T'.heap = h' ∧ Cx Z p b' m meth c own mybytes ml nm rt ∧ Stand p l e R b' m args below meth c T' (locs ++ L) cells slots ∧ Bs s b' h' ∧ Hd Z ms b'.vm h' ∧ h.size ≤ h'.size ∧ Q' v b'.vm h' L ∧ ∀ t, Steps p.tables e below (T'.setTop { g with pc := g.pc + len, stack := v.toList ++ rest }) t → Steps p.tables e below (T.setTop g) t
theorem own_back {as' : Array Value} {len : Nat} (hM : Con l Z ms y bytes maxL ret [] rm as' h Q') (hZ : Z.Warmed39 b.vm) (J : Hd Z ms b.vm h) (wc : (Jvm.Cond.code y bytes maxL ret).before a0 Z = true) (wz : (Jvm.Cond.initialized y.cls).before a0 Z = true) (hf : rm.frames + 1 ≤ R.frames) (hl : W + (maxL + 11) + rm.locals ≤ R.locals) :
    BackS l R p e below b args y len W (fun A a => a = as' ∧ A.U.heap = h ∧ A.cells + rm.cells ≤ R.cells ∧ A.slots + rm.slots ≤ R.slots)
      (fun A _ v B => ∃ L, (Q' v B.U.vm B.U.heap L ∧ Hd Z ms B.U.vm B.U.heap) ∧ B.locs = A.locs ++ L ∧ B.cells = A.cells + rm.cells ∧ B.slots = A.slots + rm.slots) :=
  BackS.of_freeW (bytes := bytes) (maxL := maxL) (ret := ret) (E := fun _ _ o t L k n => k = rm.cells ∧ n = rm.slots ∧ ∃ v, o = .returned v ∧ Q' v t.vm t.heap L ∧ Hd Z ms t.vm t.heap) hM hf hl
    (fun m meth c A a Y hp => have hU : Z.Warmed39 A.U.vm := wtrans hZ Y.warmed
      ⟨by show (Jvm.Cond.and _ .tt).before a A.U = true; rw [Cond.before_and, mv hU wc]; rfl, mv hU wc, mv hU wz, hp.2.2.1, hp.2.2.2⟩)
    (fun m meth c A a g mk Y hp => ⟨hp.1, wtrans hZ Y.warmed, hp.2.1, by show Hd Z ms A.U.vm A.U.heap; rw [hp.2.1]; exact J.warm Y.warmed⟩) (fun _ _ _ _ _ _ _ _ _ => trivial)
    (fun _ _ _ _ ⟨v, L, h1, h2, h3, h4⟩ => ⟨L, _, _, h4, rfl, rfl, v, h1, h2, h3⟩)
    (fun m meth c A a g mk v t L k n Y hp _ _ ⟨e1, e2, v', e3, e4, e5⟩ => by cases e3; subst e1 e2; exact ⟨L, ⟨e4, e5⟩, rfl, rfl, rfl⟩)
theorem own_done {len : Nat} {v : Option Value} {B : Pt} (Cc : Cx Z p b m meth c own mybytes ml nm rt) (hB : Bs s b h) (eT : T.heap = h) (X1 : Stand p l e R (b.setVm B.U.vm) m args below meth c B.U B.locs B.cells B.slots) (hS : b.Since B.U.vm B.U.heap.size) (hg : T.heap.size ≤ B.U.heap.size)
    (hq : ∃ L, (Q' v B.U.vm B.U.heap L ∧ Hd Z ms B.U.vm B.U.heap) ∧ B.locs = locs ++ L ∧ B.cells = cells + rm.cells ∧ B.slots = slots + rm.slots) (st : ∀ t, Steps p.tables e below (B.U.setTop { g with pc := g.pc + len, stack := v.toList ++ rest }) t → Steps p.tables e below (T.setTop g) t) :
    Called Z ms p l e R s m args below meth c own mybytes ml nm rt locs (cells + rm.cells) (slots + rm.slots) h Q' T g len rest := by
  obtain ⟨T1, L1, k1, n1⟩ := B
  obtain ⟨Lc, ⟨hQ, hJ⟩, l1, y1, z1⟩ := hq
  dsimp only [Pt.U, Pt.locs, Pt.cells, Pt.slots] at X1 l1 y1 z1 st hQ hJ hS hg
  subst l1 y1 z1
  obtain ⟨vm, k, rfl, hS0, hk⟩ := hB
  obtain ⟨hx, hZ, hown, r⟩ := Cc
  exact ⟨v, (s.setVm vm).setVm T1.vm, T1, _, Lc, rfl, ⟨hx, State.Warmed39.trans hZ hS.1, (hS.1.alike.findClass _ _).trans hown, r⟩, X1, ⟨T1.vm, T1.heap.size, rfl, hS0.trans hS (Nat.le_trans hk (eT ▸ hg)), Nat.le_refl _⟩, hJ, eT ▸ hg, hQ, st⟩
theorem own_callS (Cc : Cx Z p b m meth c own mybytes ml nm rt) (hB : Bs s b h) (J : Hd Z ms b.vm h) (X : Stand p l e R b m args below meth c T locs cells slots)
    (wl : (Jvm.Cond.methodLink own index y).before a0 Z = true) (wst : (Jvm.Cond.static y).before a0 Z = true) (wi : (Jvm.Cond.initialized y.cls).before a0 Z = true) (wc : (Jvm.Cond.code y bytes maxL ret).before a0 Z = true) (hy : y.cls ≠ "java/lang/invoke/MethodHandle" ∧ y.cls ≠ "java/lang/invoke/VarHandle")
    (hM : Con l Z ms y bytes maxL ret [] rm argsL.toArray h Q') (eT : T.heap = h) (hg : g.method = m) (hsize : g.locals.size = c.maxLocals) (hlen : ∀ sig, parseMethodDescriptor y.desc = some sig → argsL.length = sig.parameters.length) (hstack : g.stack = argsL.reverse ++ rest)
    (hW : 2 * g.monitorRoom + (rest.map fun v => v.category).sum ≤ W) (hdg : decode c.code g.pc = .ok (.invokestatic index, 3)) (hf : rm.frames + 1 ≤ R.frames) (hl : W + (maxL + 11) + rm.locals ≤ R.locals) (hc : cells + rm.cells ≤ R.cells) (hs : slots + rm.slots ≤ R.slots) :
    Called Z ms p l e R s m args below meth c own mybytes ml nm rt locs (cells + rm.cells) (slots + rm.slots) h Q' T g 3 rest := by
  obtain ⟨hx, hZ, hown, -⟩ := id Cc
  obtain ⟨v, _, B, -, X1, hS, hgr, hq, st⟩ := callSS X hx (y := y) hown (mvT hZ wl) (mvT hZ wst) (mvT hZ wi) (mvT hZ wc) hy (own_back (W := W) hM hZ J wc wi hf hl) hg hsize (argsL := argsL) (rest := rest) hlen hstack hW hdg (fun _ _ => ⟨rfl, eT, hc, hs⟩)
  exact own_done Cc hB eT X1 hS hgr hq (fun _ hr => st.trans hr)
theorem own_callI (Cc : Cx Z p b m meth c own mybytes ml nm rt) (hB : Bs s b h) (J : Hd Z ms b.vm h) (X : Stand p l e R b m args below meth c T locs cells slots) (hin : y.name = "<init>")
    (wl : (Jvm.Cond.methodLink own index y).before a0 Z = true) (wim : (Jvm.Cond.instanceMethod y).before a0 Z = true) (wi : (Jvm.Cond.initialized y.cls).before a0 Z = true) (wc : (Jvm.Cond.code y bytes maxL none).before a0 Z = true) (hy : y.cls ≠ "java/lang/invoke/MethodHandle" ∧ y.cls ≠ "java/lang/invoke/VarHandle")
    {a : Addr} (hM : Con l Z ms y bytes maxL none [] rm (Value.ref a :: argsL).toArray h Q') (eT : T.heap = h) (hg : g.method = m) (hsize : g.locals.size = c.maxLocals) (hlen : ∀ sig, parseMethodDescriptor y.desc = some sig → argsL.length = sig.parameters.length) (hstack : g.stack = argsL.reverse ++ .ref a :: rest)
    (hW : 2 * g.monitorRoom + (rest.map fun v => v.category).sum ≤ W) (hdg : decode c.code g.pc = .ok (.invokespecial index, 3)) (hf : rm.frames + 1 ≤ R.frames) (hl : W + (maxL + 11) + rm.locals ≤ R.locals) (hc : cells + rm.cells ≤ R.cells) (hs : slots + rm.slots ≤ R.slots) :
    Called Z ms p l e R s m args below meth c own mybytes ml nm rt locs (cells + rm.cells) (slots + rm.slots) h Q' T g 3 rest := by
  obtain ⟨hx, hZ, hown, -⟩ := id Cc
  obtain ⟨v, _, B, -, X1, hS, hgr, hq, st⟩ := X.specialBackS hx (y := y) hin hown (mvT hZ wl) (mvT hZ wim) (mvT hZ wc) hy (own_back (W := W) hM hZ J wc wi hf hl) hg hsize (Steps.refl _) (a := a) (argsL := argsL) (rest := rest) hlen hstack hW hdg (fun _ _ => ⟨rfl, eT, hc, hs⟩)
  exact own_done Cc hB eT X1 hS hgr hq (fun _ hr => st.trans hr)
theorem own_callV (Cc : Cx Z p b m meth c own mybytes ml nm rt) (hB : Bs s b h) (J : Hd Z ms b.vm h) (X : Stand p l e R b m args below meth c T locs cells slots) {z : MethodName} {C : String}
    (wl : (Jvm.Cond.methodLink own index y).before a0 Z = true) (wd : (Jvm.Cond.declares y).before a0 Z = true) (nf : NotFace b y) (wsel : (Jvm.Cond.selects C y z).before a0 Z = true) (wim : (Jvm.Cond.instanceMethod z).before a0 Z = true) (wi : (Jvm.Cond.initialized z.cls).before a0 Z = true) (wc : (Jvm.Cond.code z bytes maxL ret).before a0 Z = true) (hy : y.cls ≠ "java/lang/invoke/MethodHandle" ∧ y.cls ≠ "java/lang/invoke/VarHandle")
    {a : Addr} (E : Exa Z h a C) (hM : Con l Z ms z bytes maxL ret [] rm (Value.ref a :: argsL).toArray h Q') (eT : T.heap = h) (hg : g.method = m) (hsize : g.locals.size = c.maxLocals) (hlen : ∀ sig, parseMethodDescriptor y.desc = some sig → argsL.length = sig.parameters.length) (hstack : g.stack = argsL.reverse ++ .ref a :: rest)
    (hW : 2 * g.monitorRoom + (rest.map fun v => v.category).sum ≤ W) (hdg : decode c.code g.pc = .ok (.invokevirtual index, 3)) (hf : rm.frames + 1 ≤ R.frames) (hl : W + (maxL + 11) + rm.locals ≤ R.locals) (hc : cells + rm.cells ≤ R.cells) (hs : slots + rm.slots ≤ R.slots) :
    Called Z ms p l e R s m args below meth c own mybytes ml nm rt locs (cells + rm.cells) (slots + rm.slots) h Q' T g 3 rest := by
  obtain ⟨hx, hZ, hown, -⟩ := id Cc
  obtain ⟨cq, kq, qa, qb, qc⟩ := isOf hZ eT E
  obtain ⟨v, _, B, -, X1, hS, hgr, hq, st⟩ := X.virtualBackS hx (y := y) (z := z) hown (mvT hZ wl) (mvT hZ wd) nf (mvT hZ wsel) (mvT hZ wim) hy (own_back (W := W) hM hZ J wc wi hf hl) qa qc hg hsize (Steps.refl _) (argsL := argsL) (rest := rest) hlen hstack hW hdg (fun _ _ => ⟨rfl, eT, hc, hs⟩)
  exact own_done Cc hB eT X1 hS hgr hq (fun _ hr => st.trans hr)
/-- an inherited method, by the class that the entry names -/
theorem own_callU (Cc : Cx Z p b m meth c own mybytes ml nm rt) (hB : Bs s b h) (J : Hd Z ms b.vm h) (X : Stand p l e R b m args below meth c T locs cells slots) {z : MethodName} {C owner : String}
    (wl : (Jvm.Cond.methodLink own index y).before a0 Z = true) (wsm : (Jvm.Cond.sameMethod y.cls owner y.name y.desc).before a0 Z = true) (wd : (Jvm.Cond.declares ⟨owner, y.name, y.desc⟩).before a0 Z = true) (wsel : (Jvm.Cond.selects C y z).before a0 Z = true) (wim : (Jvm.Cond.instanceMethod z).before a0 Z = true) (wi : (Jvm.Cond.initialized z.cls).before a0 Z = true) (wc : (Jvm.Cond.code z bytes maxL ret).before a0 Z = true) (ho : owner ≠ "java/lang/invoke/MethodHandle" ∧ owner ≠ "java/lang/invoke/VarHandle")
    {a : Addr} (E : Exa Z h a C) (hM : Con l Z ms z bytes maxL ret [] rm (Value.ref a :: argsL).toArray h Q') (eT : T.heap = h) (hg : g.method = m) (hsize : g.locals.size = c.maxLocals) (hlen : ∀ sig, parseMethodDescriptor y.desc = some sig → argsL.length = sig.parameters.length) (hstack : g.stack = argsL.reverse ++ .ref a :: rest)
    (hW : 2 * g.monitorRoom + (rest.map fun v => v.category).sum ≤ W) (hdg : decode c.code g.pc = .ok (.invokevirtual index, 3)) (hf : rm.frames + 1 ≤ R.frames) (hl : W + (maxL + 11) + rm.locals ≤ R.locals) (hc : cells + rm.cells ≤ R.cells) (hs : slots + rm.slots ≤ R.slots) :
    Called Z ms p l e R s m args below meth c own mybytes ml nm rt locs (cells + rm.cells) (slots + rm.slots) h Q' T g 3 rest := by
  obtain ⟨hx, hZ, hown, -⟩ := id Cc
  obtain ⟨cq, kq, qa, qb, qc⟩ := isOf hZ eT E
  obtain ⟨v, _, B, -, X1, hS, hgr, hq, st⟩ := X.virtualBackUpS hx (x := y) (y := z) hown (mvT hZ wl) (mvT hZ wsm) (mvT hZ wd) ho (mvT hZ wsel) (mvT hZ wim) (own_back (W := W) hM hZ J wc wi hf hl) qa qc hg hsize (Steps.refl _) (argsL := argsL) (rest := rest) hlen hstack hW hdg (fun _ _ => ⟨rfl, eT, hc, hs⟩)
  exact own_done Cc hB eT X1 hS hgr hq (fun _ hr => st.trans hr)
/-- through an interface -/
theorem own_callF (Cc : Cx Z p b m meth c own mybytes ml nm rt) (hB : Bs s b h) (J : Hd Z ms b.vm h) (X : Stand p l e R b m args below meth c T locs cells slots) {z : MethodName} {C : String} {count : Nat}
    (wl : (Jvm.Cond.methodLink own index y).before a0 Z = true) (wd : (Jvm.Cond.declares y).before a0 Z = true) (wfc : (Jvm.Cond.interfaceMethod y.cls y.cls y.name y.desc).before a0 Z = true) (hfc : ((Jvm.Cond.interfaceMethod y.cls y.cls y.name y.desc).onTables && (Jvm.Cond.interfaceMethod y.cls y.cls y.name y.desc).keepsFace) = true) (wsel : (Jvm.Cond.selects C y z).before a0 Z = true) (wim : (Jvm.Cond.instanceMethod z).before a0 Z = true) (wpb : (Jvm.Cond.publicMethod z).before a0 Z = true) (wun : (Jvm.Cond.unhidden C y.name y.desc).before a0 Z = true) (wca : (Jvm.Cond.castable C y.cls).before a0 Z = true)
    (wi : (Jvm.Cond.initialized z.cls).before a0 Z = true) (wc : (Jvm.Cond.code z bytes maxL ret).before a0 Z = true) (hy : y.cls ≠ "java/lang/invoke/MethodHandle" ∧ y.cls ≠ "java/lang/invoke/VarHandle")
    {a : Addr} (E : Exa Z h a C) (hM : Con l Z ms z bytes maxL ret [] rm (Value.ref a :: argsL).toArray h Q') (eT : T.heap = h) (hg : g.method = m) (hsize : g.locals.size = c.maxLocals) (hlen : ∀ sig, parseMethodDescriptor y.desc = some sig → argsL.length = sig.parameters.length) (hstack : g.stack = argsL.reverse ++ .ref a :: rest)
    (hW : 2 * g.monitorRoom + (rest.map fun v => v.category).sum ≤ W) (hdg : decode c.code g.pc = .ok (.invokeinterface index count, 5)) (hf : rm.frames + 1 ≤ R.frames) (hl : W + (maxL + 11) + rm.locals ≤ R.locals) (hc : cells + rm.cells ≤ R.cells) (hs : slots + rm.slots ≤ R.slots) :
    Called Z ms p l e R s m args below meth c own mybytes ml nm rt locs (cells + rm.cells) (slots + rm.slots) h Q' T g 5 rest := by
  obtain ⟨hx, hZ, hown, -⟩ := id Cc
  obtain ⟨cq, kq, qa, qb, qc⟩ := isOf hZ eT E
  obtain ⟨v, _, B, -, X1, hS, hgr, hq, st⟩ := X.interfaceBackS hx (xi := y) (y := z) hown (mvT hZ wl) (mvT hZ wd) (mvT hZ wfc hfc) (mvT hZ wsel) (mvT hZ wim) (mvT hZ wpb) (mvT hZ wun) (mvT hZ wca) hy (own_back (W := W) hM hZ J wc wi hf hl) qa qb qc hg hsize (Steps.refl _) (argsL := argsL) (rest := rest) hlen hstack hW hdg (fun _ _ => ⟨rfl, eT, hc, hs⟩)
  exact own_done Cc hB eT X1 hS hgr hq (fun _ hr => st.trans hr)
/-- super.m() -/
theorem own_callP (Cc : Cx Z p b m meth c own mybytes ml nm rt) (hB : Bs s b h) (J : Hd Z ms b.vm h) (X : Stand p l e R b m args below meth c T locs cells slots) {C : String}
    (wl : (Jvm.Cond.methodLink own index y).before a0 Z = true) (wsm : (Jvm.Cond.sameMethod y.cls y.cls y.name y.desc).before a0 Z = true) (wim : (Jvm.Cond.instanceMethod y).before a0 Z = true) (wsu : (Jvm.Cond.superclass own y.cls).before a0 Z = true) (hn : y.name ≠ "<init>") (wi : (Jvm.Cond.initialized y.cls).before a0 Z = true) (wc : (Jvm.Cond.code y bytes maxL ret).before a0 Z = true)
    {a : Addr} (E : Exa Z h a C) (hM : Con l Z ms y bytes maxL ret [] rm (Value.ref a :: argsL).toArray h Q') (eT : T.heap = h) (hg : g.method = m) (hsize : g.locals.size = c.maxLocals) (hlen : ∀ sig, parseMethodDescriptor y.desc = some sig → argsL.length = sig.parameters.length) (hstack : g.stack = argsL.reverse ++ .ref a :: rest)
    (hW : 2 * g.monitorRoom + (rest.map fun v => v.category).sum ≤ W) (hdg : decode c.code g.pc = .ok (.invokespecial index, 3)) (hf : rm.frames + 1 ≤ R.frames) (hl : W + (maxL + 11) + rm.locals ≤ R.locals) (hc : cells + rm.cells ≤ R.cells) (hs : slots + rm.slots ≤ R.slots) :
    Called Z ms p l e R s m args below meth c own mybytes ml nm rt locs (cells + rm.cells) (slots + rm.slots) h Q' T g 3 rest := by
  obtain ⟨hx, hZ, hown, -⟩ := id Cc
  obtain ⟨v, _, B, -, X1, hS, hgr, hq, st⟩ := superBackS X hx hZ (y := y) hown wl wsm wim wsu hn (own_back (W := W) hM hZ J wc wi hf hl) eT (Ins.self E) hg hsize wc (argsL := argsL) (rest := rest) hlen hstack hW hdg (fun _ _ => ⟨rfl, eT, hc, hs⟩)
  exact own_done Cc hB eT X1 hS hgr hq (fun _ hr => st.trans hr)
/-- a private method -/
theorem own_callR (Cc : Cx Z p b m meth c own mybytes ml nm rt) (hB : Bs s b h) (J : Hd Z ms b.vm h) (X : Stand p l e R b m args below meth c T locs cells slots) {C : String}
    (wl : (Jvm.Cond.methodLink own index y).before a0 Z = true) (wim : (Jvm.Cond.instanceMethod y).before a0 Z = true) (wsel : (Jvm.Cond.selects y.cls y y).before a0 Z = true) (wpr : (Jvm.Cond.privateMethod y).before a0 Z = true) (wi : (Jvm.Cond.initialized y.cls).before a0 Z = true) (wc : (Jvm.Cond.code y bytes maxL ret).before a0 Z = true) (hy : y.cls ≠ "java/lang/invoke/MethodHandle" ∧ y.cls ≠ "java/lang/invoke/VarHandle")
    {a : Addr} (E : Exa Z h a C) (hM : Con l Z ms y bytes maxL ret [] rm (Value.ref a :: argsL).toArray h Q') (eT : T.heap = h) (hg : g.method = m) (hsize : g.locals.size = c.maxLocals) (hlen : ∀ sig, parseMethodDescriptor y.desc = some sig → argsL.length = sig.parameters.length) (hstack : g.stack = argsL.reverse ++ .ref a :: rest)
    (hW : 2 * g.monitorRoom + (rest.map fun v => v.category).sum ≤ W) (hdg : decode c.code g.pc = .ok (.invokevirtual index, 3)) (hf : rm.frames + 1 ≤ R.frames) (hl : W + (maxL + 11) + rm.locals ≤ R.locals) (hc : cells + rm.cells ≤ R.cells) (hs : slots + rm.slots ≤ R.slots) :
    Called Z ms p l e R s m args below meth c own mybytes ml nm rt locs (cells + rm.cells) (slots + rm.slots) h Q' T g 3 rest := by
  obtain ⟨hx, hZ, hown, -⟩ := id Cc
  obtain ⟨cl, q1, q2⟩ := E.cell
  obtain ⟨v, _, B, -, X1, hS, hgr, hq, st⟩ := X.privateBackS hx (y := y) hown (mvT hZ wl) (mvT hZ wim) (mvT hZ wsel) (Cond.privateMethod_at (mvP hZ wpr (args := #[]))) (mvT hZ wc) hy (own_back (W := W) hM hZ J wc wi hf hl) hg hsize (Steps.refl _) (a := a) (by rw [eT]; exact q1) q2 (argsL := argsL) (rest := rest) hlen hstack hW hdg (fun _ _ => ⟨rfl, eT, hc, hs⟩)
  exact own_done Cc hB eT X1 hS hgr hq (fun _ hr => st.trans hr)
/-- a nest-mate's constructor -/
theorem own_callN (Cc : Cx Z p b m meth c own mybytes ml nm rt) (hB : Bs s b h) (J : Hd Z ms b.vm h) (X : Stand p l e R b m args below meth c T locs cells slots) (hin : y.name = "<init>") {host : String}
    (wl : (Jvm.Cond.methodLinkNest own index y host).before a0 Z = true) (wim : (Jvm.Cond.instanceMethod y).before a0 Z = true) (wi : (Jvm.Cond.initialized y.cls).before a0 Z = true) (wc : (Jvm.Cond.code y bytes maxL none).before a0 Z = true) (hy : y.cls ≠ "java/lang/invoke/MethodHandle" ∧ y.cls ≠ "java/lang/invoke/VarHandle")
    {a : Addr} (hM : Con l Z ms y bytes maxL none [] rm (Value.ref a :: argsL).toArray h Q') (eT : T.heap = h) (hg : g.method = m) (hsize : g.locals.size = c.maxLocals) (hlen : ∀ sig, parseMethodDescriptor y.desc = some sig → argsL.length = sig.parameters.length) (hstack : g.stack = argsL.reverse ++ .ref a :: rest)
    (hW : 2 * g.monitorRoom + (rest.map fun v => v.category).sum ≤ W) (hdg : decode c.code g.pc = .ok (.invokespecial index, 3)) (hf : rm.frames + 1 ≤ R.frames) (hl : W + (maxL + 11) + rm.locals ≤ R.locals) (hc : cells + rm.cells ≤ R.cells) (hs : slots + rm.slots ≤ R.slots) :
    Called Z ms p l e R s m args below meth c own mybytes ml nm rt locs (cells + rm.cells) (slots + rm.slots) h Q' T g 3 rest := by
  obtain ⟨hx, hZ, hown, -⟩ := id Cc
  have wl' : (Jvm.Cond.methodLinkNest own index y host).before args b = true := (Cond.methodLinkNest_wide hZ wl :)
  obtain ⟨v, _, B, -, X1, hS, hgr, hq, st⟩ := X.specialBackNestS hx (y := y) hin hown wl' (mvT hZ wim) (mvT hZ wc) hy (own_back (W := W) hM hZ J wc wi hf hl) hg hsize (Steps.refl _) (a := a) (argsL := argsL) (rest := rest) hlen hstack hW hdg (fun _ _ => ⟨rfl, eT, hc, hs⟩)
  exact own_done Cc hB eT X1 hS hgr hq (fun _ hr => st.trans hr)
end Calls
theorem own_nf {s : State} {args : Array Value} {C : String} {y z : MethodName} (hsel : (Jvm.Cond.selects C z z).before args s = true) (hc : z.cls = y.cls) : NotFace s y := fun r0 h0 => by
  obtain ⟨c2, r2, m2, -, -, q3, -⟩ := Cond.selects_spec hsel
  obtain ⟨kr, k1, k2⟩ := notFace_of_selects hsel m2 q3
  have a := findClass_of_methodNamed h0
  have b := findClass_of_methodNamed q3
  rw [hc] at b
  have e : r0.cls = m2.cls := Option.some.inj (a.symm.trans b)
  exact ⟨kr, by rw [e]; exact k1, k2⟩
theorem own_sm {y : MethodName} (wim : (Jvm.Cond.instanceMethod y).before a0 Z = true) (nf : NotFace Z y) (hy : y.cls ≠ "java/lang/invoke/MethodHandle" ∧ y.cls ≠ "java/lang/invoke/VarHandle") : (Jvm.Cond.sameMethod y.cls y.cls y.name y.desc).before a0 Z = true := by
  obtain ⟨mk, methM, hnamed, -⟩ := Cond.instanceMethod_spec wim
  obtain ⟨kr, k1, k2⟩ := nf _ hnamed
  have hf := State.methodFound?_of_named hnamed hy
  have hc := findClass_of_methodNamed hnamed
  have hn' : Z.methodNamed? ⟨y.cls, y.name, y.desc⟩ = some mk := hnamed
  simp [Cond.before, Cond.holds, Cond.value, hc, hf, hn', k1, k2]
theorem own_decl {y : MethodName} {bytes : ByteArray} {maxL : Nat} {ret : Option FieldType} (wim : (Jvm.Cond.instanceMethod y).before a0 Z = true) (wc : (Jvm.Cond.code y bytes maxL ret).before a0 Z = true) : (Jvm.Cond.declares y).before a0 Z = true := by
  obtain ⟨mk, methM, hnamed, hmethM, hst, -⟩ := Cond.instanceMethod_spec wim
  obtain ⟨m2, cM, q1, -, -, -, -, -, -, hsig⟩ := Cond.code_spec hnamed wc
  cases hmethM.symm.trans q1
  simp [Cond.before, Cond.holds, Cond.value, hnamed, hmethM, hst, hsig]
theorem keep_ext (q : Keep h h' []) : Ext h h' := ⟨q.1, fun a c r => q.2.1 a c r (fun z => nomatch z)⟩
theorem ext_keep (q : Ext h h') : Keep h h' [] := (Keep.refl h []).ext q
theorem own_ole {n0 : Nat} (O : Old Z n0 h) : n0 ≤ h.size := O.1 ▸ O.2.1
/-- an equation of the case's words -/
theorem own_eqI {t : Term} {n : Int32} (q : (Jvm.Cond.eq t (.int n)).value args s none s [] = some true) : t.eval args s none [] s = some (.int n) := by
  cases ha : t.eval args s none [] s with
  | none => simp [Cond.value, ha] at q
  | some x => cases x <;> simp [Cond.value, Term.eval, ha] at q ⊢; exact q
end OwnKit

/-- a literal is loaded; what it says isn't asked -/
theorem own_ldcS {p : Program} {l : Launch} {e : Env} {R : Room} {s b : State} {m : MethodId} {args : Array Value} {below : List Frame} {meth : Method} {c : Code} {T : State} {locs : List Loc} {cells slots : Nat} {Z : State} {a0 : Array Value} {h : Heap} {ms : List Addr} {own nm text : String} {mybytes : ByteArray} {ml index n : Nat} {rt : Option FieldType} {g : JFrame}
    (Cc : Cx Z p b m meth c own mybytes ml nm rt) (hB : Bs s b h) (J : Hd Z ms b.vm h) (X : Stand p l e R b m args below meth c T locs cells slots) (w : (Jvm.Cond.stringLink own index text).before a0 Z = true) (wS : ∀ a ∈ Bundle.stringAtoms, a.before a0 Z = true) (eT : T.heap = h) (hg : g.method = m) (hd : decode c.code g.pc = .ok (.ldc index, 2)) (hn : 4 * text.toList.length ≤ n) (hbig : n ≤ 536870912) (hc : cells + 2 ≤ R.cells) (hl : slots + (n + 4) ≤ R.slots) :
    ∃ (a : Addr) (b' T' : State) (h' : Heap), T'.heap = h' ∧ Cx Z p b' m meth c own mybytes ml nm rt ∧ Stand p l e R b' m args below meth c T' locs (cells + 2) (slots + (n + 4)) ∧ Bs s b' h' ∧ Hd Z ms b'.vm h' ∧ Ext h h' ∧ ∀ t, Steps p.tables e below (T'.setTop { g with pc := g.pc + 2, stack := .ref a :: g.stack }) t → Steps p.tables e below (T.setTop g) t := by
  obtain ⟨vm, k, rfl, hS, hk⟩ := hB
  obtain ⟨hx, hZ, hown, r⟩ := Cc
  obtain ⟨a, T', h', k1, X', e', E, hS', hk', hZ', hown', st⟩ := ldcS X hx hZ hown w wS eT hS hk hg hd hn hbig hc hl
  exact ⟨a, _, T', h', e', ⟨hx, hZ', hown', r⟩, X', ⟨T'.vm, k1, rfl, hS', hk'⟩, trivial, E, st⟩
/-- the Class object of a class, as the start says -/
def Mr (Z : State) (C : String) (m : Addr) : Prop := ∃ (c : ClassId) (k : Class), Z.vm.findClass C = some c ∧ Z.vm.classes[c]? = some k ∧ k.mirror = some m
section OwnMir
variable {p : Program} {l : Launch} {e : Env} {R : Room} {s : State} {m : MethodId} {args : Array Value} {below : List Frame} {meth : Method} {c : Code} {T : State} {locs : List Loc} {cells slots : Nat} {Z : State} {a0 : Array Value} {h : Heap} {own C : String} {index : Nat} {a mr : Addr} {g : JFrame} {rest : List Value}
theorem own_gcls (X : Stand p l e R s m args below meth c T locs cells slots) (hx : p.tables.exec = Jvm.exec) (hZ : Z.Warmed39 s.vm) (hown : s.vm.findClass own = some m.cls)
    (w1 : (Jvm.Cond.methodLink own index ⟨"java/lang/Object", "getClass", "()Ljava/lang/Class;"⟩).before a0 Z = true) (w2 : (Jvm.Cond.declares ⟨"java/lang/Object", "getClass", "()Ljava/lang/Class;"⟩).before a0 Z = true) (w3 : (Jvm.Cond.noSuperclass "java/lang/Object").before a0 Z = true) (w4 : (Jvm.Cond.selects C ⟨"java/lang/Object", "getClass", "()Ljava/lang/Class;"⟩ ⟨"java/lang/Object", "getClass", "()Ljava/lang/Class;"⟩).before a0 Z = true)
    (w5 : (Jvm.Cond.instanceMethod ⟨"java/lang/Object", "getClass", "()Ljava/lang/Class;"⟩).before a0 Z = true) (w6 : (Jvm.Cond.native ⟨"java/lang/Object", "getClass", "()Ljava/lang/Class;"⟩).before a0 Z = true) (eT : T.heap = h) (E : Exa Z h a C) (M : Mr Z C mr)
    (hg : g.method = m) (hsize : g.locals.size = c.maxLocals) (hs : g.stack = .ref a :: rest) (hd : decode c.code g.pc = .ok (.invokevirtual index, 3)) (hf : 1 ≤ R.frames) {W : Nat} (hW : 2 * g.monitorRoom + (rest.map fun v => v.category).sum ≤ W) (hl : W + (nativeFrameWords "java/lang/Object" "getClass" 1 + 11) ≤ R.locals) :
    ∃ T', Stand p l e R s m args below meth c T' locs cells slots ∧ T'.heap = h ∧ ∀ target, Steps p.tables e below (T'.setTop { g with pc := g.pc + 3, stack := .ref mr :: rest }) target → Steps p.tables e below (T.setTop g) target := by
  obtain ⟨cB, kB, i1, i2, i3⟩ := isOf hZ eT E
  obtain ⟨cc, kc, m1, m2, m3⟩ := M
  rw [hZ.alike.findClass] at i1
  cases i1.symm.trans m1
  obtain ⟨k', q, ek⟩ := hZ.alike.2.2 _ _ m2
  obtain ⟨vm', X', st⟩ := X.getClassOf hx hown (mvT hZ w1) (mvT hZ w2) (nf_top (args := #[]) (mvT hZ w3)) (mvT hZ w4) (mvT hZ w5) (mvT hZ w6) (by rw [hZ.alike.findClass]; exact m1) i3 q (by rw [ek]; exact m3) hg hsize hs hd hf (by omega)
  exact ⟨_, X', eT, st⟩
theorem own_ldcM (X : Stand p l e R s m args below meth c T locs cells slots) (hx : p.tables.exec = Jvm.exec) (hZ : Z.Warmed39 s.vm) (hown : s.vm.findClass own = some m.cls) (w : (Jvm.Cond.classLink own index C).before a0 Z = true) (eT : T.heap = h) (M : Mr Z C mr) (hg : g.method = m) (hd : decode c.code g.pc = .ok (.ldc index, 2)) :
    ∃ T', Stand p l e R s m args below meth c T' locs cells slots ∧ T'.heap = h ∧ ∀ target, Steps p.tables e below (T'.setTop { g with pc := g.pc + 2, stack := .ref mr :: g.stack }) target → Steps p.tables e below (T.setTop g) target := by
  obtain ⟨cc, kc, m1, m2, m3⟩ := M
  obtain ⟨k', q, ek⟩ := hZ.alike.2.2 _ _ m2
  have f1 : s.vm.findClass C = some cc := by rw [hZ.alike.findClass]; exact m1
  have f2 : k'.mirror = some mr := by rw [ek]; exact m3
  obtain ⟨vm', X', st⟩ := X.ldcMirror hx hown (mvT hZ w) (a := mr) (by simp [Term.eval, f1, q, f2]) hg hd
  exact ⟨_, X', eT, st⟩
end OwnMir

section OwnStr
abbrev lo8 (x : Int32) : Int32 := x.toInt8.toInt32
theorem oi_toInt {i : Nat} (h : i < 2147483648) : (Int32.ofNat i).toInt = i := Int32.toInt_ofNat_small h
theorem oi_nn {i : Nat} (h : i < 2147483648) : ¬ Int32.ofNat i < 0 := by
  rw [Int32.lt_iff_toInt_lt, oi_toInt h, Int32.toInt_zero]; omega
theorem oi_nat {i : Nat} (h : i < 2147483648) : (Int32.ofNat i).toNatClampNeg = i := by
  have q := nat_of (oi_nn h)
  rw [oi_toInt h] at q; omega
theorem oi_lt {i n : Nat} (hi : i < 2147483648) (hn : n < 2147483648) (q : i < n) : Int32.ofNat i < Int32.ofNat n := by
  rw [Int32.lt_iff_toInt_lt, oi_toInt hi, oi_toInt hn]; omega
theorem oi_nlt {i n : Nat} (hi : i < 2147483648) (hn : n < 2147483648) (q : ¬ i < n) : ¬ Int32.ofNat i < Int32.ofNat n := by
  rw [Int32.lt_iff_toInt_lt, oi_toInt hi, oi_toInt hn]; omega
theorem oi_succ {i : Nat} (h : i + 1 < 2147483648) : Int32.ofNat i + (1 : Int32) = Int32.ofNat (i + 1) := by
  have q := c_iadd (Int32.ofNat i) 1
  have r := rng32 (Int32.ofNat i + 1)
  rw [oi_toInt (by omega), show (1 : Int32).toInt = 1 from rfl] at q
  apply Int32.toInt_inj.mp
  rw [oi_toInt h]; omega
theorem nar_b (x : Int32) : nar .byte (lo8 x) = lo8 x := by
  have a := c_i2b x
  have b := c_i2b (x.toInt8.toInt32)
  apply Int32.toInt_inj.mp
  show (x.toInt8.toInt32.toInt8.toInt32).toInt = x.toInt8.toInt32.toInt
  omega
theorem fits_b (x : Int32) : fits .byte (.int (lo8 x)) = true := fits_nar_byte x
theorem c_rng {x : Int32} (h0 : ¬ x < 0) (h1 : ¬ 65535 < x) : 0 ≤ x.toInt ∧ x.toInt ≤ 65535 := by
  rw [Int32.lt_iff_toInt_lt] at h0 h1
  exact ⟨by simpa using h0, by simpa using h1⟩
theorem nar_c {x : Int32} (h0 : ¬ x < 0) (h1 : ¬ 65535 < x) : nar .char x = x := by
  have a := c_rng h0 h1
  have b := c_i2c x
  apply Int32.toInt_inj.mp
  show (x.toUInt32.toUInt16.toUInt32.toInt32).toInt = x.toInt
  omega
theorem fits_c {x : Int32} (h0 : ¬ x < 0) (h1 : ¬ 65535 < x) : fits .char (.int x) = true := by
  have q := fits_nar_char x
  rwa [nar_c h0 h1] at q
theorem le255 {x : Int32} (h1 : ¬ 255 < x) : ¬ 65535 < x := by
  rw [Int32.lt_iff_toInt_lt] at h1 ⊢
  have a : (255 : Int32).toInt = 255 := by decide
  have b : (65535 : Int32).toInt = 65535 := by decide
  omega
theorem chr8 (x : Int32) : ¬ (x &&& (255 : Int32)).toUInt32.toUInt16.toUInt32.toInt32 < 0 ∧ ¬ 255 < (x &&& (255 : Int32)).toUInt32.toUInt16.toUInt32.toInt32 := by
  rw [i2c_mask]
  have q := c_and x 255 (by decide)
  have a : (255 : Int32).toInt = 255 := by decide
  rw [Int32.lt_iff_toInt_lt, Int32.lt_iff_toInt_lt, Int32.toInt_zero]
  omega
theorem own_push {Z : State} {h h' : Heap} {a : Addr} {k : ClassId} {ty : FieldType} {z j : Int32} {vs : List Value} {v dv : Value} (V : Arv Z h a k ty z vs dv) (W : Wr h h' a j.toNatClampNeg v) (hj : j.toNatClampNeg = vs.length) (hv : fits ty v = true) : Arv Z h' a k ty z (vs ++ [v]) dv := by
  obtain ⟨c, A, q1, S, q3, H, G⟩ := V.pad (pad_rep vs dv 1)
  have q := Arv.set A q1 S q3 H G hv W vs.length hj (by simp)
  simpa [List.set_append] using q
theorem getD_int (cs : List Int32) (i : Nat) : (cs.map Value.int).getD i (.int 0) = .int (cs.getD i 0) := by
  simp only [List.getD_eq_getElem?_getD, List.getElem?_map]
  cases cs[i]? <;> rfl
theorem take_push (cs : List Int32) {i : Nat} (h : i < cs.length) (f : Int32 → Value) : (cs.take i).map f ++ [f (cs.getD i 0)] = (cs.take (i + 1)).map f := by
  rw [List.take_succ_eq_append_getElem h, List.map_append, List.getD_eq_getElem?_getD, List.getElem?_eq_getElem h]; rfl
theorem mem_getD {cs : List Int32} {i : Nat} (h : i < cs.length) : cs.getD i 0 ∈ cs := by
  rw [List.getD_eq_getElem?_getD, List.getElem?_eq_getElem h]; exact List.getElem_mem h
theorem oi_inj {a b : Nat} (ha : a < 2147483648) (hb : b < 2147483648) (q : Int32.ofNat a = Int32.ofNat b) : a = b := by
  have r := congrArg Int32.toInt q
  rw [oi_toInt ha, oi_toInt hb] at r; omega
theorem oi_nil {cs : List Int32} {n : Nat} (hn : cs.length ≤ n) (q : Int32.ofNat cs.length = 0) (hs : n < 2147483648 := by decide) : cs = [] := by
  have r := oi_inj (b := 0) (by omega) (by decide) q
  exact List.eq_nil_of_length_eq_zero r
theorem asB {Z : State} {h : Heap} {t : Addr} {k : ClassId} {cs : List Int32} {dv : Value} (q : Arv Z h t k .byte (Int32.ofNat cs.length) (cs.map fun x => Value.int (lo8 x)) dv) : Arv Z h t k .byte (Int32.ofNat (cs.map lo8).length) ((cs.map lo8).map Value.int) dv := by
  rw [List.length_map, List.map_map]; exact q
theorem teq_all {b1 b2 : List Int32} {i : Nat} (hl : b1.length = b2.length) (hi : i + 0 = b1.length) (h : b1.take i = b2.take i) : b1 = b2 := by
  have e : i = b1.length := by omega
  rw [e, List.take_length, hl, List.take_length] at h; exact h
theorem teq_step {b1 b2 : List Int32} {i : Nat} (h : b1.take i = b2.take i) (h1 : i < b1.length) (h2 : i < b2.length) (q : b1.getD i 0 = b2.getD i 0) : b1.take (i + 1) = b2.take (i + 1) := by
  rw [List.getD_eq_getElem?_getD, List.getD_eq_getElem?_getD, List.getElem?_eq_getElem h1, List.getElem?_eq_getElem h2] at q
  rw [List.take_succ_eq_append_getElem h1, List.take_succ_eq_append_getElem h2, h]
  exact congrArg (fun z => b2.take i ++ [z]) q
theorem nar_z {x : Int32} (h : x = 1 ∨ x = 0) : nar .boolean x = x := by rcases h with rfl | rfl <;> decide
theorem fits_z {x : Int32} (h : x = 1 ∨ x = 0) : fits .boolean (.int x) = true := by rcases h with rfl | rfl <;> decide
theorem and3 (x : Int32) : x &&& 3 = 0 ∨ x &&& 3 = 1 ∨ x &&& 3 = 2 ∨ x &&& 3 = 3 := by
  have q := c_and x 3 (by decide)
  have a : (3 : Int32).toInt = 3 := by decide
  have r : (x &&& 3).toInt = 0 ∨ (x &&& 3).toInt = 1 ∨ (x &&& 3).toInt = 2 ∨ (x &&& 3).toInt = 3 := by omega
  rcases r with r | r | r | r
  · exact Or.inl (Int32.toInt_inj.mp r)
  · exact Or.inr (Or.inl (Int32.toInt_inj.mp r))
  · exact Or.inr (Or.inr (Or.inl (Int32.toInt_inj.mp r)))
  · exact Or.inr (Or.inr (Or.inr (Int32.toInt_inj.mp r)))
theorem rem3 (x : Int32) : (x &&& 3) % 3 = 0 ∨ (x &&& 3) % 3 = 1 ∨ (x &&& 3) % 3 = 2 := by
  rcases and3 x with r | r | r | r <;> rw [r] <;> decide
theorem lo8_inj {x y : Int32} (hx : ¬ x < 0 ∧ ¬ 255 < x) (hy : ¬ y < 0 ∧ ¬ 255 < y) (h : lo8 x = lo8 y) : x = y := by
  obtain ⟨x0, x1⟩ := hx
  obtain ⟨y0, y1⟩ := hy
  have a : (255 : Int32).toInt = 255 := by decide
  rw [Int32.lt_iff_toInt_lt, Int32.toInt_zero] at x0 y0
  rw [Int32.lt_iff_toInt_lt] at x1 y1
  have q : x.toInt8.toInt32.toInt = y.toInt8.toInt32.toInt := congrArg Int32.toInt h
  have cx := c_i2b x
  have cy := c_i2b y
  apply Int32.toInt_inj.mp
  omega
theorem q_back {q : Int32} (h : ¬ q < 0) : Int32.ofNat q.toNatClampNeg = q := by
  have a := nat_of h
  have r := rng32 q
  apply Int32.toInt_inj.mp
  rw [oi_toInt (by omega), a]
theorem own_idx {j : Int32} {n : Nat} (h : ¬ (j < 0 ∨ n ≤ j.toNatClampNeg)) : j.toNatClampNeg.toInt32 = j := q_back (fun q => h (Or.inl q))
end OwnStr

theorem own_wS (Z : State) (a0 : Array Value) (hw : ∀ d ∈ tables_1, d.before a0 Z = true) : ∀ a ∈ Bundle.stringAtoms, a.before a0 Z = true := by
  intro a ha
  simp only [Bundle.stringAtoms, List.mem_cons, List.not_mem_nil, or_false] at ha
  rcases ha with rfl | rfl | rfl | rfl | rfl | rfl | rfl
  · exact (hw _ (List.mem_of_getElem? (i := 5) rfl))
  · exact (hw _ (List.mem_of_getElem? (i := 13) rfl))
  · exact (hw _ (List.mem_of_getElem? (i := 17) rfl))
  · exact (hw _ (List.mem_of_getElem? (i := 26) rfl))
  · exact (hw _ (List.mem_of_getElem? (i := 28) rfl))
  · exact (hw _ (List.mem_of_getElem? (i := 34) rfl))
  · exact (hw _ (List.mem_of_getElem? (i := 35) rfl))

theorem ns_root {Z : State} {a0 : Array Value} {O K : String} {n : Nat} (w : (Jvm.Cond.noSuperclass O).before a0 Z = true) (wk : (Jvm.Cond.instantiable K n).before a0 Z = true) (hn : O ≠ K) : NS Z O K := by
  obtain ⟨c, k, h1, h2, h3, -, -⟩ := Cond.noSuperclass_spec w
  obtain ⟨t, kt, g1, -⟩ := Cond.instantiable_spec wk
  have ne := ids_ne h1 g1 hn
  refine ⟨c, t, h1, g1, fun fuel => ?_⟩
  cases fuel with
  | zero => rfl
  | succ f => simp [Vm.isSubclassAux, ne, h2, h3]
theorem ns_no {Z : State} {a0 : Array Value} {C S K : String} {n : Nat} (w : (Jvm.Cond.superclass C S).before a0 Z = true) (wk : (Jvm.Cond.instantiable K n).before a0 Z = true) (ns : NS Z C K) (hn : C ≠ K) : ∃ c t, Z.vm.findClass C = some c ∧ Z.vm.findClass K = some t ∧ Z.vm.assignable c t = false := by
  obtain ⟨c, t, h0, g0, n3⟩ := ns
  obtain ⟨p, k, kp, h1, h2, h3, h4, h5, -, h7⟩ := Cond.superclass_spec h0 w
  obtain ⟨t', k', g1, g2, g5, g7, -⟩ := Cond.instantiable_spec wk
  cases g0.symm.trans g1
  have ne := ids_ne h0 g0 hn
  have g8 : k'.isInterface = false := (Bool.or_eq_false_iff.mp g7).1
  refine ⟨c, t, h0, g0, ?_⟩
  show Z.vm.assignableAux (255 + 1) c t = false
  simp [Vm.assignableAux, ne, h2, g2, h5, g5, g8, Vm.isSubclass, n3]

theorem pn0 : plainName "java/lang/StringLatin1" = true := by first | (simp [plainName, overriddenIn]; done) | decide +kernel
theorem d2_0 : decode jdk_43_method_3_code 0 = .ok (.iload_n 0, 1) := by decide +kernel
theorem d2_1 : decode jdk_43_method_3_code 1 = .ok (.sipush 255, 3) := by decide +kernel
theorem d2_4 : decode jdk_43_method_3_code 4 = .ok (.if_icmp .gt 7, 3) := by decide +kernel
theorem d2_7 : decode jdk_43_method_3_code 7 = .ok (.iconst 1, 1) := by decide +kernel
theorem d2_8 : decode jdk_43_method_3_code 8 = .ok (.goto 4, 3) := by decide +kernel
theorem d2_12 : decode jdk_43_method_3_code 12 = .ok (.ireturn, 1) := by decide +kernel
set_option maxRecDepth 65536 in
set_option maxHeartbeats 40000000 in
theorem rm2 (l : Launch) (Z : State) (a0 : Array Value) (hw : ∀ d ∈ tables_1, d.before a0 Z = true) (ws : List Jvm.Cond) (c1 : Int32) (ms : List Addr) (h0 : Heap) (n0 : Nat) (O0 : Old Z n0 h0) (nb : Nat) (hb0 : n0 ≤ nb) (hnb : nb ≤ h0.size) (q1 : ¬ 255 < c1) :
    Con l Z ms (⟨"java/lang/StringLatin1", "canEncode", "(C)Z"⟩ : MethodName) jdk_43_method_3_code 1 (some .boolean) ws ({ frames := 0, cells := 0, slots := 0, locals := 0 } : Room) #[(.int c1)] h0 (fun v vm h L => v = some (.int 1) ∧ Fr nb L ∧ h = h0) := by
  refine Con.mk (plainFor_of_name pn0) ?_
  intro p e s m below meth c s₁ Cc X0 e0 eb J0 B0 M0
  obtain ⟨hx, hZ, hown, hby, hml, hnm, hret, hlk⟩ := id Cc
  have N0 := Fr.nil h0.size
  have K0 := Keep.refl h0 []
  show Go p e s below _ _ _ _ s₁ (mkF m 0 #[.val (.int c1)] [])
  refine Go.of (fun _ hr => XS.iloadN X0.here hx rfl (hb hby d2_0) rfl  hr) ?_
  show Go p e s below _ _ _ _ s₁ (mkF m 1 #[.val (.int c1)] [(.int c1)])
  refine Go.of (fun _ hr => XS.sipush X0.here hx rfl (hb hby d2_1) hr) ?_
  show Go p e s below _ _ _ _ s₁ (mkF m 4 #[.val (.int c1)] [(.int (255 : Int32)), (.int c1)])
  refine Go.of (fun _ hr => XS.icmpNo X0.here hx rfl (hb hby d2_4) rfl (flt q1).2.2.1 hr) ?_
  show Go p e s below _ _ _ _ s₁ (mkF m 7 #[.val (.int c1)] [])
  refine Go.of (fun _ hr => XS.iconst X0.here hx rfl (hb hby d2_7) hr) ?_
  show Go p e s below _ _ _ _ s₁ (mkF m 8 #[.val (.int c1)] [(.int (1 : Int32))])
  refine Go.of (fun _ hr => XS.goto X0.here hx rfl (pc0 := 8) (pc' := 12) rfl (hb hby d2_8) (by decide) (by decide) hr) ?_
  show Go p e s below _ _ _ _ s₁ (mkF m 12 #[.val (.int c1)] [(.int (1 : Int32))])
  exact Go.retN X0 hx hlk B0 J0 e0 (t := .boolean) (z' := (1 : Int32)) hret (by simp) (hb hby d2_12) rfl (by decide) (by decide) (fun vm_ hw_ => ⟨rfl, (fun y hy => Nat.le_trans hnb (N0 y hy)), rfl⟩)

theorem d3_0 : decode jdk_43_method_46_code 0 = .ok (.iconst 1, 1) := by decide +kernel
theorem d3_1 : decode jdk_43_method_46_code 1 = .ok (.newarray .byte, 2) := by decide +kernel
theorem d3_3 : decode jdk_43_method_46_code 3 = .ok (.dup, 1) := by decide +kernel
theorem d3_4 : decode jdk_43_method_46_code 4 = .ok (.iconst 0, 1) := by decide +kernel
theorem d3_5 : decode jdk_43_method_46_code 5 = .ok (.iload_n 0, 1) := by decide +kernel
theorem d3_6 : decode jdk_43_method_46_code 6 = .ok (.i2b, 1) := by decide +kernel
theorem d3_7 : decode jdk_43_method_46_code 7 = .ok (.bastore, 1) := by decide +kernel
theorem d3_8 : decode jdk_43_method_46_code 8 = .ok (.areturn, 1) := by decide +kernel
set_option maxRecDepth 65536 in
set_option maxHeartbeats 40000000 in
theorem rm3 (l : Launch) (Z : State) (a0 : Array Value) (hw : ∀ d ∈ tables_1, d.before a0 Z = true) (ws : List Jvm.Cond) (c1 : Int32) (ms : List Addr) (h0 : Heap) (n0 : Nat) (O0 : Old Z n0 h0) (nb : Nat) (hb0 : n0 ≤ nb) (hnb : nb ≤ h0.size) :
    Con l Z ms (⟨"java/lang/StringLatin1", "toBytes", "(C)[B"⟩ : MethodName) jdk_43_method_46_code 1 (some (.array .byte)) ws ({ frames := 0, cells := 1, slots := 1, locals := 0 } : Room) #[(.int c1)] h0 (fun v vm h L => ∃ r k, v = some (.ref r) ∧ Fr nb L ∧ Ext h0 h ∧ h0.size ≤ r ∧ Arv Z h r k .byte 1 [.int (lo8 c1)] (.int 0)) := by
  refine Con.mk (plainFor_of_name pn0) ?_
  intro p e s m below meth c s₁ Cc X0 e0 eb J0 B0 M0
  obtain ⟨hx, hZ, hown, hby, hml, hnm, hret, hlk⟩ := id Cc
  have N0 := Fr.nil h0.size
  have K0 := Keep.refl h0 []
  show Go p e s below _ _ _ _ s₁ (mkF m 0 #[.val (.int c1)] [])
  refine Go.of (fun _ hr => XS.iconst X0.here hx rfl (hb hby d3_0) hr) ?_
  show Go p e s below _ _ _ _ s₁ (mkF m 1 #[.val (.int c1)] [(.int (1 : Int32))])
  obtain ⟨T101, h101, k101, X101, e101, E101, A101, st101⟩ := newP X0 hx hZ (hw _ (List.mem_of_getElem? (i := 17) rfl)) e0 (g := (mkF m 1 #[.val (.int c1)] [(.int (1 : Int32))])) rfl (hb hby d3_1) rfl (by decide) (cap := 1) (by decide) (by decide) (by decide) (by decide)
  obtain ⟨o101, g101⟩ : ∃ z, z = h0.size := ⟨_, rfl⟩
  rw [← g101] at A101 st101
  have V101 : Arv Z h101 o101 k101 .byte (1 : Int32) [(.int (0 : Int32))] (.int (0 : Int32)) := (Arv.new A101 (by decide)).pad (pad_rep [] (.int (0 : Int32)) 1)
  have lt101 : o101 < h101.size := A101.lt
  have J101 := J0.add E101 g101 lt101
  have B101 := B0.mono E101.1
  have O101 := O0.ext E101
  have sz101 : h0.size ≤ o101 := Nat.le_trans K0.1 (Nat.le_of_eq g101.symm)
  have fr101 : h0.size ≤ o101 := sz101
  have K101 := K0.ext E101
  refine Go.of (fun _ hr => st101 _ hr) ?_
  show Go p e s below _ _ _ _ T101 (mkF m 3 #[.val (.int c1)] [(.ref o101)])
  refine Go.of (fun _ hr => XS.dup X101.here hx rfl (hb hby d3_3) rfl rfl hr) ?_
  show Go p e s below _ _ _ _ T101 (mkF m 4 #[.val (.int c1)] [(.ref o101), (.ref o101)])
  refine Go.of (fun _ hr => XS.iconst X101.here hx rfl (hb hby d3_4) hr) ?_
  show Go p e s below _ _ _ _ T101 (mkF m 5 #[.val (.int c1)] [(.int (0 : Int32)), (.ref o101), (.ref o101)])
  refine Go.of (fun _ hr => XS.iloadN X101.here hx rfl (hb hby d3_5) rfl  hr) ?_
  show Go p e s below _ _ _ _ T101 (mkF m 6 #[.val (.int c1)] [(.int c1), (.int (0 : Int32)), (.ref o101), (.ref o101)])
  refine Go.of (fun _ hr => XS.i2b X101.here hx rfl (hb hby d3_6) rfl hr) ?_
  show Go p e s below _ _ _ _ T101 (mkF m 7 #[.val (.int c1)] [(.int (c1.toInt8.toInt32)), (.int (0 : Int32)), (.ref o101), (.ref o101)])
  obtain ⟨cl102, Ar102, q102, S102, N102_, H102, G102⟩ := id V101
  have hin102 : ¬ ((0 : Int32) < 0 ∨ cl102.slots.size ≤ ((0 : Int32)).toNatClampNeg) := inb_of S102 ⟨by decide, by decide⟩
  obtain ⟨T102, h102, X102, e102, W102, st102⟩ := stB X101 hx hZ e101 Ar102 (j := (0 : Int32)) hin102 (g := (mkF m 7 #[.val (.int c1)] [(.int (c1.toInt8.toInt32)), (.int (0 : Int32)), (.ref o101), (.ref o101)])) rfl rfl (hb hby d3_7)
  have W102' := W102
  rw [show nar .byte (c1.toInt8.toInt32) = (c1.toInt8.toInt32) from (nar_b _)] at W102'
  have V102 : Arv Z h102 o101 k101 .byte (1 : Int32) [(.int (c1.toInt8.toInt32))] (.int (0 : Int32)) := Arv.set Ar102 q102 S102 N102_ H102 G102 (fits_b _) W102' 0 rfl (by simp)
  have N102 := Fr.snoc X102 N0 fr101
  have J102 := J101.wr W102 trivial
  have B102 := B101.mono (Nat.le_of_eq W102.size.symm)
  have O102 := O101.wr W102 (Nat.le_trans (own_ole O0) fr101)
  have K102 := K101.wr W102 (Or.inr sz101)
  refine Go.of (fun _ hr => st102 _ hr) ?_
  show Go p e s below _ _ _ _ T102 (mkF m 8 #[.val (.int c1)] [(.ref o101)])
  exact Go.retA X102 hx hlk B102 (J102.sub fun x hx => (List.mem_cons_of_mem _ hx)) e102 hret rfl rfl (hb hby d3_8) (by decide) (by decide) (fun vm_ hw_ => ⟨_, _, rfl, (fun y hy => Nat.le_trans hnb (N102 y hy)), keep_ext K102, sz101, V102⟩)

theorem pn1 : plainName "java/lang/String" = true := by first | (simp [plainName, overriddenIn]; done) | decide +kernel
theorem d4_0 : decode jdk_42_method_151_code 0 = .ok (.aload_n 0, 1) := by decide +kernel
theorem d4_1 : decode jdk_42_method_151_code 1 = .ok (.invokespecial 1, 3) := by decide +kernel
theorem d4_4 : decode jdk_42_method_151_code 4 = .ok (.aload_n 0, 1) := by decide +kernel
theorem d4_5 : decode jdk_42_method_151_code 5 = .ok (.aload_n 1, 1) := by decide +kernel
theorem d4_6 : decode jdk_42_method_151_code 6 = .ok (.putfield 9, 3) := by decide +kernel
theorem d4_9 : decode jdk_42_method_151_code 9 = .ok (.aload_n 0, 1) := by decide +kernel
theorem d4_10 : decode jdk_42_method_151_code 10 = .ok (.iload_n 2, 1) := by decide +kernel
theorem d4_11 : decode jdk_42_method_151_code 11 = .ok (.putfield 15, 3) := by decide +kernel
theorem d4_14 : decode jdk_42_method_151_code 14 = .ok (.return_, 1) := by decide +kernel
set_option maxRecDepth 65536 in
set_option maxHeartbeats 40000000 in
theorem rm4 (l : Launch) (Z : State) (a0 : Array Value) (hw : ∀ d ∈ tables_1, d.before a0 Z = true) (ws : List Jvm.Cond) (a1 a2 : Addr) (u1 u2 : Value) (ms : List Addr) (h0 : Heap) (n0 : Nat) (O0 : Old Z n0 h0) (nb : Nat) (hb0 : n0 ≤ nb) (hnb : nb ≤ h0.size) (fr_a1 : nb ≤ a1) (hm_a1 : True) (E1 : Exa Z h0 a1 "java/lang/String") (F1 : Fld Z h0 a1 "java/lang/String" "value" "[B" u1) (F2 : Fld Z h0 a1 "java/lang/String" "coder" "B" u2) :
    Con l Z ms (⟨"java/lang/String", "<init>", "([BB)V"⟩ : MethodName) jdk_42_method_151_code 3 none ws ({ frames := 1, cells := 0, slots := 0, locals := 12 } : Room) #[(.ref a1), (.ref a2), (.int (0 : Int32))] h0 (fun v vm h L => v = none ∧ Fr nb L ∧ Keep h0 h [a1] ∧ Fld Z h a1 "java/lang/String" "value" "[B" (.ref a2) ∧ Fld Z h a1 "java/lang/String" "coder" "B" (.int 0)) := by
  refine Con.mk (plainFor_of_name pn1) ?_
  intro p e s m below meth c s₁ Cc X0 e0 eb J0 B0 M0
  obtain ⟨hx, hZ, hown, hby, hml, hnm, hret, hlk⟩ := id Cc
  have N0 := Fr.nil nb
  have K0 := Keep.refl h0 [a1]
  show Go p e s below _ _ _ _ s₁ (mkF m 0 #[.val (.ref a1), .val (.ref a2), .val (.int (0 : Int32))] [])
  refine Go.of (fun _ hr => XS.aloadN X0.here hx rfl (hb hby d4_0) rfl rfl hr) ?_
  show Go p e s below _ _ _ _ s₁ (mkF m 1 #[.val (.ref a1), .val (.ref a2), .val (.int (0 : Int32))] [(.ref a1)])
  obtain ⟨T101, X101, e101, st101⟩ := initO X0 hx hZ hown (hw _ (List.mem_of_getElem? (i := 22) rfl)) (hw _ (List.mem_of_getElem? (i := 23) rfl)) (hw _ (List.mem_of_getElem? (i := 24) rfl)) e0 (g := (mkF m 1 #[.val (.ref a1), .val (.ref a2), .val (.int (0 : Int32))] [(.ref a1)])) rfl (by rw [hml]; rfl) rfl (hb hby d4_1) (by decide) (W := 0) (by show 2 * 0 + _ ≤ _; exact Nat.le_of_eq rfl) (by decide)
  refine Go.of (fun _ hr => st101 _ hr) ?_
  show Go p e s below _ _ _ _ T101 (mkF m 4 #[.val (.ref a1), .val (.ref a2), .val (.int (0 : Int32))] [])
  refine Go.of (fun _ hr => XS.aloadN X101.here hx rfl (hb hby d4_4) rfl rfl hr) ?_
  show Go p e s below _ _ _ _ T101 (mkF m 5 #[.val (.ref a1), .val (.ref a2), .val (.int (0 : Int32))] [(.ref a1)])
  refine Go.of (fun _ hr => XS.aloadN X101.here hx rfl (hb hby d4_5) rfl rfl hr) ?_
  show Go p e s below _ _ _ _ T101 (mkF m 6 #[.val (.ref a1), .val (.ref a2), .val (.int (0 : Int32))] [(.ref a2), (.ref a1)])
  obtain ⟨T102, h102, X102, e102, W102, st102⟩ := putF X101 hx hZ hown (host := "") (Or.inl (hw _ (List.mem_of_getElem? (i := 25) rfl))) Via.refl e101 F1 E1 (Or.inr ⟨(hw _ (List.mem_of_getElem? (i := 26) rfl)), rfl, hnm⟩) (hw _ (List.mem_of_getElem? (i := 13) rfl)) (ty := (.array .byte)) (by decide) rfl rfl (g := (mkF m 6 #[.val (.ref a1), .val (.ref a2), .val (.int (0 : Int32))] [(.ref a2), (.ref a1)])) rfl rfl (hb hby d4_6)
  have N102 := Fr.snoc X102 N0 fr_a1
  have J102 := J0.wr W102 trivial
  have B102 := B0.mono (Nat.le_of_eq W102.size.symm)
  have O102 := O0.wr W102 (Nat.le_trans hb0 fr_a1)
  have K102 := K0.wr W102 (Or.inl (List.mem_of_getElem? (i := 0) rfl))
  have Fw102 := F1.same W102
  refine Go.of (fun _ hr => st102 _ hr) ?_
  show Go p e s below _ _ _ _ T102 (mkF m 9 #[.val (.ref a1), .val (.ref a2), .val (.int (0 : Int32))] [])
  refine Go.of (fun _ hr => XS.aloadN X102.here hx rfl (hb hby d4_9) rfl rfl hr) ?_
  show Go p e s below _ _ _ _ T102 (mkF m 10 #[.val (.ref a1), .val (.ref a2), .val (.int (0 : Int32))] [(.ref a1)])
  refine Go.of (fun _ hr => XS.iloadN X102.here hx rfl (hb hby d4_10) rfl  hr) ?_
  show Go p e s below _ _ _ _ T102 (mkF m 11 #[.val (.ref a1), .val (.ref a2), .val (.int (0 : Int32))] [(.int (0 : Int32)), (.ref a1)])
  have f104 := (F2.other W102 (Or.inr (slot_ne (Or.inr (hw _ (List.mem_of_getElem? (i := 28) rfl))) (Or.inr (hw _ (List.mem_of_getElem? (i := 26) rfl))) (by decide) (t := .byte) (t' := (.array .byte)) (by decide) (by decide))))
  have f105 := (E1.wr W102)
  obtain ⟨T103, h103, X103, e103, W103, st103⟩ := putFN X102 hx hZ hown (hw _ (List.mem_of_getElem? (i := 27) rfl)) Via.refl e102 f104 f105 (Or.inr ⟨(hw _ (List.mem_of_getElem? (i := 28) rfl)), rfl, hnm⟩) (hw _ (List.mem_of_getElem? (i := 13) rfl)) (ty := .byte) (v' := (.int (0 : Int32))) (by decide) rfl rfl (g := (mkF m 11 #[.val (.ref a1), .val (.ref a2), .val (.int (0 : Int32))] [(.int (0 : Int32)), (.ref a1)])) rfl rfl (hb hby d4_11)
  have N103 := Fr.snoc X103 N102 fr_a1
  have J103 := J102.wr W103 trivial
  have B103 := B102.mono (Nat.le_of_eq W103.size.symm)
  have O103 := O102.wr W103 (Nat.le_trans hb0 fr_a1)
  have K103 := K102.wr W103 (Or.inl (List.mem_of_getElem? (i := 0) rfl))
  have Fw103 := f104.same W103
  refine Go.of (fun _ hr => st103 _ hr) ?_
  show Go p e s below _ _ _ _ T103 (mkF m 14 #[.val (.ref a1), .val (.ref a2), .val (.int (0 : Int32))] [])
  have f106 := (Fw102.other W103 (Or.inr (slot_ne (Or.inr (hw _ (List.mem_of_getElem? (i := 26) rfl))) (Or.inr (hw _ (List.mem_of_getElem? (i := 28) rfl))) (by decide) (t := (.array .byte)) (t' := .byte) (by decide) (by decide))))
  exact Go.retV X103 hx hlk B103 J103 e103 hret (hb hby d4_14) (by decide) (by decide) (fun vm_ hw_ => ⟨rfl, N103, K103, f106, Fw103⟩)

theorem d1_0 : decode jdk_42_method_139_code 0 = .ok (.getstatic 38, 3) := by decide +kernel
theorem d1_3 : decode jdk_42_method_139_code 3 = .ok (.ifCond .eq 23, 3) := by decide +kernel
theorem d1_6 : decode jdk_42_method_139_code 6 = .ok (.iload_n 0, 1) := by decide +kernel
theorem d1_7 : decode jdk_42_method_139_code 7 = .ok (.invokestatic 1015, 3) := by decide +kernel
theorem pd0 : parseMethodDescriptor "(C)Z" = some ⟨[.char], some .boolean⟩ := by decide +kernel
theorem d1_10 : decode jdk_42_method_139_code 10 = .ok (.ifCond .eq 16, 3) := by decide +kernel
theorem d1_13 : decode jdk_42_method_139_code 13 = .ok (.new 10, 3) := by decide +kernel
theorem d1_16 : decode jdk_42_method_139_code 16 = .ok (.dup, 1) := by decide +kernel
theorem d1_17 : decode jdk_42_method_139_code 17 = .ok (.iload_n 0, 1) := by decide +kernel
theorem d1_18 : decode jdk_42_method_139_code 18 = .ok (.invokestatic 1018, 3) := by decide +kernel
theorem pd1 : parseMethodDescriptor "(C)[B" = some ⟨[.char], some (.array .byte)⟩ := by decide +kernel
theorem d1_21 : decode jdk_42_method_139_code 21 = .ok (.iconst 0, 1) := by decide +kernel
theorem d1_22 : decode jdk_42_method_139_code 22 = .ok (.invokespecial 209, 3) := by decide +kernel
theorem pd2 : parseMethodDescriptor "([BB)V" = some ⟨[(.array .byte), .byte], none⟩ := by decide +kernel
theorem d1_25 : decode jdk_42_method_139_code 25 = .ok (.areturn, 1) := by decide +kernel
set_option maxRecDepth 65536 in
set_option maxHeartbeats 40000000 in
theorem rm1 (l : Launch) (Z : State) (a0 : Array Value) (hw : ∀ d ∈ tables_1, d.before a0 Z = true) (ws : List Jvm.Cond) (c1 : Int32) (zc : Int32) (ms : List Addr) (h0 : Heap) (n0 : Nat) (O0 : Old Z n0 h0) (nb : Nat) (hb0 : n0 ≤ nb) (hnb : nb ≤ h0.size) (q1 : ¬ 255 < c1) (S_C : Sta Z Z.heap "java/lang/String" "COMPACT_STRINGS" "Z" (.int zc)) (hzc : ¬ zc = 0) :
    Con l Z ms (⟨"java/lang/String", "valueOf", "(C)Ljava/lang/String;"⟩ : MethodName) jdk_42_method_139_code 1 (some (.object "java/lang/String")) ws ({ frames := 2, cells := 2, slots := 5, locals := 27 } : Room) #[(.int c1)] h0 (fun v vm h L => ∃ r t k, v = some (.ref r) ∧ Fr nb L ∧ Ext h0 h ∧ h0.size ≤ r ∧ h0.size ≤ t ∧ Exa Z h r "java/lang/String" ∧ Fld Z h r "java/lang/String" "value" "[B" (.ref t) ∧ Fld Z h r "java/lang/String" "coder" "B" (.int 0) ∧ Arv Z h t k .byte 1 [.int (lo8 c1)] (.int 0)) := by
  refine Con.mk (plainFor_of_name pn1) ?_
  intro p e s m below meth c s₁ Cc X0 e0 eb J0 B0 M0
  obtain ⟨hx, hZ, hown, hby, hml, hnm, hret, hlk⟩ := id Cc
  have N0 := Fr.nil h0.size
  have K0 := Keep.refl h0 []
  show Go p e s below _ _ _ _ s₁ (mkF m 0 #[.val (.int c1)] [])
  obtain ⟨T101, X101, e101, st101⟩ := getS2 X0 hx hZ hown (host := "") (Or.inl (hw _ (List.mem_of_getElem? (i := 7) rfl))) Via.refl e0 (S_C.ext O0.2) (g := (mkF m 0 #[.val (.int c1)] [])) rfl (hb hby d1_0)
  refine Go.of (fun _ hr => st101 _ hr) ?_
  show Go p e s below _ _ _ _ T101 (mkF m 3 #[.val (.int c1)] [(.int zc)])
  refine Go.of (fun _ hr => XS.ifNo X101.here hx rfl (hb hby d1_3) rfl ((if0 _ _).trans (feq hzc).1) hr) ?_
  show Go p e s below _ _ _ _ T101 (mkF m 6 #[.val (.int c1)] [])
  refine Go.of (fun _ hr => XS.iloadN X101.here hx rfl (hb hby d1_6) rfl  hr) ?_
  show Go p e s below _ _ _ _ T101 (mkF m 7 #[.val (.int c1)] [(.int c1)])
  obtain ⟨_, b102, T102, h102, L102, e102, Cc102, X102, B102, J102, g102, hQ102, st102⟩ := own_callS Cc B0 J0 X101 (hw _ (List.mem_of_getElem? (i := 8) rfl)) (hw _ (List.mem_of_getElem? (i := 9) rfl)) (hw _ (List.mem_of_getElem? (i := 10) rfl)) (hw _ (List.mem_of_getElem? (i := 11) rfl)) (by decide) (rm2 l Z a0 hw [] c1 _ h0 n0 O0 h0.size (own_ole O0) K0.1 q1) e101 (g := (mkF m 7 #[.val (.int c1)] [(.int c1)])) rfl (by rw [hml]; rfl) (argsL := [(.int c1)]) (rest := []) (lenOf pd0 rfl) rfl (W := 0) (by show 2 * 0 + _ ≤ _; exact Nat.le_of_eq rfl) (hb hby d1_7) (by decide) (by decide) (by decide) (by decide)
  obtain ⟨rfl, Nq102, hh102⟩ := hQ102
  have N102 := Fr.app N0 Nq102
  obtain ⟨hx, hZ, hown, hby, hml, hnm, hret, hlk⟩ := id Cc102
  rw [hh102] at e102 B102 J102
  refine Go.of st102 ?_
  show Go p e s below _ _ _ _ T102 (mkF m 10 #[.val (.int c1)] [(.int (1 : Int32))])
  refine Go.of (fun _ hr => XS.ifNo X102.here hx rfl (hb hby d1_10) rfl ((if0 _ _).trans (feq (by decide : ¬ ((1 : Int32) = (0 : Int32)))).1) hr) ?_
  show Go p e s below _ _ _ _ T102 (mkF m 13 #[.val (.int c1)] [])
  obtain ⟨T103, h103, X103, e103, E103, A103, D103, -, st103⟩ := newO X102 hx hZ hown (hw _ (List.mem_of_getElem? (i := 12) rfl)) (hw _ (List.mem_of_getElem? (i := 13) rfl)) (hw _ (List.mem_of_getElem? (i := 5) rfl)) e102 (g := (mkF m 13 #[.val (.int c1)] [])) rfl (hb hby d1_13) (by decide) (by decide)
  obtain ⟨o103, g103⟩ : ∃ z, z = h0.size := ⟨_, rfl⟩
  rw [← g103] at A103 D103 st103
  have lt103 : o103 < h103.size := A103.lt
  have J103 := J102.add E103 g103 lt103
  have B103 := B102.mono E103.1
  have O103 := O0.ext E103
  have sz103 : h0.size ≤ o103 := Nat.le_trans K0.1 (Nat.le_of_eq g103.symm)
  have fr103 : h0.size ≤ o103 := sz103
  have K103 := K0.ext E103
  have F103_value : Fld Z h103 o103 "java/lang/String" "value" "[B" .null := D103 (Or.inr (hw _ (List.mem_of_getElem? (i := 26) rfl))) (ty := (.array .byte)) (by decide)
  have F103_coder : Fld Z h103 o103 "java/lang/String" "coder" "B" (.int (0 : Int32)) := D103 (Or.inr (hw _ (List.mem_of_getElem? (i := 28) rfl))) (ty := .byte) (by decide)
  refine Go.of (fun _ hr => st103 _ hr) ?_
  show Go p e s below _ _ _ _ T103 (mkF m 16 #[.val (.int c1)] [(.ref o103)])
  refine Go.of (fun _ hr => XS.dup X103.here hx rfl (hb hby d1_16) rfl rfl hr) ?_
  show Go p e s below _ _ _ _ T103 (mkF m 17 #[.val (.int c1)] [(.ref o103), (.ref o103)])
  refine Go.of (fun _ hr => XS.iloadN X103.here hx rfl (hb hby d1_17) rfl  hr) ?_
  show Go p e s below _ _ _ _ T103 (mkF m 18 #[.val (.int c1)] [(.int c1), (.ref o103), (.ref o103)])
  obtain ⟨_, b104, T104, h104, L104, e104, Cc104, X104, B104, J104, g104, hQ104, st104⟩ := own_callS Cc102 B103 J103 X103 (hw _ (List.mem_of_getElem? (i := 14) rfl)) (hw _ (List.mem_of_getElem? (i := 15) rfl)) (hw _ (List.mem_of_getElem? (i := 10) rfl)) (hw _ (List.mem_of_getElem? (i := 16) rfl)) (by decide) (rm3 l Z a0 hw [] c1 _ h103 n0 O103 h0.size (own_ole O0) K103.1) e103 (g := (mkF m 18 #[.val (.int c1)] [(.int c1), (.ref o103), (.ref o103)])) rfl (by rw [hml]; rfl) (argsL := [(.int c1)]) (rest := [(.ref o103), (.ref o103)]) (lenOf pd1 rfl) rfl (W := 2) (by show 2 * 0 + _ ≤ _; exact Nat.le_of_eq rfl) (hb hby d1_18) (by decide) (by decide) (by decide) (by decide)
  obtain ⟨r104, kr104, rfl, Nq104, Eq104, R_r104, Vr104⟩ := hQ104
  have N104 := Fr.app N102 Nq104
  obtain ⟨hx, hZ, hown, hby, hml, hnm, hret, hlk⟩ := id Cc104
  have sz_r104 : h0.size ≤ r104 := Nat.le_trans K103.1 R_r104
  have fr_r104 : h0.size ≤ r104 := sz_r104
  have ne_o103_r104 : o103 ≠ r104 := Nat.ne_of_lt (Nat.lt_of_lt_of_le A103.lt R_r104)
  have K104 := K103.ext Eq104
  have O104 := O103.ext Eq104
  refine Go.of st104 ?_
  show Go p e s below _ _ _ _ T104 (mkF m 21 #[.val (.int c1)] [(.ref r104), (.ref o103), (.ref o103)])
  refine Go.of (fun _ hr => XS.iconst X104.here hx rfl (hb hby d1_21) hr) ?_
  show Go p e s below _ _ _ _ T104 (mkF m 22 #[.val (.int c1)] [(.int (0 : Int32)), (.ref r104), (.ref o103), (.ref o103)])
  have f106 := (A103.ext Eq104)
  have f107 := (F103_value.ext Eq104)
  have f108 := (F103_coder.ext Eq104)
  obtain ⟨_, b105, T105, h105, L105, e105, Cc105, X105, B105, J105, g105, hQ105, st105⟩ := own_callI Cc104 B104 J104 X104 rfl (hw _ (List.mem_of_getElem? (i := 18) rfl)) (hw _ (List.mem_of_getElem? (i := 19) rfl)) (hw _ (List.mem_of_getElem? (i := 5) rfl)) (hw _ (List.mem_of_getElem? (i := 21) rfl)) (by decide) (rm4 l Z a0 hw [] o103 r104 _ _ _ h104 n0 O104 h0.size (own_ole O0) K104.1 fr103 trivial f106 f107 f108) e104 (g := (mkF m 22 #[.val (.int c1)] [(.int (0 : Int32)), (.ref r104), (.ref o103), (.ref o103)])) rfl (by rw [hml]; rfl) (argsL := [(.ref r104), (.int (0 : Int32))]) (rest := [(.ref o103)]) (lenOf pd2 rfl) rfl (W := 1) (by show 2 * 0 + _ ≤ _; exact Nat.le_of_eq rfl) (hb hby d1_22) (by decide) (by decide) (by decide) (by decide)
  obtain ⟨rfl, Nq105, Kq105, Fv105, Fc105⟩ := hQ105
  have N105 := Fr.app N104 Nq105
  obtain ⟨hx, hZ, hown, hby, hml, hnm, hret, hlk⟩ := id Cc105
  have K105 := K104.trans Kq105 (allS (Or.inr sz103) all0)
  have O105 := O104.keep Kq105 (allS (Nat.le_trans (own_ole O0) fr103) all0)
  refine Go.of st105 ?_
  show Go p e s below _ _ _ _ T105 (mkF m 25 #[.val (.int c1)] [(.ref o103)])
  have f109 := (f106.keep Kq105)
  have f110 := (Vr104.keep Kq105 (ninS (Ne.symm ne_o103_r104) nin0))
  exact Go.retA X105 hx hlk B105 (J105.sub fun x hx => (List.mem_cons_of_mem _ hx)) e105 hret rfl rfl (hb hby d1_25) (by decide) (by decide) (fun vm_ hw_ => ⟨_, _, _, rfl, (fun y hy => Nat.le_trans hnb (N105 y hy)), keep_ext K105, sz103, sz_r104, f109, Fv105, Fc105, f110⟩)

theorem pn2 : plainName "java/util/Objects" = true := by first | (simp [plainName, overriddenIn]; done) | decide +kernel
theorem d7_0 : decode jdk_31_method_11_code 0 = .ok (.aload_n 0, 1) := by decide +kernel
theorem d7_1 : decode jdk_31_method_11_code 1 = .ok (.ifnonnull 12, 3) := by decide +kernel
theorem d7_13 : decode jdk_31_method_11_code 13 = .ok (.aload_n 0, 1) := by decide +kernel
theorem d7_14 : decode jdk_31_method_11_code 14 = .ok (.areturn, 1) := by decide +kernel
set_option maxRecDepth 65536 in
set_option maxHeartbeats 40000000 in
theorem rm7 (l : Launch) (Z : State) (a0 : Array Value) (hw : ∀ d ∈ tables_1, d.before a0 Z = true) (ws : List Jvm.Cond) (a1 a2 : Addr) (ms : List Addr) (h0 : Heap) (n0 : Nat) (O0 : Old Z n0 h0) (nb : Nat) (hb0 : n0 ≤ nb) (hnb : nb ≤ h0.size) :
    Con l Z ms (⟨"java/util/Objects", "requireNonNull", "(Ljava/lang/Object;Ljava/lang/String;)Ljava/lang/Object;"⟩ : MethodName) jdk_31_method_11_code 2 (some (.object "java/lang/Object")) ws ({ frames := 0, cells := 0, slots := 0, locals := 0 } : Room) #[(.ref a1), (.ref a2)] h0 (fun v vm h L => v = some (.ref a1) ∧ Fr nb L ∧ h = h0) := by
  refine Con.mk (plainFor_of_name pn2) ?_
  intro p e s m below meth c s₁ Cc X0 e0 eb J0 B0 M0
  obtain ⟨hx, hZ, hown, hby, hml, hnm, hret, hlk⟩ := id Cc
  have N0 := Fr.nil h0.size
  have K0 := Keep.refl h0 []
  show Go p e s below _ _ _ _ s₁ (mkF m 0 #[.val (.ref a1), .val (.ref a2)] [])
  refine Go.of (fun _ hr => XS.aloadN X0.here hx rfl (hb hby d7_0) rfl rfl hr) ?_
  show Go p e s below _ _ _ _ s₁ (mkF m 1 #[.val (.ref a1), .val (.ref a2)] [(.ref a1)])
  refine Go.of (fun _ hr => XS.ifnonnullYes X0.here hx rfl (pc0 := 1) (pc' := 13) rfl (hb hby d7_1) rfl (by decide) (by decide) hr) ?_
  show Go p e s below _ _ _ _ s₁ (mkF m 13 #[.val (.ref a1), .val (.ref a2)] [])
  refine Go.of (fun _ hr => XS.aloadN X0.here hx rfl (hb hby d7_13) rfl rfl hr) ?_
  show Go p e s below _ _ _ _ s₁ (mkF m 14 #[.val (.ref a1), .val (.ref a2)] [(.ref a1)])
  exact Go.retA X0 hx hlk B0 J0 e0 hret rfl rfl (hb hby d7_14) (by decide) (by decide) (fun vm_ hw_ => ⟨rfl, (fun y hy => Nat.le_trans hnb (N0 y hy)), rfl⟩)

theorem d31_0 : decode jdk_31_method_10_code 0 = .ok (.aload_n 0, 1) := by decide +kernel
theorem d31_1 : decode jdk_31_method_10_code 1 = .ok (.ifnonnull 11, 3) := by decide +kernel
theorem d31_12 : decode jdk_31_method_10_code 12 = .ok (.aload_n 0, 1) := by decide +kernel
theorem d31_13 : decode jdk_31_method_10_code 13 = .ok (.areturn, 1) := by decide +kernel
set_option maxRecDepth 65536 in
set_option maxHeartbeats 40000000 in
theorem rm31 (l : Launch) (Z : State) (a0 : Array Value) (hw : ∀ d ∈ tables_1, d.before a0 Z = true) (ws : List Jvm.Cond) (a1 : Addr) (ms : List Addr) (h0 : Heap) (n0 : Nat) (O0 : Old Z n0 h0) (nb : Nat) (hb0 : n0 ≤ nb) (hnb : nb ≤ h0.size) :
    Con l Z ms (⟨"java/util/Objects", "requireNonNull", "(Ljava/lang/Object;)Ljava/lang/Object;"⟩ : MethodName) jdk_31_method_10_code 1 (some (.object "java/lang/Object")) ws ({ frames := 0, cells := 0, slots := 0, locals := 0 } : Room) #[(.ref a1)] h0 (fun v vm h L => v = some (.ref a1) ∧ Fr nb L ∧ h = h0) := by
  refine Con.mk (plainFor_of_name pn2) ?_
  intro p e s m below meth c s₁ Cc X0 e0 eb J0 B0 M0
  obtain ⟨hx, hZ, hown, hby, hml, hnm, hret, hlk⟩ := id Cc
  have N0 := Fr.nil h0.size
  have K0 := Keep.refl h0 []
  show Go p e s below _ _ _ _ s₁ (mkF m 0 #[.val (.ref a1)] [])
  refine Go.of (fun _ hr => XS.aloadN X0.here hx rfl (hb hby d31_0) rfl rfl hr) ?_
  show Go p e s below _ _ _ _ s₁ (mkF m 1 #[.val (.ref a1)] [(.ref a1)])
  refine Go.of (fun _ hr => XS.ifnonnullYes X0.here hx rfl (pc0 := 1) (pc' := 12) rfl (hb hby d31_1) rfl (by decide) (by decide) hr) ?_
  show Go p e s below _ _ _ _ s₁ (mkF m 12 #[.val (.ref a1)] [])
  refine Go.of (fun _ hr => XS.aloadN X0.here hx rfl (hb hby d31_12) rfl rfl hr) ?_
  show Go p e s below _ _ _ _ s₁ (mkF m 13 #[.val (.ref a1)] [(.ref a1)])
  exact Go.retA X0 hx hlk B0 J0 e0 hret rfl rfl (hb hby d31_13) (by decide) (by decide) (fun vm_ hw_ => ⟨rfl, (fun y hy => Nat.le_trans hnb (N0 y hy)), rfl⟩)

theorem pn3 : plainName "com/example/dispatcher/dispatcher/web/FieldError" = true := by first | (simp [plainName, overriddenIn]; done) | decide +kernel
theorem d6_0 : decode prog_72_method_1_code 0 = .ok (.aload_n 0, 1) := by decide +kernel
theorem d6_1 : decode prog_72_method_1_code 1 = .ok (.invokespecial 1, 3) := by decide +kernel
theorem d6_4 : decode prog_72_method_1_code 4 = .ok (.aload_n 0, 1) := by decide +kernel
theorem d6_5 : decode prog_72_method_1_code 5 = .ok (.aload_n 1, 1) := by decide +kernel
theorem d6_6 : decode prog_72_method_1_code 6 = .ok (.ldc 7, 2) := by decide +kernel
theorem d6_8 : decode prog_72_method_1_code 8 = .ok (.invokestatic 9, 3) := by decide +kernel
theorem pd3 : parseMethodDescriptor "(Ljava/lang/Object;Ljava/lang/String;)Ljava/lang/Object;" = some ⟨[(.object "java/lang/Object"), (.object "java/lang/String")], some (.object "java/lang/Object")⟩ := by decide +kernel
theorem d6_11 : decode prog_72_method_1_code 11 = .ok (.checkcast 15, 3) := by decide +kernel
theorem d6_14 : decode prog_72_method_1_code 14 = .ok (.putfield 17, 3) := by decide +kernel
theorem d6_17 : decode prog_72_method_1_code 17 = .ok (.aload_n 0, 1) := by decide +kernel
theorem d6_18 : decode prog_72_method_1_code 18 = .ok (.aload_n 2, 1) := by decide +kernel
theorem d6_19 : decode prog_72_method_1_code 19 = .ok (.ldc 22, 2) := by decide +kernel
theorem d6_21 : decode prog_72_method_1_code 21 = .ok (.invokestatic 9, 3) := by decide +kernel
theorem d6_24 : decode prog_72_method_1_code 24 = .ok (.checkcast 15, 3) := by decide +kernel
theorem d6_27 : decode prog_72_method_1_code 27 = .ok (.putfield 24, 3) := by decide +kernel
theorem d6_30 : decode prog_72_method_1_code 30 = .ok (.return_, 1) := by decide +kernel
set_option maxRecDepth 65536 in
set_option maxHeartbeats 40000000 in
theorem rm6 (l : Launch) (Z : State) (a0 : Array Value) (hw : ∀ d ∈ tables_1, d.before a0 Z = true) (ws : List Jvm.Cond) (a1 a2 a3 : Addr) (u1 u2 : Value) (ms : List Addr) (h0 : Heap) (n0 : Nat) (O0 : Old Z n0 h0) (nb : Nat) (hb0 : n0 ≤ nb) (hnb : nb ≤ h0.size) (fr_a1 : nb ≤ a1) (hm_a1 : True) (E1 : Exa Z h0 a1 "com/example/dispatcher/dispatcher/web/FieldError") (F1 : Fld Z h0 a1 "com/example/dispatcher/dispatcher/web/FieldError" "field" "Ljava/lang/String;" u1) (F2 : Fld Z h0 a1 "com/example/dispatcher/dispatcher/web/FieldError" "message" "Ljava/lang/String;" u2) (E2 : Exa Z h0 a2 "java/lang/String") (E3 : Exa Z h0 a3 "java/lang/String") :
    Con l Z ms (⟨"com/example/dispatcher/dispatcher/web/FieldError", "<init>", "(Ljava/lang/String;Ljava/lang/String;)V"⟩ : MethodName) prog_72_method_1_code 3 none ws ({ frames := 1, cells := 4, slots := 56, locals := 14 } : Room) #[(.ref a1), (.ref a2), (.ref a3)] h0 (fun v vm h L => v = none ∧ Fr nb L ∧ Keep h0 h [a1]) := by
  refine Con.mk (plainFor_of_name pn3) ?_
  intro p e s m below meth c s₁ Cc X0 e0 eb J0 B0 M0
  obtain ⟨hx, hZ, hown, hby, hml, hnm, hret, hlk⟩ := id Cc
  have N0 := Fr.nil nb
  have K0 := Keep.refl h0 [a1]
  show Go p e s below _ _ _ _ s₁ (mkF m 0 #[.val (.ref a1), .val (.ref a2), .val (.ref a3)] [])
  refine Go.of (fun _ hr => XS.aloadN X0.here hx rfl (hb hby d6_0) rfl rfl hr) ?_
  show Go p e s below _ _ _ _ s₁ (mkF m 1 #[.val (.ref a1), .val (.ref a2), .val (.ref a3)] [(.ref a1)])
  obtain ⟨T101, X101, e101, st101⟩ := initO X0 hx hZ hown (hw _ (List.mem_of_getElem? (i := 32) rfl)) (hw _ (List.mem_of_getElem? (i := 23) rfl)) (hw _ (List.mem_of_getElem? (i := 24) rfl)) e0 (g := (mkF m 1 #[.val (.ref a1), .val (.ref a2), .val (.ref a3)] [(.ref a1)])) rfl (by rw [hml]; rfl) rfl (hb hby d6_1) (by decide) (W := 0) (by show 2 * 0 + _ ≤ _; exact Nat.le_of_eq rfl) (by decide)
  refine Go.of (fun _ hr => st101 _ hr) ?_
  show Go p e s below _ _ _ _ T101 (mkF m 4 #[.val (.ref a1), .val (.ref a2), .val (.ref a3)] [])
  refine Go.of (fun _ hr => XS.aloadN X101.here hx rfl (hb hby d6_4) rfl rfl hr) ?_
  show Go p e s below _ _ _ _ T101 (mkF m 5 #[.val (.ref a1), .val (.ref a2), .val (.ref a3)] [(.ref a1)])
  refine Go.of (fun _ hr => XS.aloadN X101.here hx rfl (hb hby d6_5) rfl rfl hr) ?_
  show Go p e s below _ _ _ _ T101 (mkF m 6 #[.val (.ref a1), .val (.ref a2), .val (.ref a3)] [(.ref a2), (.ref a1)])
  obtain ⟨o102, b102, T102, h102, e102, Cc102, X102, B102, J102, E102, st102⟩ := own_ldcS Cc B0 J0 X101 (hw _ (List.mem_of_getElem? (i := 33) rfl)) (own_wS Z a0 hw) e101 (g := (mkF m 6 #[.val (.ref a1), .val (.ref a2), .val (.ref a3)] [(.ref a2), (.ref a1)])) rfl (hb hby d6_6) (n := 20) (by decide) (by decide) (by decide) (by decide)
  obtain ⟨hx, hZ, hown, hby, hml, hnm, hret, hlk⟩ := id Cc102
  have K102 := K0.ext E102
  have O102 := O0.ext E102
  refine Go.of (fun _ hr => st102 _ hr) ?_
  show Go p e s below _ _ _ _ T102 (mkF m 8 #[.val (.ref a1), .val (.ref a2), .val (.ref a3)] [(.ref o102), (.ref a2), (.ref a1)])
  obtain ⟨_, b103, T103, h103, L103, e103, Cc103, X103, B103, J103, g103, hQ103, st103⟩ := own_callS Cc102 B102 J102 X102 (hw _ (List.mem_of_getElem? (i := 36) rfl)) (hw _ (List.mem_of_getElem? (i := 37) rfl)) (hw _ (List.mem_of_getElem? (i := 38) rfl)) (hw _ (List.mem_of_getElem? (i := 39) rfl)) (by decide) (rm7 l Z a0 hw [] a2 o102 _ h102 n0 O102 h0.size (own_ole O0) K102.1) e102 (g := (mkF m 8 #[.val (.ref a1), .val (.ref a2), .val (.ref a3)] [(.ref o102), (.ref a2), (.ref a1)])) rfl (by rw [hml]; rfl) (argsL := [(.ref a2), (.ref o102)]) (rest := [(.ref a1)]) (lenOf pd3 rfl) rfl (W := 1) (by show 2 * 0 + _ ≤ _; exact Nat.le_of_eq rfl) (hb hby d6_8) (by decide) (by decide) (by decide) (by decide)
  obtain ⟨rfl, Nq103, hh103⟩ := hQ103
  have N103 := Fr.app N0 (show Fr nb _ from fun y hy => Nat.le_trans hnb (Nq103 y hy))
  have NS103 := Fr.app (Fr.nil _) Nq103
  obtain ⟨hx, hZ, hown, hby, hml, hnm, hret, hlk⟩ := id Cc103
  rw [hh103] at e103 B103 J103
  refine Go.of st103 ?_
  show Go p e s below _ _ _ _ T103 (mkF m 11 #[.val (.ref a1), .val (.ref a2), .val (.ref a3)] [(.ref a2), (.ref a1)])
  have f105 := (E2.ext E102)
  obtain ⟨T104, X104, e104, st104⟩ := castY X103 hx hZ hown (hw _ (List.mem_of_getElem? (i := 40) rfl)) e103 (Ins.self f105) (g := (mkF m 11 #[.val (.ref a1), .val (.ref a2), .val (.ref a3)] [(.ref a2), (.ref a1)])) rfl rfl (hb hby d6_11)
  refine Go.of (fun _ hr => st104 _ hr) ?_
  show Go p e s below _ _ _ _ T104 (mkF m 14 #[.val (.ref a1), .val (.ref a2), .val (.ref a3)] [(.ref a2), (.ref a1)])
  have f107 := (F1.ext E102)
  have f108 := (E1.ext E102)
  obtain ⟨T106, h106, X106, e106, W106, st106⟩ := putF X104 hx hZ hown (host := "") (Or.inl (hw _ (List.mem_of_getElem? (i := 41) rfl))) Via.refl e104 f107 f108 (Or.inr ⟨(hw _ (List.mem_of_getElem? (i := 42) rfl)), rfl, hnm⟩) (hw _ (List.mem_of_getElem? (i := 1) rfl)) (ty := (.object "java/lang/String")) (by decide) rfl rfl (g := (mkF m 14 #[.val (.ref a1), .val (.ref a2), .val (.ref a3)] [(.ref a2), (.ref a1)])) rfl rfl (hb hby d6_14)
  have N106 := Fr.snoc X106 N103 fr_a1
  have J106 := J103.wr W106 trivial
  have B106 := B103.mono (Nat.le_of_eq W106.size.symm)
  have O106 := O102.wr W106 (Nat.le_trans hb0 fr_a1)
  have K106 := K102.wr W106 (Or.inl (List.mem_of_getElem? (i := 0) rfl))
  have Fw106 := f107.same W106
  refine Go.of (fun _ hr => st106 _ hr) ?_
  show Go p e s below _ _ _ _ T106 (mkF m 17 #[.val (.ref a1), .val (.ref a2), .val (.ref a3)] [])
  refine Go.of (fun _ hr => XS.aloadN X106.here hx rfl (hb hby d6_17) rfl rfl hr) ?_
  show Go p e s below _ _ _ _ T106 (mkF m 18 #[.val (.ref a1), .val (.ref a2), .val (.ref a3)] [(.ref a1)])
  refine Go.of (fun _ hr => XS.aloadN X106.here hx rfl (hb hby d6_18) rfl rfl hr) ?_
  show Go p e s below _ _ _ _ T106 (mkF m 19 #[.val (.ref a1), .val (.ref a2), .val (.ref a3)] [(.ref a3), (.ref a1)])
  obtain ⟨o109, b109, T109, h109, e109, Cc109, X109, B109, J109, E109, st109⟩ := own_ldcS Cc103 B106 J106 X106 (hw _ (List.mem_of_getElem? (i := 43) rfl)) (own_wS Z a0 hw) e106 (g := (mkF m 19 #[.val (.ref a1), .val (.ref a2), .val (.ref a3)] [(.ref a3), (.ref a1)])) rfl (hb hby d6_19) (n := 28) (by decide) (by decide) (by decide) (by decide)
  obtain ⟨hx, hZ, hown, hby, hml, hnm, hret, hlk⟩ := id Cc109
  have K109 := K106.ext E109
  have O109 := O106.ext E109
  refine Go.of (fun _ hr => st109 _ hr) ?_
  show Go p e s below _ _ _ _ T109 (mkF m 21 #[.val (.ref a1), .val (.ref a2), .val (.ref a3)] [(.ref o109), (.ref a3), (.ref a1)])
  obtain ⟨_, b110, T110, h110, L110, e110, Cc110, X110, B110, J110, g110, hQ110, st110⟩ := own_callS Cc109 B109 J109 X109 (hw _ (List.mem_of_getElem? (i := 36) rfl)) (hw _ (List.mem_of_getElem? (i := 37) rfl)) (hw _ (List.mem_of_getElem? (i := 38) rfl)) (hw _ (List.mem_of_getElem? (i := 39) rfl)) (by decide) (rm7 l Z a0 hw [] a3 o109 _ h109 n0 O109 h0.size (own_ole O0) K109.1) e109 (g := (mkF m 21 #[.val (.ref a1), .val (.ref a2), .val (.ref a3)] [(.ref o109), (.ref a3), (.ref a1)])) rfl (by rw [hml]; rfl) (argsL := [(.ref a3), (.ref o109)]) (rest := [(.ref a1)]) (lenOf pd3 rfl) rfl (W := 1) (by show 2 * 0 + _ ≤ _; exact Nat.le_of_eq rfl) (hb hby d6_21) (by decide) (by decide) (by decide) (by decide)
  obtain ⟨rfl, Nq110, hh110⟩ := hQ110
  have N110 := Fr.app N106 (show Fr nb _ from fun y hy => Nat.le_trans hnb (Nq110 y hy))
  obtain ⟨hx, hZ, hown, hby, hml, hnm, hret, hlk⟩ := id Cc110
  rw [hh110] at e110 B110 J110
  refine Go.of st110 ?_
  show Go p e s below _ _ _ _ T110 (mkF m 24 #[.val (.ref a1), .val (.ref a2), .val (.ref a3)] [(.ref a3), (.ref a1)])
  have f112 := (((E3.ext E102).wr W106).ext E109)
  obtain ⟨T111, X111, e111, st111⟩ := castY X110 hx hZ hown (hw _ (List.mem_of_getElem? (i := 40) rfl)) e110 (Ins.self f112) (g := (mkF m 24 #[.val (.ref a1), .val (.ref a2), .val (.ref a3)] [(.ref a3), (.ref a1)])) rfl rfl (hb hby d6_24)
  refine Go.of (fun _ hr => st111 _ hr) ?_
  show Go p e s below _ _ _ _ T111 (mkF m 27 #[.val (.ref a1), .val (.ref a2), .val (.ref a3)] [(.ref a3), (.ref a1)])
  have f114 := (((F2.ext E102).other W106 (Or.inr (slot_ne (Or.inr (hw _ (List.mem_of_getElem? (i := 45) rfl))) (Or.inr (hw _ (List.mem_of_getElem? (i := 42) rfl))) (by decide) (t := (.object "java/lang/String")) (t' := (.object "java/lang/String")) (by decide) (by decide)))).ext E109)
  have f115 := ((f108.wr W106).ext E109)
  obtain ⟨T113, h113, X113, e113, W113, st113⟩ := putF X111 hx hZ hown (host := "") (Or.inl (hw _ (List.mem_of_getElem? (i := 44) rfl))) Via.refl e111 f114 f115 (Or.inr ⟨(hw _ (List.mem_of_getElem? (i := 45) rfl)), rfl, hnm⟩) (hw _ (List.mem_of_getElem? (i := 1) rfl)) (ty := (.object "java/lang/String")) (by decide) rfl rfl (g := (mkF m 27 #[.val (.ref a1), .val (.ref a2), .val (.ref a3)] [(.ref a3), (.ref a1)])) rfl rfl (hb hby d6_27)
  have N113 := Fr.snoc X113 N110 fr_a1
  have J113 := J110.wr W113 trivial
  have B113 := B110.mono (Nat.le_of_eq W113.size.symm)
  have O113 := O109.wr W113 (Nat.le_trans hb0 fr_a1)
  have K113 := K109.wr W113 (Or.inl (List.mem_of_getElem? (i := 0) rfl))
  have Fw113 := f114.same W113
  refine Go.of (fun _ hr => st113 _ hr) ?_
  show Go p e s below _ _ _ _ T113 (mkF m 30 #[.val (.ref a1), .val (.ref a2), .val (.ref a3)] [])
  exact Go.retV X113 hx hlk B113 J113 e113 hret (hb hby d6_30) (by decide) (by decide) (fun vm_ hw_ => ⟨rfl, N113, K113⟩)

theorem pn4 : plainName "java/util/AbstractCollection" = true := by first | (simp [plainName, overriddenIn]; done) | decide +kernel
theorem d10_0 : decode jdk_22_method_1_code 0 = .ok (.aload_n 0, 1) := by decide +kernel
theorem d10_1 : decode jdk_22_method_1_code 1 = .ok (.invokespecial 1, 3) := by decide +kernel
theorem d10_4 : decode jdk_22_method_1_code 4 = .ok (.return_, 1) := by decide +kernel
set_option maxRecDepth 65536 in
set_option maxHeartbeats 40000000 in
theorem rm10 (l : Launch) (Z : State) (a0 : Array Value) (hw : ∀ d ∈ tables_1, d.before a0 Z = true) (ws : List Jvm.Cond) (a1 : Addr) (ms : List Addr) (h0 : Heap) (n0 : Nat) (O0 : Old Z n0 h0) (nb : Nat) (hb0 : n0 ≤ nb) (hnb : nb ≤ h0.size) :
    Con l Z ms (⟨"java/util/AbstractCollection", "<init>", "()V"⟩ : MethodName) jdk_22_method_1_code 1 none ws ({ frames := 1, cells := 0, slots := 0, locals := 12 } : Room) #[(.ref a1)] h0 (fun v vm h L => v = none ∧ Fr nb L ∧ h = h0) := by
  refine Con.mk (plainFor_of_name pn4) ?_
  intro p e s m below meth c s₁ Cc X0 e0 eb J0 B0 M0
  obtain ⟨hx, hZ, hown, hby, hml, hnm, hret, hlk⟩ := id Cc
  have N0 := Fr.nil h0.size
  have K0 := Keep.refl h0 []
  show Go p e s below _ _ _ _ s₁ (mkF m 0 #[.val (.ref a1)] [])
  refine Go.of (fun _ hr => XS.aloadN X0.here hx rfl (hb hby d10_0) rfl rfl hr) ?_
  show Go p e s below _ _ _ _ s₁ (mkF m 1 #[.val (.ref a1)] [(.ref a1)])
  obtain ⟨T101, X101, e101, st101⟩ := initO X0 hx hZ hown (hw _ (List.mem_of_getElem? (i := 64) rfl)) (hw _ (List.mem_of_getElem? (i := 23) rfl)) (hw _ (List.mem_of_getElem? (i := 24) rfl)) e0 (g := (mkF m 1 #[.val (.ref a1)] [(.ref a1)])) rfl (by rw [hml]; rfl) rfl (hb hby d10_1) (by decide) (W := 0) (by show 2 * 0 + _ ≤ _; exact Nat.le_of_eq rfl) (by decide)
  refine Go.of (fun _ hr => st101 _ hr) ?_
  show Go p e s below _ _ _ _ T101 (mkF m 4 #[.val (.ref a1)] [])
  exact Go.retV X101 hx hlk B0 J0 e101 hret (hb hby d10_4) (by decide) (by decide) (fun vm_ hw_ => ⟨rfl, (fun y hy => Nat.le_trans hnb (N0 y hy)), rfl⟩)

theorem pn5 : plainName "java/util/AbstractList" = true := by first | (simp [plainName, overriddenIn]; done) | decide +kernel
theorem d9_0 : decode jdk_39_method_1_code 0 = .ok (.aload_n 0, 1) := by decide +kernel
theorem d9_1 : decode jdk_39_method_1_code 1 = .ok (.invokespecial 1, 3) := by decide +kernel
theorem pd4 : parseMethodDescriptor "()V" = some ⟨[], none⟩ := by decide +kernel
theorem d9_4 : decode jdk_39_method_1_code 4 = .ok (.aload_n 0, 1) := by decide +kernel
theorem d9_5 : decode jdk_39_method_1_code 5 = .ok (.iconst 0, 1) := by decide +kernel
theorem d9_6 : decode jdk_39_method_1_code 6 = .ok (.putfield 7, 3) := by decide +kernel
theorem d9_9 : decode jdk_39_method_1_code 9 = .ok (.return_, 1) := by decide +kernel
set_option maxRecDepth 65536 in
set_option maxHeartbeats 40000000 in
theorem rm9 (l : Launch) (Z : State) (a0 : Array Value) (hw : ∀ d ∈ tables_1, d.before a0 Z = true) (ws : List Jvm.Cond) (a1 : Addr) (u1 : Value) (ms : List Addr) (h0 : Heap) (n0 : Nat) (O0 : Old Z n0 h0) (nb : Nat) (hb0 : n0 ≤ nb) (hnb : nb ≤ h0.size) (fr_a1 : nb ≤ a1) (hm_a1 : True) (E1 : Exa Z h0 a1 "java/util/ArrayList") (F1 : Fld Z h0 a1 "java/util/AbstractList" "modCount" "I" u1) :
    Con l Z ms (⟨"java/util/AbstractList", "<init>", "()V"⟩ : MethodName) jdk_39_method_1_code 1 none ws ({ frames := 2, cells := 0, slots := 0, locals := 24 } : Room) #[(.ref a1)] h0 (fun v vm h L => v = none ∧ Fr nb L ∧ Keep h0 h [a1] ∧ Fld Z h a1 "java/util/AbstractList" "modCount" "I" (.int 0)) := by
  refine Con.mk (plainFor_of_name pn5) ?_
  intro p e s m below meth c s₁ Cc X0 e0 eb J0 B0 M0
  obtain ⟨hx, hZ, hown, hby, hml, hnm, hret, hlk⟩ := id Cc
  have N0 := Fr.nil nb
  have K0 := Keep.refl h0 [a1]
  show Go p e s below _ _ _ _ s₁ (mkF m 0 #[.val (.ref a1)] [])
  refine Go.of (fun _ hr => XS.aloadN X0.here hx rfl (hb hby d9_0) rfl rfl hr) ?_
  show Go p e s below _ _ _ _ s₁ (mkF m 1 #[.val (.ref a1)] [(.ref a1)])
  obtain ⟨_, b101, T101, h101, L101, e101, Cc101, X101, B101, J101, g101, hQ101, st101⟩ := own_callI Cc B0 J0 X0 rfl (hw _ (List.mem_of_getElem? (i := 58) rfl)) (hw _ (List.mem_of_getElem? (i := 59) rfl)) (hw _ (List.mem_of_getElem? (i := 62) rfl)) (hw _ (List.mem_of_getElem? (i := 63) rfl)) (by decide) (rm10 l Z a0 hw [] a1 _ h0 n0 O0 h0.size (own_ole O0) K0.1) e0 (g := (mkF m 1 #[.val (.ref a1)] [(.ref a1)])) rfl (by rw [hml]; rfl) (argsL := []) (rest := []) (lenOf pd4 rfl) rfl (W := 0) (by show 2 * 0 + _ ≤ _; exact Nat.le_of_eq rfl) (hb hby d9_1) (by decide) (by decide) (by decide) (by decide)
  obtain ⟨rfl, Nq101, hh101⟩ := hQ101
  have N101 := Fr.app N0 (show Fr nb _ from fun y hy => Nat.le_trans hnb (Nq101 y hy))
  have NS101 := Fr.app (Fr.nil _) Nq101
  obtain ⟨hx, hZ, hown, hby, hml, hnm, hret, hlk⟩ := id Cc101
  rw [hh101] at e101 B101 J101
  refine Go.of st101 ?_
  show Go p e s below _ _ _ _ T101 (mkF m 4 #[.val (.ref a1)] [])
  refine Go.of (fun _ hr => XS.aloadN X101.here hx rfl (hb hby d9_4) rfl rfl hr) ?_
  show Go p e s below _ _ _ _ T101 (mkF m 5 #[.val (.ref a1)] [(.ref a1)])
  refine Go.of (fun _ hr => XS.iconst X101.here hx rfl (hb hby d9_5) hr) ?_
  show Go p e s below _ _ _ _ T101 (mkF m 6 #[.val (.ref a1)] [(.int (0 : Int32)), (.ref a1)])
  obtain ⟨T102, h102, X102, e102, W102, st102⟩ := putF X101 hx hZ hown (host := "") (Or.inl (hw _ (List.mem_of_getElem? (i := 65) rfl))) Via.refl e101 F1 E1 (Or.inl (hw _ (List.mem_of_getElem? (i := 66) rfl))) (hw _ (List.mem_of_getElem? (i := 47) rfl)) (ty := .int) (by decide) rfl rfl (g := (mkF m 6 #[.val (.ref a1)] [(.int (0 : Int32)), (.ref a1)])) rfl rfl (hb hby d9_6)
  have N102 := Fr.snoc X102 N101 fr_a1
  have J102 := J101.wr W102 trivial
  have B102 := B101.mono (Nat.le_of_eq W102.size.symm)
  have O102 := O0.wr W102 (Nat.le_trans hb0 fr_a1)
  have K102 := K0.wr W102 (Or.inl (List.mem_of_getElem? (i := 0) rfl))
  have Fw102 := F1.same W102
  refine Go.of (fun _ hr => st102 _ hr) ?_
  show Go p e s below _ _ _ _ T102 (mkF m 9 #[.val (.ref a1)] [])
  exact Go.retV X102 hx hlk B102 J102 e102 hret (hb hby d9_9) (by decide) (by decide) (fun vm_ hw_ => ⟨rfl, N102, K102, Fw102⟩)

set_option maxRecDepth 65536 in
set_option maxHeartbeats 40000000 in
theorem rmAbs (l : Launch) (Z : State) (a0 : Array Value) (hw : ∀ d ∈ tables_1, d.before a0 Z = true) (ws : List Jvm.Cond) (a1 : Addr) (u1 u2 u3 : Value) (ms : List Addr) (h0 : Heap) (n0 : Nat) (O0 : Old Z n0 h0) (nb : Nat) (hb0 : n0 ≤ nb) (hnb : nb ≤ h0.size) (fr_a1 : nb ≤ a1) (hm_a1 : True) (E1 : Exa Z h0 a1 "java/util/ArrayList") (F1 : Fld Z h0 a1 "java/util/AbstractList" "modCount" "I" u1) (F2 : Fld Z h0 a1 "java/util/ArrayList" "elementData" "[Ljava/lang/Object;" u2) (F3 : Fld Z h0 a1 "java/util/ArrayList" "size" "I" u3) :
    Con l Z ms (⟨"java/util/AbstractList", "<init>", "()V"⟩ : MethodName) jdk_39_method_1_code 1 none ws ({ frames := 2, cells := 0, slots := 0, locals := 24 } : Room) #[(.ref a1)] h0 (fun v vm h L => v = none ∧ Fr nb L ∧ Keep h0 h [a1] ∧ Fld Z h a1 "java/util/AbstractList" "modCount" "I" (.int 0) ∧ Fld Z h a1 "java/util/ArrayList" "elementData" "[Ljava/lang/Object;" u2 ∧ Fld Z h a1 "java/util/ArrayList" "size" "I" u3) := by
  refine Con.mk (plainFor_of_name pn5) ?_
  intro p e s m below meth c s₁ Cc X0 e0 eb J0 B0 M0
  obtain ⟨hx, hZ, hown, hby, hml, hnm, hret, hlk⟩ := id Cc
  have N0 := Fr.nil nb
  have K0 := Keep.refl h0 [a1]
  show Go p e s below _ _ _ _ s₁ (mkF m 0 #[.val (.ref a1)] [])
  refine Go.of (fun _ hr => XS.aloadN X0.here hx rfl (hb hby d9_0) rfl rfl hr) ?_
  show Go p e s below _ _ _ _ s₁ (mkF m 1 #[.val (.ref a1)] [(.ref a1)])
  obtain ⟨_, b101, T101, h101, L101, e101, Cc101, X101, B101, J101, g101, hQ101, st101⟩ := own_callI Cc B0 J0 X0 rfl (hw _ (List.mem_of_getElem? (i := 58) rfl)) (hw _ (List.mem_of_getElem? (i := 59) rfl)) (hw _ (List.mem_of_getElem? (i := 62) rfl)) (hw _ (List.mem_of_getElem? (i := 63) rfl)) (by decide) (rm10 l Z a0 hw [] a1 _ h0 n0 O0 h0.size (own_ole O0) K0.1) e0 (g := (mkF m 1 #[.val (.ref a1)] [(.ref a1)])) rfl (by rw [hml]; rfl) (argsL := []) (rest := []) (lenOf pd4 rfl) rfl (W := 0) (by show 2 * 0 + _ ≤ _; exact Nat.le_of_eq rfl) (hb hby d9_1) (by decide) (by decide) (by decide) (by decide)
  obtain ⟨rfl, Nq101, hh101⟩ := hQ101
  have N101 := Fr.app N0 (show Fr nb _ from fun y hy => Nat.le_trans hnb (Nq101 y hy))
  have NS101 := Fr.app (Fr.nil _) Nq101
  obtain ⟨hx, hZ, hown, hby, hml, hnm, hret, hlk⟩ := id Cc101
  rw [hh101] at e101 B101 J101
  refine Go.of st101 ?_
  show Go p e s below _ _ _ _ T101 (mkF m 4 #[.val (.ref a1)] [])
  refine Go.of (fun _ hr => XS.aloadN X101.here hx rfl (hb hby d9_4) rfl rfl hr) ?_
  show Go p e s below _ _ _ _ T101 (mkF m 5 #[.val (.ref a1)] [(.ref a1)])
  refine Go.of (fun _ hr => XS.iconst X101.here hx rfl (hb hby d9_5) hr) ?_
  show Go p e s below _ _ _ _ T101 (mkF m 6 #[.val (.ref a1)] [(.int (0 : Int32)), (.ref a1)])
  obtain ⟨T102, h102, X102, e102, W102, st102⟩ := putF X101 hx hZ hown (host := "") (Or.inl (hw _ (List.mem_of_getElem? (i := 65) rfl))) Via.refl e101 F1 E1 (Or.inl (hw _ (List.mem_of_getElem? (i := 66) rfl))) (hw _ (List.mem_of_getElem? (i := 47) rfl)) (ty := .int) (by decide) rfl rfl (g := (mkF m 6 #[.val (.ref a1)] [(.int (0 : Int32)), (.ref a1)])) rfl rfl (hb hby d9_6)
  have N102 := Fr.snoc X102 N101 fr_a1
  have J102 := J101.wr W102 trivial
  have B102 := B101.mono (Nat.le_of_eq W102.size.symm)
  have O102 := O0.wr W102 (Nat.le_trans hb0 fr_a1)
  have K102 := K0.wr W102 (Or.inl (List.mem_of_getElem? (i := 0) rfl))
  have Fw102 := F1.same W102
  refine Go.of (fun _ hr => st102 _ hr) ?_
  show Go p e s below _ _ _ _ T102 (mkF m 9 #[.val (.ref a1)] [])
  have f103 := (F2.other W102 (Or.inr (slot_ne (Or.inl (hw _ (List.mem_of_getElem? (i := 69) rfl))) (Or.inl (hw _ (List.mem_of_getElem? (i := 66) rfl))) (by decide) (t := (.array (.object "java/lang/Object"))) (t' := .int) (by decide) (by decide))))
  have f104 := (F3.other W102 (Or.inr (slot_ne (Or.inl (hw _ (List.mem_of_getElem? (i := 101) rfl))) (Or.inl (hw _ (List.mem_of_getElem? (i := 66) rfl))) (by decide) (t := .int) (t' := .int) (by decide) (by decide))))
  exact Go.retV X102 hx hlk B102 J102 e102 hret (hb hby d9_9) (by decide) (by decide) (fun vm_ hw_ => ⟨rfl, N102, K102, Fw102, f103, f104⟩)

theorem pn6 : plainName "java/util/ArrayList" = true := by first | (simp [plainName, overriddenIn]; done) | decide +kernel
theorem d8_0 : decode jdk_38_method_2_code 0 = .ok (.aload_n 0, 1) := by decide +kernel
theorem d8_1 : decode jdk_38_method_2_code 1 = .ok (.invokespecial 1, 3) := by decide +kernel
theorem d8_4 : decode jdk_38_method_2_code 4 = .ok (.aload_n 0, 1) := by decide +kernel
theorem d8_5 : decode jdk_38_method_2_code 5 = .ok (.getstatic 39, 3) := by decide +kernel
theorem d8_8 : decode jdk_38_method_2_code 8 = .ok (.putfield 9, 3) := by decide +kernel
theorem d8_11 : decode jdk_38_method_2_code 11 = .ok (.return_, 1) := by decide +kernel
set_option maxRecDepth 65536 in
set_option maxHeartbeats 40000000 in
theorem rm8 (l : Launch) (Z : State) (a0 : Array Value) (hw : ∀ d ∈ tables_1, d.before a0 Z = true) (ws : List Jvm.Cond) (a1 wD : Addr) (u1 u2 : Value) (ms : List Addr) (h0 : Heap) (n0 : Nat) (O0 : Old Z n0 h0) (nb : Nat) (hb0 : n0 ≤ nb) (hnb : nb ≤ h0.size) (fr_a1 : nb ≤ a1) (hm_a1 : True) (S_D : Sta Z Z.heap "java/util/ArrayList" "DEFAULTCAPACITY_EMPTY_ELEMENTDATA" "[Ljava/lang/Object;" (.ref wD)) (E1 : Exa Z h0 a1 "java/util/ArrayList") (F1 : Fld Z h0 a1 "java/util/AbstractList" "modCount" "I" u1) (F2 : Fld Z h0 a1 "java/util/ArrayList" "elementData" "[Ljava/lang/Object;" u2) (F3 : Fld Z h0 a1 "java/util/ArrayList" "size" "I" (.int 0)) :
    Con l Z ms (⟨"java/util/ArrayList", "<init>", "()V"⟩ : MethodName) jdk_38_method_2_code 1 none ws ({ frames := 3, cells := 0, slots := 0, locals := 36 } : Room) #[(.ref a1)] h0 (fun v vm h L => v = none ∧ Fr nb L ∧ Keep h0 h [a1] ∧ Fld Z h a1 "java/util/AbstractList" "modCount" "I" (.int 0) ∧ Fld Z h a1 "java/util/ArrayList" "elementData" "[Ljava/lang/Object;" (.ref wD) ∧ Fld Z h a1 "java/util/ArrayList" "size" "I" (.int 0)) := by
  refine Con.mk (plainFor_of_name pn6) ?_
  intro p e s m below meth c s₁ Cc X0 e0 eb J0 B0 M0
  obtain ⟨hx, hZ, hown, hby, hml, hnm, hret, hlk⟩ := id Cc
  have N0 := Fr.nil nb
  have K0 := Keep.refl h0 [a1]
  show Go p e s below _ _ _ _ s₁ (mkF m 0 #[.val (.ref a1)] [])
  refine Go.of (fun _ hr => XS.aloadN X0.here hx rfl (hb hby d8_0) rfl rfl hr) ?_
  show Go p e s below _ _ _ _ s₁ (mkF m 1 #[.val (.ref a1)] [(.ref a1)])
  obtain ⟨_, b101, T101, h101, L101, e101, Cc101, X101, B101, J101, g101, hQ101, st101⟩ := own_callI Cc B0 J0 X0 rfl (hw _ (List.mem_of_getElem? (i := 52) rfl)) (hw _ (List.mem_of_getElem? (i := 53) rfl)) (hw _ (List.mem_of_getElem? (i := 56) rfl)) (hw _ (List.mem_of_getElem? (i := 57) rfl)) (by decide) (rmAbs l Z a0 hw [] a1 _ _ _ _ h0 n0 O0 nb hb0 (Nat.le_trans hnb K0.1) fr_a1 trivial E1 F1 F2 F3) e0 (g := (mkF m 1 #[.val (.ref a1)] [(.ref a1)])) rfl (by rw [hml]; rfl) (argsL := []) (rest := []) (lenOf pd4 rfl) rfl (W := 0) (by show 2 * 0 + _ ≤ _; exact Nat.le_of_eq rfl) (hb hby d8_1) (by decide) (by decide) (by decide) (by decide)
  obtain ⟨rfl, Nq101, Kq101, Fa101, Fb101, Fc101⟩ := hQ101
  have N101 := Fr.app N0 Nq101
  obtain ⟨hx, hZ, hown, hby, hml, hnm, hret, hlk⟩ := id Cc101
  have K101 := K0.trans Kq101 (allS (Or.inl (List.mem_of_getElem? (i := 0) rfl)) all0)
  have O101 := O0.keep Kq101 (allS (Nat.le_trans hb0 fr_a1) all0)
  refine Go.of st101 ?_
  show Go p e s below _ _ _ _ T101 (mkF m 4 #[.val (.ref a1)] [])
  refine Go.of (fun _ hr => XS.aloadN X101.here hx rfl (hb hby d8_4) rfl rfl hr) ?_
  show Go p e s below _ _ _ _ T101 (mkF m 5 #[.val (.ref a1)] [(.ref a1)])
  obtain ⟨T102, X102, e102, st102⟩ := getS2 X101 hx hZ hown (host := "") (Or.inl (hw _ (List.mem_of_getElem? (i := 67) rfl))) Via.refl e101 (S_D.ext O101.2) (g := (mkF m 5 #[.val (.ref a1)] [(.ref a1)])) rfl (hb hby d8_5)
  refine Go.of (fun _ hr => st102 _ hr) ?_
  show Go p e s below _ _ _ _ T102 (mkF m 8 #[.val (.ref a1)] [(.ref wD), (.ref a1)])
  have f104 := (E1.keep Kq101)
  obtain ⟨T103, h103, X103, e103, W103, st103⟩ := putF X102 hx hZ hown (host := "") (Or.inl (hw _ (List.mem_of_getElem? (i := 68) rfl))) Via.refl e102 Fb101 f104 (Or.inl (hw _ (List.mem_of_getElem? (i := 69) rfl))) (hw _ (List.mem_of_getElem? (i := 47) rfl)) (ty := (.array (.object "java/lang/Object"))) (by decide) rfl rfl (g := (mkF m 8 #[.val (.ref a1)] [(.ref wD), (.ref a1)])) rfl rfl (hb hby d8_8)
  have N103 := Fr.snoc X103 N101 fr_a1
  have J103 := J101.wr W103 trivial
  have B103 := B101.mono (Nat.le_of_eq W103.size.symm)
  have O103 := O101.wr W103 (Nat.le_trans hb0 fr_a1)
  have K103 := K101.wr W103 (Or.inl (List.mem_of_getElem? (i := 0) rfl))
  have Fw103 := Fb101.same W103
  refine Go.of (fun _ hr => st103 _ hr) ?_
  show Go p e s below _ _ _ _ T103 (mkF m 11 #[.val (.ref a1)] [])
  have f105 := (Fa101.other W103 (Or.inr (slot_ne (Or.inl (hw _ (List.mem_of_getElem? (i := 66) rfl))) (Or.inl (hw _ (List.mem_of_getElem? (i := 69) rfl))) (by decide) (t := .int) (t' := (.array (.object "java/lang/Object"))) (by decide) (by decide))))
  have f106 := (Fc101.other W103 (Or.inr (slot_ne (Or.inl (hw _ (List.mem_of_getElem? (i := 101) rfl))) (Or.inl (hw _ (List.mem_of_getElem? (i := 69) rfl))) (by decide) (t := .int) (t' := (.array (.object "java/lang/Object"))) (by decide) (by decide))))
  exact Go.retV X103 hx hlk B103 J103 e103 hret (hb hby d8_11) (by decide) (by decide) (fun vm_ hw_ => ⟨rfl, N103, K103, f105, Fw103, f106⟩)

theorem d22_0 : decode jdk_29_method_65_code 0 = .ok (.iload_n 0, 1) := by decide +kernel
theorem d22_1 : decode jdk_29_method_65_code 1 = .ok (.iload_n 1, 1) := by decide +kernel
theorem d22_2 : decode jdk_29_method_65_code 2 = .ok (.if_icmp .lt 7, 3) := by decide +kernel
theorem d22_9 : decode jdk_29_method_65_code 9 = .ok (.iload_n 1, 1) := by decide +kernel
theorem d22_10 : decode jdk_29_method_65_code 10 = .ok (.ireturn, 1) := by decide +kernel
theorem d22_5 : decode jdk_29_method_65_code 5 = .ok (.iload_n 0, 1) := by decide +kernel
theorem d22_6 : decode jdk_29_method_65_code 6 = .ok (.goto 4, 3) := by decide +kernel
set_option maxRecDepth 65536 in
set_option maxHeartbeats 40000000 in
theorem rm22 (l : Launch) (Z : State) (a0 : Array Value) (hw : ∀ d ∈ tables_1, d.before a0 Z = true) (ws : List Jvm.Cond) (i j : Int32) (ms : List Addr) (h0 : Heap) (n0 : Nat) (O0 : Old Z n0 h0) (nb : Nat) (hb0 : n0 ≤ nb) (hnb : nb ≤ h0.size) :
    Con l Z ms (⟨"java/lang/Math", "max", "(II)I"⟩ : MethodName) jdk_29_method_65_code 2 (some .int) ws ({ frames := 0, cells := 0, slots := 0, locals := 0 } : Room) #[(.int i), (.int j)] h0 (fun v vm h L => v = some (.int (if i < j then j else i)) ∧ Fr nb L ∧ h = h0) := by
  refine Con.mk (by decide +kernel) ?_
  intro p e s m below meth c s₁ Cc X0 e0 eb J0 B0 M0
  obtain ⟨hx, hZ, hown, hby, hml, hnm, hret, hlk⟩ := id Cc
  have N0 := Fr.nil h0.size
  have K0 := Keep.refl h0 []
  show Go p e s below _ _ _ _ s₁ (mkF m 0 #[.val (.int i), .val (.int j)] [])
  refine Go.of (fun _ hr => XS.iloadN X0.here hx rfl (hb hby d22_0) rfl  hr) ?_
  show Go p e s below _ _ _ _ s₁ (mkF m 1 #[.val (.int i), .val (.int j)] [(.int i)])
  refine Go.of (fun _ hr => XS.iloadN X0.here hx rfl (hb hby d22_1) rfl  hr) ?_
  show Go p e s below _ _ _ _ s₁ (mkF m 2 #[.val (.int i), .val (.int j)] [(.int j), (.int i)])
  by_cases hb2_101 : i < j
  · refine Go.of (fun _ hr => XS.icmpYes X0.here hx rfl (pc0 := 2) (pc' := 9) rfl (hb hby d22_2) rfl (tlt hb2_101).1 (by decide) (by decide) hr) ?_
    show Go p e s below _ _ _ _ s₁ (mkF m 9 #[.val (.int i), .val (.int j)] [])
    refine Go.of (fun _ hr => XS.iloadN X0.here hx rfl (hb hby d22_9) rfl  hr) ?_
    show Go p e s below _ _ _ _ s₁ (mkF m 10 #[.val (.int i), .val (.int j)] [(.int j)])
    exact Go.retI X0 hx hlk B0 J0 e0 hret (hb hby d22_10) (by decide) (by decide) (fun vm_ hw_ => ⟨by simp [hb2_101], (fun y hy => Nat.le_trans hnb (N0 y hy)), rfl⟩)
  · refine Go.of (fun _ hr => XS.icmpNo X0.here hx rfl (hb hby d22_2) rfl (flt hb2_101).1 hr) ?_
    show Go p e s below _ _ _ _ s₁ (mkF m 5 #[.val (.int i), .val (.int j)] [])
    refine Go.of (fun _ hr => XS.iloadN X0.here hx rfl (hb hby d22_5) rfl  hr) ?_
    show Go p e s below _ _ _ _ s₁ (mkF m 6 #[.val (.int i), .val (.int j)] [(.int i)])
    refine Go.of (fun _ hr => XS.goto X0.here hx rfl (pc0 := 6) (pc' := 10) rfl (hb hby d22_6) (by decide) (by decide) hr) ?_
    show Go p e s below _ _ _ _ s₁ (mkF m 10 #[.val (.int i), .val (.int j)] [(.int i)])
    exact Go.retI X0 hx hlk B0 J0 e0 hret (hb hby d22_10) (by decide) (by decide) (fun vm_ hw_ => ⟨by simp [hb2_101], (fun y hy => Nat.le_trans hnb (N0 y hy)), rfl⟩)

theorem d26_0 : decode jdk_29_method_69_code 0 = .ok (.iload_n 0, 1) := by decide +kernel
theorem d26_1 : decode jdk_29_method_69_code 1 = .ok (.iload_n 1, 1) := by decide +kernel
theorem d26_2 : decode jdk_29_method_69_code 2 = .ok (.if_icmp .gt 7, 3) := by decide +kernel
theorem d26_9 : decode jdk_29_method_69_code 9 = .ok (.iload_n 1, 1) := by decide +kernel
theorem d26_10 : decode jdk_29_method_69_code 10 = .ok (.ireturn, 1) := by decide +kernel
theorem d26_5 : decode jdk_29_method_69_code 5 = .ok (.iload_n 0, 1) := by decide +kernel
theorem d26_6 : decode jdk_29_method_69_code 6 = .ok (.goto 4, 3) := by decide +kernel
set_option maxRecDepth 65536 in
set_option maxHeartbeats 40000000 in
theorem rm26 (l : Launch) (Z : State) (a0 : Array Value) (hw : ∀ d ∈ tables_1, d.before a0 Z = true) (ws : List Jvm.Cond) (i j : Int32) (ms : List Addr) (h0 : Heap) (n0 : Nat) (O0 : Old Z n0 h0) (nb : Nat) (hb0 : n0 ≤ nb) (hnb : nb ≤ h0.size) :
    Con l Z ms (⟨"java/lang/Math", "min", "(II)I"⟩ : MethodName) jdk_29_method_69_code 2 (some .int) ws ({ frames := 0, cells := 0, slots := 0, locals := 0 } : Room) #[(.int i), (.int j)] h0 (fun v vm h L => v = some (.int (if j < i then j else i)) ∧ Fr nb L ∧ h = h0) := by
  refine Con.mk (by decide +kernel) ?_
  intro p e s m below meth c s₁ Cc X0 e0 eb J0 B0 M0
  obtain ⟨hx, hZ, hown, hby, hml, hnm, hret, hlk⟩ := id Cc
  have N0 := Fr.nil h0.size
  have K0 := Keep.refl h0 []
  show Go p e s below _ _ _ _ s₁ (mkF m 0 #[.val (.int i), .val (.int j)] [])
  refine Go.of (fun _ hr => XS.iloadN X0.here hx rfl (hb hby d26_0) rfl  hr) ?_
  show Go p e s below _ _ _ _ s₁ (mkF m 1 #[.val (.int i), .val (.int j)] [(.int i)])
  refine Go.of (fun _ hr => XS.iloadN X0.here hx rfl (hb hby d26_1) rfl  hr) ?_
  show Go p e s below _ _ _ _ s₁ (mkF m 2 #[.val (.int i), .val (.int j)] [(.int j), (.int i)])
  by_cases hb2_101 : j < i
  · refine Go.of (fun _ hr => XS.icmpYes X0.here hx rfl (pc0 := 2) (pc' := 9) rfl (hb hby d26_2) rfl (tlt hb2_101).2.2.1 (by decide) (by decide) hr) ?_
    show Go p e s below _ _ _ _ s₁ (mkF m 9 #[.val (.int i), .val (.int j)] [])
    refine Go.of (fun _ hr => XS.iloadN X0.here hx rfl (hb hby d26_9) rfl  hr) ?_
    show Go p e s below _ _ _ _ s₁ (mkF m 10 #[.val (.int i), .val (.int j)] [(.int j)])
    exact Go.retI X0 hx hlk B0 J0 e0 hret (hb hby d26_10) (by decide) (by decide) (fun vm_ hw_ => ⟨by simp [hb2_101], (fun y hy => Nat.le_trans hnb (N0 y hy)), rfl⟩)
  · refine Go.of (fun _ hr => XS.icmpNo X0.here hx rfl (hb hby d26_2) rfl (flt hb2_101).2.2.1 hr) ?_
    show Go p e s below _ _ _ _ s₁ (mkF m 5 #[.val (.int i), .val (.int j)] [])
    refine Go.of (fun _ hr => XS.iloadN X0.here hx rfl (hb hby d26_5) rfl  hr) ?_
    show Go p e s below _ _ _ _ s₁ (mkF m 6 #[.val (.int i), .val (.int j)] [(.int i)])
    refine Go.of (fun _ hr => XS.goto X0.here hx rfl (pc0 := 6) (pc' := 10) rfl (hb hby d26_6) (by decide) (by decide) hr) ?_
    show Go p e s below _ _ _ _ s₁ (mkF m 10 #[.val (.int i), .val (.int j)] [(.int i)])
    exact Go.retI X0 hx hlk B0 J0 e0 hret (hb hby d26_10) (by decide) (by decide) (fun vm_ hw_ => ⟨by simp [hb2_101], (fun y hy => Nat.le_trans hnb (N0 y hy)), rfl⟩)

theorem d21_0 : decode jdk_38_method_6_code 0 = .ok (.aload_n 0, 1) := by decide +kernel
theorem d21_1 : decode jdk_38_method_6_code 1 = .ok (.getfield 9, 3) := by decide +kernel
theorem d21_4 : decode jdk_38_method_6_code 4 = .ok (.arraylength, 1) := by decide +kernel
theorem d21_5 : decode jdk_38_method_6_code 5 = .ok (.istore_n 2, 1) := by decide +kernel
theorem d21_6 : decode jdk_38_method_6_code 6 = .ok (.iload_n 2, 1) := by decide +kernel
theorem d21_7 : decode jdk_38_method_6_code 7 = .ok (.ifCond .gt 13, 3) := by decide +kernel
theorem d21_10 : decode jdk_38_method_6_code 10 = .ok (.aload_n 0, 1) := by decide +kernel
theorem d21_11 : decode jdk_38_method_6_code 11 = .ok (.getfield 9, 3) := by decide +kernel
theorem d21_14 : decode jdk_38_method_6_code 14 = .ok (.getstatic 39, 3) := by decide +kernel
theorem d21_17 : decode jdk_38_method_6_code 17 = .ok (.if_acmp .eq 28, 3) := by decide +kernel
theorem d21_45 : decode jdk_38_method_6_code 45 = .ok (.aload_n 0, 1) := by decide +kernel
theorem d21_46 : decode jdk_38_method_6_code 46 = .ok (.bipush 10, 2) := by decide +kernel
theorem d21_48 : decode jdk_38_method_6_code 48 = .ok (.iload_n 1, 1) := by decide +kernel
theorem d21_49 : decode jdk_38_method_6_code 49 = .ok (.invokestatic 79, 3) := by decide +kernel
theorem pd5 : parseMethodDescriptor "(II)I" = some ⟨[.int, .int], some .int⟩ := by decide +kernel
theorem d21_52 : decode jdk_38_method_6_code 52 = .ok (.anewarray 7, 3) := by decide +kernel
theorem d21_55 : decode jdk_38_method_6_code 55 = .ok (.dup_x1, 1) := by decide +kernel
theorem d21_56 : decode jdk_38_method_6_code 56 = .ok (.putfield 9, 3) := by decide +kernel
theorem d21_59 : decode jdk_38_method_6_code 59 = .ok (.areturn, 1) := by decide +kernel
set_option maxRecDepth 65536 in
set_option maxHeartbeats 40000000 in
theorem rm21 (l : Launch) (Z : State) (a0 : Array Value) (hw : ∀ d ∈ tables_1, d.before a0 Z = true) (ws : List Jvm.Cond) (a1 wD : Addr) (kD : ClassId) (m1 : Int32) (ms : List Addr) (h0 : Heap) (n0 : Nat) (O0 : Old Z n0 h0) (nb : Nat) (hb0 : n0 ≤ nb) (hnb : nb ≤ h0.size) (fr_a1 : nb ≤ a1) (hm_a1 : True) (S_D : Sta Z Z.heap "java/util/ArrayList" "DEFAULTCAPACITY_EMPTY_ELEMENTDATA" "[Ljava/lang/Object;" (.ref wD)) (E1 : Exa Z h0 a1 "java/util/ArrayList") (F1 : Fld Z h0 a1 "java/util/AbstractList" "modCount" "I" (.int m1)) (F2 : Fld Z h0 a1 "java/util/ArrayList" "elementData" "[Ljava/lang/Object;" (.ref wD)) (F3 : Fld Z h0 a1 "java/util/ArrayList" "size" "I" (.int 0)) (VD : Arv Z h0 wD kD (.object "java/lang/Object") 0 [] .null) (neD : wD ≠ a1) :
    Con l Z ms (⟨"java/util/ArrayList", "grow", "(I)[Ljava/lang/Object;"⟩ : MethodName) jdk_38_method_6_code 4 (some (.array (.object "java/lang/Object"))) ws ({ frames := 1, cells := 1, slots := 10, locals := 14 } : Room) #[(.ref a1), (.int (1 : Int32))] h0 (fun v vm h L => ∃ d kd, v = some (.ref d) ∧ Fr nb L ∧ Keep h0 h [a1] ∧ h0.size ≤ d ∧ Fld Z h a1 "java/util/AbstractList" "modCount" "I" (.int m1) ∧ Fld Z h a1 "java/util/ArrayList" "elementData" "[Ljava/lang/Object;" (.ref d) ∧ Fld Z h a1 "java/util/ArrayList" "size" "I" (.int 0) ∧ Exa Z h d "[Ljava/lang/Object;" ∧ Arv Z h d kd (.object "java/lang/Object") 10 [.null, .null, .null, .null, .null, .null, .null, .null, .null, .null] .null ∧ Ovr Z kd "java/lang/Object") := by
  refine Con.mk (plainFor_of_name pn6) ?_
  intro p e s m below meth c s₁ Cc X0 e0 eb J0 B0 M0
  obtain ⟨hx, hZ, hown, hby, hml, hnm, hret, hlk⟩ := id Cc
  have N0 := Fr.nil nb
  have K0 := Keep.refl h0 [a1]
  show Go p e s below _ _ _ _ s₁ (mkF m 0 #[.val (.ref a1), .val (.int (1 : Int32)), .unset, .unset] [])
  refine Go.of (fun _ hr => XS.aloadN X0.here hx rfl (hb hby d21_0) rfl rfl hr) ?_
  show Go p e s below _ _ _ _ s₁ (mkF m 1 #[.val (.ref a1), .val (.int (1 : Int32)), .unset, .unset] [(.ref a1)])
  obtain ⟨T101, X101, e101, st101⟩ := getF X0 hx hZ hown (host := "") (Or.inl (hw _ (List.mem_of_getElem? (i := 68) rfl))) Via.refl e0 F2 (g := (mkF m 1 #[.val (.ref a1), .val (.int (1 : Int32)), .unset, .unset] [(.ref a1)])) rfl rfl (hb hby d21_1)
  refine Go.of (fun _ hr => st101 _ hr) ?_
  show Go p e s below _ _ _ _ T101 (mkF m 4 #[.val (.ref a1), .val (.int (1 : Int32)), .unset, .unset] [(.ref wD)])
  obtain ⟨cl102, Ar102, q102, S102, N102_, H102, G102⟩ := id VD
  refine Go.of (fun _ hr => X101.arraylength hx (by rw [e101]; exact Ar102.1) (State.isArrayOf_alike hZ.alike Ar102.2.1) (g := (mkF m 4 #[.val (.ref a1), .val (.int (1 : Int32)), .unset, .unset] [(.ref wD)])) rfl rfl (hb hby d21_4) _ hr) ?_
  rw [len_of S102 N102_]
  show Go p e s below _ _ _ _ T101 (mkF m 5 #[.val (.ref a1), .val (.int (1 : Int32)), .unset, .unset] [(.int (0 : Int32))])
  refine Go.of (fun _ hr => XS.istoreN X101.here hx rfl (hb hby d21_5) rfl (l' := #[.val (.ref a1), .val (.int (1 : Int32)), .val (.int (0 : Int32)), .unset]) rfl hr) ?_
  show Go p e s below _ _ _ _ T101 (mkF m 6 #[.val (.ref a1), .val (.int (1 : Int32)), .val (.int (0 : Int32)), .unset] [])
  refine Go.of (fun _ hr => XS.iloadN X101.here hx rfl (hb hby d21_6) rfl  hr) ?_
  show Go p e s below _ _ _ _ T101 (mkF m 7 #[.val (.ref a1), .val (.int (1 : Int32)), .val (.int (0 : Int32)), .unset] [(.int (0 : Int32))])
  refine Go.of (fun _ hr => XS.ifNo X101.here hx rfl (hb hby d21_7) rfl ((if0 _ _).trans (flt (by decide : ¬ ((0 : Int32) < (0 : Int32)))).2.2.1) hr) ?_
  show Go p e s below _ _ _ _ T101 (mkF m 10 #[.val (.ref a1), .val (.int (1 : Int32)), .val (.int (0 : Int32)), .unset] [])
  refine Go.of (fun _ hr => XS.aloadN X101.here hx rfl (hb hby d21_10) rfl rfl hr) ?_
  show Go p e s below _ _ _ _ T101 (mkF m 11 #[.val (.ref a1), .val (.int (1 : Int32)), .val (.int (0 : Int32)), .unset] [(.ref a1)])
  obtain ⟨T103, X103, e103, st103⟩ := getF X101 hx hZ hown (host := "") (Or.inl (hw _ (List.mem_of_getElem? (i := 68) rfl))) Via.refl e101 F2 (g := (mkF m 11 #[.val (.ref a1), .val (.int (1 : Int32)), .val (.int (0 : Int32)), .unset] [(.ref a1)])) rfl rfl (hb hby d21_11)
  refine Go.of (fun _ hr => st103 _ hr) ?_
  show Go p e s below _ _ _ _ T103 (mkF m 14 #[.val (.ref a1), .val (.int (1 : Int32)), .val (.int (0 : Int32)), .unset] [(.ref wD)])
  obtain ⟨T104, X104, e104, st104⟩ := getS2 X103 hx hZ hown (host := "") (Or.inl (hw _ (List.mem_of_getElem? (i := 67) rfl))) Via.refl e103 (S_D.ext O0.2) (g := (mkF m 14 #[.val (.ref a1), .val (.int (1 : Int32)), .val (.int (0 : Int32)), .unset] [(.ref wD)])) rfl (hb hby d21_14)
  refine Go.of (fun _ hr => st104 _ hr) ?_
  show Go p e s below _ _ _ _ T104 (mkF m 17 #[.val (.ref a1), .val (.int (1 : Int32)), .val (.int (0 : Int32)), .unset] [(.ref wD), (.ref wD)])
  refine Go.of (fun _ hr => Jvm.RoadKit.acmp (g := (mkF m 17 #[.val (.ref a1), .val (.int (1 : Int32)), .val (.int (0 : Int32)), .unset] [(.ref wD), (.ref wD)])) X104 hx rfl rfl rfl (pc0 := 17) (pc' := 45) (same := true) rfl (hb hby d21_17) rfl (decide_eq_true rfl) (by decide) (by decide) hr) ?_
  show Go p e s below _ _ _ _ T104 (mkF m 45 #[.val (.ref a1), .val (.int (1 : Int32)), .val (.int (0 : Int32)), .unset] [])
  refine Go.of (fun _ hr => XS.aloadN X104.here hx rfl (hb hby d21_45) rfl rfl hr) ?_
  show Go p e s below _ _ _ _ T104 (mkF m 46 #[.val (.ref a1), .val (.int (1 : Int32)), .val (.int (0 : Int32)), .unset] [(.ref a1)])
  refine Go.of (fun _ hr => XS.bipush X104.here hx rfl (hb hby d21_46) hr) ?_
  show Go p e s below _ _ _ _ T104 (mkF m 48 #[.val (.ref a1), .val (.int (1 : Int32)), .val (.int (0 : Int32)), .unset] [(.int (10 : Int32)), (.ref a1)])
  refine Go.of (fun _ hr => XS.iloadN X104.here hx rfl (hb hby d21_48) rfl  hr) ?_
  show Go p e s below _ _ _ _ T104 (mkF m 49 #[.val (.ref a1), .val (.int (1 : Int32)), .val (.int (0 : Int32)), .unset] [(.int (1 : Int32)), (.int (10 : Int32)), (.ref a1)])
  obtain ⟨_, b105, T105, h105, L105, e105, Cc105, X105, B105, J105, g105, hQ105, st105⟩ := own_callS Cc B0 J0 X104 (hw _ (List.mem_of_getElem? (i := 147) rfl)) (hw _ (List.mem_of_getElem? (i := 148) rfl)) (hw _ (List.mem_of_getElem? (i := 149) rfl)) (hw _ (List.mem_of_getElem? (i := 150) rfl)) (by decide) (rm22 l Z a0 hw [] (10 : Int32) (1 : Int32) _ h0 n0 O0 h0.size (own_ole O0) K0.1) e104 (g := (mkF m 49 #[.val (.ref a1), .val (.int (1 : Int32)), .val (.int (0 : Int32)), .unset] [(.int (1 : Int32)), (.int (10 : Int32)), (.ref a1)])) rfl (by rw [hml]; rfl) (argsL := [(.int (10 : Int32)), (.int (1 : Int32))]) (rest := [(.ref a1)]) (lenOf pd5 rfl) rfl (W := 1) (by show 2 * 0 + _ ≤ _; exact Nat.le_of_eq rfl) (hb hby d21_49) (by decide) (by decide) (by decide) (by decide)
  obtain ⟨rfl, Nq105, hh105⟩ := hQ105
  have N105 := Fr.app N0 (show Fr nb _ from fun y hy => Nat.le_trans hnb (Nq105 y hy))
  have NS105 := Fr.app (Fr.nil _) Nq105
  obtain ⟨hx, hZ, hown, hby, hml, hnm, hret, hlk⟩ := id Cc105
  rw [hh105] at e105 B105 J105
  refine Go.of st105 ?_
  show Go p e s below _ _ _ _ T105 (mkF m 52 #[.val (.ref a1), .val (.int (1 : Int32)), .val (.int (0 : Int32)), .unset] [(.int (10 : Int32)), (.ref a1)])
  obtain ⟨T106, h106, k106, X106, e106, E106, A106, Ex106, Ov106, st106⟩ := newRE X105 hx hZ hown (hw _ (List.mem_of_getElem? (i := 151) rfl)) (hw _ (List.mem_of_getElem? (i := 152) rfl)) e105 (g := (mkF m 52 #[.val (.ref a1), .val (.int (1 : Int32)), .val (.int (0 : Int32)), .unset] [(.int (10 : Int32)), (.ref a1)])) rfl (hb hby d21_52) rfl (by decide) (cap := 10) (by decide) (by decide) (by decide) (by decide) (ad := "[Ljava/lang/Object;") (by decide)
  obtain ⟨o106, g106⟩ : ∃ z, z = h0.size := ⟨_, rfl⟩
  rw [← g106] at A106 Ex106 st106
  have ne_a1_o106 : a1 ≠ o106 := Nat.ne_of_lt (Nat.lt_of_lt_of_le E1.lt (Nat.le_of_eq g106.symm))
  have ne_wD_o106 : wD ≠ o106 := Nat.ne_of_lt (Nat.lt_of_lt_of_le VD.lt (Nat.le_of_eq g106.symm))
  have V106 : Arv Z h106 o106 k106 (.object "java/lang/Object") (10 : Int32) [.null, .null, .null, .null, .null, .null, .null, .null, .null, .null] .null := (Arv.new A106 (by decide)).pad (pad_rep [] .null 10)
  have lt106 : o106 < h106.size := A106.lt
  have J106 := J105.add E106 g106 lt106
  have B106 := B105.mono E106.1
  have O106 := O0.ext E106
  have sz106 : h0.size ≤ o106 := Nat.le_trans K0.1 (Nat.le_of_eq g106.symm)
  have fr106 : nb ≤ o106 := Nat.le_trans hnb sz106
  have K106 := K0.ext E106
  refine Go.of (fun _ hr => st106 _ hr) ?_
  show Go p e s below _ _ _ _ T106 (mkF m 55 #[.val (.ref a1), .val (.int (1 : Int32)), .val (.int (0 : Int32)), .unset] [(.ref o106), (.ref a1)])
  refine Go.of (fun _ hr => XS.dupX1 X106.here hx rfl (hb hby d21_55) rfl rfl rfl hr) ?_
  show Go p e s below _ _ _ _ T106 (mkF m 56 #[.val (.ref a1), .val (.int (1 : Int32)), .val (.int (0 : Int32)), .unset] [(.ref o106), (.ref a1), (.ref o106)])
  have f108 := (F2.ext E106)
  have f109 := (E1.ext E106)
  obtain ⟨T107, h107, X107, e107, W107, st107⟩ := putF X106 hx hZ hown (host := "") (Or.inl (hw _ (List.mem_of_getElem? (i := 68) rfl))) Via.refl e106 f108 f109 (Or.inl (hw _ (List.mem_of_getElem? (i := 69) rfl))) (hw _ (List.mem_of_getElem? (i := 47) rfl)) (ty := (.array (.object "java/lang/Object"))) (by decide) rfl rfl (g := (mkF m 56 #[.val (.ref a1), .val (.int (1 : Int32)), .val (.int (0 : Int32)), .unset] [(.ref o106), (.ref a1), (.ref o106)])) rfl rfl (hb hby d21_56)
  have N107 := Fr.snoc X107 N105 fr_a1
  have J107 := J106.wr W107 trivial
  have B107 := B106.mono (Nat.le_of_eq W107.size.symm)
  have O107 := O106.wr W107 (Nat.le_trans hb0 fr_a1)
  have K107 := K106.wr W107 (Or.inl (List.mem_of_getElem? (i := 0) rfl))
  have Fw107 := f108.same W107
  refine Go.of (fun _ hr => st107 _ hr) ?_
  show Go p e s below _ _ _ _ T107 (mkF m 59 #[.val (.ref a1), .val (.int (1 : Int32)), .val (.int (0 : Int32)), .unset] [(.ref o106)])
  have f110 := ((F1.ext E106).other W107 (Or.inr (slot_ne (Or.inl (hw _ (List.mem_of_getElem? (i := 66) rfl))) (Or.inl (hw _ (List.mem_of_getElem? (i := 69) rfl))) (by decide) (t := .int) (t' := (.array (.object "java/lang/Object"))) (by decide) (by decide))))
  have f111 := ((F3.ext E106).other W107 (Or.inr (slot_ne (Or.inl (hw _ (List.mem_of_getElem? (i := 101) rfl))) (Or.inl (hw _ (List.mem_of_getElem? (i := 69) rfl))) (by decide) (t := .int) (t' := (.array (.object "java/lang/Object"))) (by decide) (by decide))))
  have f112 := (Ex106.wr W107)
  have f113 := (V106.other W107 (Ne.symm ne_a1_o106))
  exact Go.retA X107 hx hlk B107 (J107.sub fun x hx => (List.mem_cons_of_mem _ hx)) e107 hret rfl rfl (hb hby d21_59) (by decide) (by decide) (fun vm_ hw_ => ⟨_, _, rfl, N107, K107, sz106, f110, Fw107, f111, f112, f113, Ov106⟩)

theorem d20_0 : decode jdk_38_method_7_code 0 = .ok (.aload_n 0, 1) := by decide +kernel
theorem d20_1 : decode jdk_38_method_7_code 1 = .ok (.aload_n 0, 1) := by decide +kernel
theorem d20_2 : decode jdk_38_method_7_code 2 = .ok (.getfield 48, 3) := by decide +kernel
theorem d20_5 : decode jdk_38_method_7_code 5 = .ok (.iconst 1, 1) := by decide +kernel
theorem d20_6 : decode jdk_38_method_7_code 6 = .ok (.iadd, 1) := by decide +kernel
theorem d20_7 : decode jdk_38_method_7_code 7 = .ok (.invokevirtual 69, 3) := by decide +kernel
theorem pd6 : parseMethodDescriptor "(I)[Ljava/lang/Object;" = some ⟨[.int], some (.array (.object "java/lang/Object"))⟩ := by decide +kernel
theorem d20_10 : decode jdk_38_method_7_code 10 = .ok (.areturn, 1) := by decide +kernel
set_option maxRecDepth 65536 in
set_option maxHeartbeats 40000000 in
theorem rm20 (l : Launch) (Z : State) (a0 : Array Value) (hw : ∀ d ∈ tables_1, d.before a0 Z = true) (ws : List Jvm.Cond) (a1 wD : Addr) (kD : ClassId) (m1 : Int32) (ms : List Addr) (h0 : Heap) (n0 : Nat) (O0 : Old Z n0 h0) (nb : Nat) (hb0 : n0 ≤ nb) (hnb : nb ≤ h0.size) (fr_a1 : nb ≤ a1) (hm_a1 : True) (S_D : Sta Z Z.heap "java/util/ArrayList" "DEFAULTCAPACITY_EMPTY_ELEMENTDATA" "[Ljava/lang/Object;" (.ref wD)) (E1 : Exa Z h0 a1 "java/util/ArrayList") (F1 : Fld Z h0 a1 "java/util/AbstractList" "modCount" "I" (.int m1)) (F2 : Fld Z h0 a1 "java/util/ArrayList" "elementData" "[Ljava/lang/Object;" (.ref wD)) (F3 : Fld Z h0 a1 "java/util/ArrayList" "size" "I" (.int 0)) (VD : Arv Z h0 wD kD (.object "java/lang/Object") 0 [] .null) (neD : wD ≠ a1) :
    Con l Z ms (⟨"java/util/ArrayList", "grow", "()[Ljava/lang/Object;"⟩ : MethodName) jdk_38_method_7_code 1 (some (.array (.object "java/lang/Object"))) ws ({ frames := 2, cells := 1, slots := 10, locals := 29 } : Room) #[(.ref a1)] h0 (fun v vm h L => ∃ d kd, v = some (.ref d) ∧ Fr nb L ∧ Keep h0 h [a1] ∧ h0.size ≤ d ∧ Fld Z h a1 "java/util/AbstractList" "modCount" "I" (.int m1) ∧ Fld Z h a1 "java/util/ArrayList" "elementData" "[Ljava/lang/Object;" (.ref d) ∧ Fld Z h a1 "java/util/ArrayList" "size" "I" (.int 0) ∧ Exa Z h d "[Ljava/lang/Object;" ∧ Arv Z h d kd (.object "java/lang/Object") 10 [.null, .null, .null, .null, .null, .null, .null, .null, .null, .null] .null ∧ Ovr Z kd "java/lang/Object") := by
  refine Con.mk (plainFor_of_name pn6) ?_
  intro p e s m below meth c s₁ Cc X0 e0 eb J0 B0 M0
  obtain ⟨hx, hZ, hown, hby, hml, hnm, hret, hlk⟩ := id Cc
  have N0 := Fr.nil nb
  have K0 := Keep.refl h0 [a1]
  show Go p e s below _ _ _ _ s₁ (mkF m 0 #[.val (.ref a1)] [])
  refine Go.of (fun _ hr => XS.aloadN X0.here hx rfl (hb hby d20_0) rfl rfl hr) ?_
  show Go p e s below _ _ _ _ s₁ (mkF m 1 #[.val (.ref a1)] [(.ref a1)])
  refine Go.of (fun _ hr => XS.aloadN X0.here hx rfl (hb hby d20_1) rfl rfl hr) ?_
  show Go p e s below _ _ _ _ s₁ (mkF m 2 #[.val (.ref a1)] [(.ref a1), (.ref a1)])
  obtain ⟨T101, X101, e101, st101⟩ := getF X0 hx hZ hown (host := "") (Or.inl (hw _ (List.mem_of_getElem? (i := 100) rfl))) Via.refl e0 F3 (g := (mkF m 2 #[.val (.ref a1)] [(.ref a1), (.ref a1)])) rfl rfl (hb hby d20_2)
  refine Go.of (fun _ hr => st101 _ hr) ?_
  show Go p e s below _ _ _ _ T101 (mkF m 5 #[.val (.ref a1)] [(.int (0 : Int32)), (.ref a1)])
  refine Go.of (fun _ hr => XS.iconst X101.here hx rfl (hb hby d20_5) hr) ?_
  show Go p e s below _ _ _ _ T101 (mkF m 6 #[.val (.ref a1)] [(.int (1 : Int32)), (.int (0 : Int32)), (.ref a1)])
  refine Go.of (fun _ hr => XS.iadd X101.here hx rfl (hb hby d20_6) rfl hr) ?_
  show Go p e s below _ _ _ _ T101 (mkF m 7 #[.val (.ref a1)] [(.int (1 : Int32)), (.ref a1)])
  obtain ⟨_, b102, T102, h102, L102, e102, Cc102, X102, B102, J102, g102, hQ102, st102⟩ := own_callR Cc B0 J0 X101 (y := (⟨"java/util/ArrayList", "grow", "(I)[Ljava/lang/Object;"⟩ : MethodName)) (hw _ (List.mem_of_getElem? (i := 142) rfl)) (hw _ (List.mem_of_getElem? (i := 143) rfl)) (hw _ (List.mem_of_getElem? (i := 145) rfl)) (hw _ (List.mem_of_getElem? (i := 144) rfl)) (hw _ (List.mem_of_getElem? (i := 48) rfl)) (hw _ (List.mem_of_getElem? (i := 146) rfl)) (by decide) E1 (rm21 l Z a0 hw [] a1 wD _ m1 _ h0 n0 O0 nb hb0 (Nat.le_trans hnb K0.1) fr_a1 trivial S_D E1 F1 F2 F3 VD neD) e101 (g := (mkF m 7 #[.val (.ref a1)] [(.int (1 : Int32)), (.ref a1)])) rfl (by rw [hml]; rfl) (argsL := [(.int (1 : Int32))]) (rest := []) (lenOf pd6 rfl) rfl (W := 0) (by show 2 * 0 + _ ≤ _; exact Nat.le_of_eq rfl) (hb hby d20_7) (by decide) (by decide) (by decide) (by decide)
  obtain ⟨d102, kd102, rfl, Nq102, Kq102, R_d102, Fa102, Fb102, Fc102, Ed102, Vd102, Od102⟩ := hQ102
  have N102 := Fr.app N0 Nq102
  obtain ⟨hx, hZ, hown, hby, hml, hnm, hret, hlk⟩ := id Cc102
  have sz_d102 : h0.size ≤ d102 := Nat.le_trans K0.1 R_d102
  have fr_d102 : nb ≤ d102 := Nat.le_trans hnb sz_d102
  have ne_a1_d102 : a1 ≠ d102 := Nat.ne_of_lt (Nat.lt_of_lt_of_le E1.lt R_d102)
  have ne_wD_d102 : wD ≠ d102 := Nat.ne_of_lt (Nat.lt_of_lt_of_le VD.lt R_d102)
  have K102 := K0.trans Kq102 (allS (Or.inl (List.mem_of_getElem? (i := 0) rfl)) all0)
  have O102 := O0.keep Kq102 (allS (Nat.le_trans hb0 fr_a1) all0)
  refine Go.of st102 ?_
  show Go p e s below _ _ _ _ T102 (mkF m 10 #[.val (.ref a1)] [(.ref d102)])
  exact Go.retA X102 hx hlk B102 J102 e102 hret rfl rfl (hb hby d20_10) (by decide) (by decide) (fun vm_ hw_ => ⟨_, _, rfl, N102, K102, sz_d102, Fa102, Fb102, Fc102, Ed102, Vd102, Od102⟩)

theorem d19_0 : decode jdk_38_method_24_code 0 = .ok (.iload_n 3, 1) := by decide +kernel
theorem d19_1 : decode jdk_38_method_24_code 1 = .ok (.aload_n 2, 1) := by decide +kernel
theorem d19_2 : decode jdk_38_method_24_code 2 = .ok (.arraylength, 1) := by decide +kernel
theorem d19_3 : decode jdk_38_method_24_code 3 = .ok (.if_icmp .ne 8, 3) := by decide +kernel
theorem d19_6 : decode jdk_38_method_24_code 6 = .ok (.aload_n 0, 1) := by decide +kernel
theorem d19_7 : decode jdk_38_method_24_code 7 = .ok (.invokevirtual 129, 3) := by decide +kernel
theorem pd7 : parseMethodDescriptor "()[Ljava/lang/Object;" = some ⟨[], some (.array (.object "java/lang/Object"))⟩ := by decide +kernel
theorem d19_10 : decode jdk_38_method_24_code 10 = .ok (.astore_n 2, 1) := by decide +kernel
theorem d19_11 : decode jdk_38_method_24_code 11 = .ok (.aload_n 2, 1) := by decide +kernel
theorem d19_12 : decode jdk_38_method_24_code 12 = .ok (.iload_n 3, 1) := by decide +kernel
theorem d19_13 : decode jdk_38_method_24_code 13 = .ok (.aload_n 1, 1) := by decide +kernel
theorem d19_14 : decode jdk_38_method_24_code 14 = .ok (.aastore, 1) := by decide +kernel
theorem d19_15 : decode jdk_38_method_24_code 15 = .ok (.aload_n 0, 1) := by decide +kernel
theorem d19_16 : decode jdk_38_method_24_code 16 = .ok (.iload_n 3, 1) := by decide +kernel
theorem d19_17 : decode jdk_38_method_24_code 17 = .ok (.iconst 1, 1) := by decide +kernel
theorem d19_18 : decode jdk_38_method_24_code 18 = .ok (.iadd, 1) := by decide +kernel
theorem d19_19 : decode jdk_38_method_24_code 19 = .ok (.putfield 48, 3) := by decide +kernel
theorem d19_22 : decode jdk_38_method_24_code 22 = .ok (.return_, 1) := by decide +kernel
set_option maxRecDepth 65536 in
set_option maxHeartbeats 40000000 in
theorem rmA3_0 (l : Launch) (Z : State) (a0 : Array Value) (hw : ∀ d ∈ tables_1, d.before a0 Z = true) (ws : List Jvm.Cond) (a1 a2 wD : Addr) (kD : ClassId) (m1 : Int32) (ms : List Addr) (h0 : Heap) (n0 : Nat) (O0 : Old Z n0 h0) (nb : Nat) (hb0 : n0 ≤ nb) (hnb : nb ≤ h0.size) (fr_a1 : nb ≤ a1) (hm_a1 : True) (S_D : Sta Z Z.heap "java/util/ArrayList" "DEFAULTCAPACITY_EMPTY_ELEMENTDATA" "[Ljava/lang/Object;" (.ref wD)) (E1 : Exa Z h0 a1 "java/util/ArrayList") (F1 : Fld Z h0 a1 "java/util/AbstractList" "modCount" "I" (.int m1)) (F2 : Fld Z h0 a1 "java/util/ArrayList" "elementData" "[Ljava/lang/Object;" (.ref wD)) (F3 : Fld Z h0 a1 "java/util/ArrayList" "size" "I" (.int 0)) (VD : Arv Z h0 wD kD (.object "java/lang/Object") 0 [] .null) (neD : wD ≠ a1) (E2 : Exa Z h0 a2 "com/example/dispatcher/dispatcher/web/FieldError") (ne21 : a2 ≠ a1) :
    Con l Z ms (⟨"java/util/ArrayList", "add", "(Ljava/lang/Object;[Ljava/lang/Object;I)V"⟩ : MethodName) jdk_38_method_24_code 4 none ws ({ frames := 3, cells := 1, slots := 10, locals := 41 } : Room) #[(.ref a1), (.ref a2), (.ref wD), (.int (0 : Int32))] h0 (fun v vm h L => ∃ d kd, v = none ∧ Fr nb L ∧ Keep h0 h [a1] ∧ h0.size ≤ d ∧ Fld Z h a1 "java/util/AbstractList" "modCount" "I" (.int m1) ∧ Fld Z h a1 "java/util/ArrayList" "elementData" "[Ljava/lang/Object;" (.ref d) ∧ Fld Z h a1 "java/util/ArrayList" "size" "I" (.int 1) ∧ Exa Z h d "[Ljava/lang/Object;" ∧ Arv Z h d kd (.object "java/lang/Object") 10 [(.ref a2), .null, .null, .null, .null, .null, .null, .null, .null, .null] .null ∧ Ovr Z kd "java/lang/Object") := by
  refine Con.mk (plainFor_of_name pn6) ?_
  intro p e s m below meth c s₁ Cc X0 e0 eb J0 B0 M0
  obtain ⟨hx, hZ, hown, hby, hml, hnm, hret, hlk⟩ := id Cc
  have N0 := Fr.nil nb
  have K0 := Keep.refl h0 [a1]
  show Go p e s below _ _ _ _ s₁ (mkF m 0 #[.val (.ref a1), .val (.ref a2), .val (.ref wD), .val (.int (0 : Int32))] [])
  refine Go.of (fun _ hr => XS.iloadN X0.here hx rfl (hb hby d19_0) rfl  hr) ?_
  show Go p e s below _ _ _ _ s₁ (mkF m 1 #[.val (.ref a1), .val (.ref a2), .val (.ref wD), .val (.int (0 : Int32))] [(.int (0 : Int32))])
  refine Go.of (fun _ hr => XS.aloadN X0.here hx rfl (hb hby d19_1) rfl rfl hr) ?_
  show Go p e s below _ _ _ _ s₁ (mkF m 2 #[.val (.ref a1), .val (.ref a2), .val (.ref wD), .val (.int (0 : Int32))] [(.ref wD), (.int (0 : Int32))])
  obtain ⟨cl101, Ar101, q101, S101, N101_, H101, G101⟩ := id VD
  refine Go.of (fun _ hr => X0.arraylength hx (by rw [e0]; exact Ar101.1) (State.isArrayOf_alike hZ.alike Ar101.2.1) (g := (mkF m 2 #[.val (.ref a1), .val (.ref a2), .val (.ref wD), .val (.int (0 : Int32))] [(.ref wD), (.int (0 : Int32))])) rfl rfl (hb hby d19_2) _ hr) ?_
  rw [len_of S101 N101_]
  show Go p e s below _ _ _ _ s₁ (mkF m 3 #[.val (.ref a1), .val (.ref a2), .val (.ref wD), .val (.int (0 : Int32))] [(.int (0 : Int32)), (.int (0 : Int32))])
  refine Go.of (fun _ hr => XS.icmpNo X0.here hx rfl (hb hby d19_3) rfl (teq (by decide : ((0 : Int32) = (0 : Int32)))).2 hr) ?_
  show Go p e s below _ _ _ _ s₁ (mkF m 6 #[.val (.ref a1), .val (.ref a2), .val (.ref wD), .val (.int (0 : Int32))] [])
  refine Go.of (fun _ hr => XS.aloadN X0.here hx rfl (hb hby d19_6) rfl rfl hr) ?_
  show Go p e s below _ _ _ _ s₁ (mkF m 7 #[.val (.ref a1), .val (.ref a2), .val (.ref wD), .val (.int (0 : Int32))] [(.ref a1)])
  obtain ⟨_, b102, T102, h102, L102, e102, Cc102, X102, B102, J102, g102, hQ102, st102⟩ := own_callR Cc B0 J0 X0 (y := (⟨"java/util/ArrayList", "grow", "()[Ljava/lang/Object;"⟩ : MethodName)) (hw _ (List.mem_of_getElem? (i := 137) rfl)) (hw _ (List.mem_of_getElem? (i := 138) rfl)) (hw _ (List.mem_of_getElem? (i := 140) rfl)) (hw _ (List.mem_of_getElem? (i := 139) rfl)) (hw _ (List.mem_of_getElem? (i := 48) rfl)) (hw _ (List.mem_of_getElem? (i := 141) rfl)) (by decide) E1 (rm20 l Z a0 hw [] a1 wD _ m1 _ h0 n0 O0 nb hb0 (Nat.le_trans hnb K0.1) fr_a1 trivial S_D E1 F1 F2 F3 VD neD) e0 (g := (mkF m 7 #[.val (.ref a1), .val (.ref a2), .val (.ref wD), .val (.int (0 : Int32))] [(.ref a1)])) rfl (by rw [hml]; rfl) (argsL := []) (rest := []) (lenOf pd7 rfl) rfl (W := 0) (by show 2 * 0 + _ ≤ _; exact Nat.le_of_eq rfl) (hb hby d19_7) (by decide) (by decide) (by decide) (by decide)
  obtain ⟨d102, kd102, rfl, Nq102, Kq102, R_d102, Fa102, Fb102, Fc102, Ed102, Vd102, Od102⟩ := hQ102
  have N102 := Fr.app N0 Nq102
  obtain ⟨hx, hZ, hown, hby, hml, hnm, hret, hlk⟩ := id Cc102
  have sz_d102 : h0.size ≤ d102 := Nat.le_trans K0.1 R_d102
  have fr_d102 : nb ≤ d102 := Nat.le_trans hnb sz_d102
  have ne_a1_d102 : a1 ≠ d102 := Nat.ne_of_lt (Nat.lt_of_lt_of_le E1.lt R_d102)
  have ne_a2_d102 : a2 ≠ d102 := Nat.ne_of_lt (Nat.lt_of_lt_of_le E2.lt R_d102)
  have ne_wD_d102 : wD ≠ d102 := Nat.ne_of_lt (Nat.lt_of_lt_of_le VD.lt R_d102)
  have K102 := K0.trans Kq102 (allS (Or.inl (List.mem_of_getElem? (i := 0) rfl)) all0)
  have O102 := O0.keep Kq102 (allS (Nat.le_trans hb0 fr_a1) all0)
  refine Go.of st102 ?_
  show Go p e s below _ _ _ _ T102 (mkF m 10 #[.val (.ref a1), .val (.ref a2), .val (.ref wD), .val (.int (0 : Int32))] [(.ref d102)])
  refine Go.of (fun _ hr => XS.astoreN X102.here hx rfl (hb hby d19_10) rfl rfl (l' := #[.val (.ref a1), .val (.ref a2), .val (.ref d102), .val (.int (0 : Int32))]) rfl hr) ?_
  show Go p e s below _ _ _ _ T102 (mkF m 11 #[.val (.ref a1), .val (.ref a2), .val (.ref d102), .val (.int (0 : Int32))] [])
  refine Go.of (fun _ hr => XS.aloadN X102.here hx rfl (hb hby d19_11) rfl rfl hr) ?_
  show Go p e s below _ _ _ _ T102 (mkF m 12 #[.val (.ref a1), .val (.ref a2), .val (.ref d102), .val (.int (0 : Int32))] [(.ref d102)])
  refine Go.of (fun _ hr => XS.iloadN X102.here hx rfl (hb hby d19_12) rfl  hr) ?_
  show Go p e s below _ _ _ _ T102 (mkF m 13 #[.val (.ref a1), .val (.ref a2), .val (.ref d102), .val (.int (0 : Int32))] [(.int (0 : Int32)), (.ref d102)])
  refine Go.of (fun _ hr => XS.aloadN X102.here hx rfl (hb hby d19_13) rfl rfl hr) ?_
  show Go p e s below _ _ _ _ T102 (mkF m 14 #[.val (.ref a1), .val (.ref a2), .val (.ref d102), .val (.int (0 : Int32))] [(.ref a2), (.int (0 : Int32)), (.ref d102)])
  have f104 := (E2.keep Kq102)
  obtain ⟨cl103, Ar103, q103, S103, N103_, H103, G103⟩ := id Vd102
  have hin103 : ¬ ((0 : Int32) < 0 ∨ cl103.slots.size ≤ ((0 : Int32)).toNatClampNeg) := inb_of S103 ⟨by decide, by decide⟩
  obtain ⟨T103, h103, X103, e103, W103, st103⟩ := stR X102 hx hZ e102 Ar103 (j := (0 : Int32)) hin103 rfl (Sto.ofV Ar103 q103 Od102 (Ins.of_exa f104 (hw _ (List.mem_of_getElem? (i := 153) rfl)))) (g := (mkF m 14 #[.val (.ref a1), .val (.ref a2), .val (.ref d102), .val (.int (0 : Int32))] [(.ref a2), (.int (0 : Int32)), (.ref d102)])) rfl rfl (hb hby d19_14)
  have V103 : Arv Z h103 d102 kd102 (.object "java/lang/Object") (10 : Int32) [(.ref a2), .null, .null, .null, .null, .null, .null, .null, .null, .null] .null := Arv.set Ar103 q103 S103 N103_ H103 G103 rfl W103 0 rfl (by simp)
  have N103 := Fr.snoc X103 N102 fr_d102
  have J103 := J102.wr W103 trivial
  have B103 := B102.mono (Nat.le_of_eq W103.size.symm)
  have O103 := O102.wr W103 (Nat.le_trans hb0 fr_d102)
  have K103 := K102.wr W103 (Or.inr sz_d102)
  refine Go.of (fun _ hr => st103 _ hr) ?_
  show Go p e s below _ _ _ _ T103 (mkF m 15 #[.val (.ref a1), .val (.ref a2), .val (.ref d102), .val (.int (0 : Int32))] [])
  refine Go.of (fun _ hr => XS.aloadN X103.here hx rfl (hb hby d19_15) rfl rfl hr) ?_
  show Go p e s below _ _ _ _ T103 (mkF m 16 #[.val (.ref a1), .val (.ref a2), .val (.ref d102), .val (.int (0 : Int32))] [(.ref a1)])
  refine Go.of (fun _ hr => XS.iloadN X103.here hx rfl (hb hby d19_16) rfl  hr) ?_
  show Go p e s below _ _ _ _ T103 (mkF m 17 #[.val (.ref a1), .val (.ref a2), .val (.ref d102), .val (.int (0 : Int32))] [(.int (0 : Int32)), (.ref a1)])
  refine Go.of (fun _ hr => XS.iconst X103.here hx rfl (hb hby d19_17) hr) ?_
  show Go p e s below _ _ _ _ T103 (mkF m 18 #[.val (.ref a1), .val (.ref a2), .val (.ref d102), .val (.int (0 : Int32))] [(.int (1 : Int32)), (.int (0 : Int32)), (.ref a1)])
  refine Go.of (fun _ hr => XS.iadd X103.here hx rfl (hb hby d19_18) rfl hr) ?_
  show Go p e s below _ _ _ _ T103 (mkF m 19 #[.val (.ref a1), .val (.ref a2), .val (.ref d102), .val (.int (0 : Int32))] [(.int (1 : Int32)), (.ref a1)])
  have f106 := (Fc102.other W103 (Or.inl ne_a1_d102))
  have f107 := ((E1.keep Kq102).wr W103)
  obtain ⟨T105, h105, X105, e105, W105, st105⟩ := putF X103 hx hZ hown (host := "") (Or.inl (hw _ (List.mem_of_getElem? (i := 100) rfl))) Via.refl e103 f106 f107 (Or.inl (hw _ (List.mem_of_getElem? (i := 101) rfl))) (hw _ (List.mem_of_getElem? (i := 47) rfl)) (ty := .int) (by decide) rfl rfl (g := (mkF m 19 #[.val (.ref a1), .val (.ref a2), .val (.ref d102), .val (.int (0 : Int32))] [(.int (1 : Int32)), (.ref a1)])) rfl rfl (hb hby d19_19)
  have N105 := Fr.snoc X105 N103 fr_a1
  have J105 := J103.wr W105 trivial
  have B105 := B103.mono (Nat.le_of_eq W105.size.symm)
  have O105 := O103.wr W105 (Nat.le_trans hb0 fr_a1)
  have K105 := K103.wr W105 (Or.inl (List.mem_of_getElem? (i := 0) rfl))
  have Fw105 := f106.same W105
  refine Go.of (fun _ hr => st105 _ hr) ?_
  show Go p e s below _ _ _ _ T105 (mkF m 22 #[.val (.ref a1), .val (.ref a2), .val (.ref d102), .val (.int (0 : Int32))] [])
  have f108 := ((Fa102.other W103 (Or.inl ne_a1_d102)).other W105 (Or.inr (slot_ne (Or.inl (hw _ (List.mem_of_getElem? (i := 66) rfl))) (Or.inl (hw _ (List.mem_of_getElem? (i := 101) rfl))) (by decide) (t := .int) (t' := .int) (by decide) (by decide))))
  have f109 := ((Fb102.other W103 (Or.inl ne_a1_d102)).other W105 (Or.inr (slot_ne (Or.inl (hw _ (List.mem_of_getElem? (i := 69) rfl))) (Or.inl (hw _ (List.mem_of_getElem? (i := 101) rfl))) (by decide) (t := (.array (.object "java/lang/Object"))) (t' := .int) (by decide) (by decide))))
  have f110 := ((Ed102.wr W103).wr W105)
  have f111 := (V103.other W105 (Ne.symm ne_a1_d102))
  exact Go.retV X105 hx hlk B105 J105 e105 hret (hb hby d19_22) (by decide) (by decide) (fun vm_ hw_ => ⟨_, _, rfl, N105, K105, sz_d102, f108, f109, Fw105, f110, f111, Od102⟩)

theorem d18_0 : decode jdk_38_method_25_code 0 = .ok (.aload_n 0, 1) := by decide +kernel
theorem d18_1 : decode jdk_38_method_25_code 1 = .ok (.dup, 1) := by decide +kernel
theorem d18_2 : decode jdk_38_method_25_code 2 = .ok (.getfield 63, 3) := by decide +kernel
theorem d18_5 : decode jdk_38_method_25_code 5 = .ok (.iconst 1, 1) := by decide +kernel
theorem d18_6 : decode jdk_38_method_25_code 6 = .ok (.iadd, 1) := by decide +kernel
theorem d18_7 : decode jdk_38_method_25_code 7 = .ok (.putfield 63, 3) := by decide +kernel
theorem d18_10 : decode jdk_38_method_25_code 10 = .ok (.aload_n 0, 1) := by decide +kernel
theorem d18_11 : decode jdk_38_method_25_code 11 = .ok (.aload_n 1, 1) := by decide +kernel
theorem d18_12 : decode jdk_38_method_25_code 12 = .ok (.aload_n 0, 1) := by decide +kernel
theorem d18_13 : decode jdk_38_method_25_code 13 = .ok (.getfield 9, 3) := by decide +kernel
theorem d18_16 : decode jdk_38_method_25_code 16 = .ok (.aload_n 0, 1) := by decide +kernel
theorem d18_17 : decode jdk_38_method_25_code 17 = .ok (.getfield 48, 3) := by decide +kernel
theorem d18_20 : decode jdk_38_method_25_code 20 = .ok (.invokevirtual 131, 3) := by decide +kernel
theorem pd8 : parseMethodDescriptor "(Ljava/lang/Object;[Ljava/lang/Object;I)V" = some ⟨[(.object "java/lang/Object"), (.array (.object "java/lang/Object")), .int], none⟩ := by decide +kernel
theorem d18_23 : decode jdk_38_method_25_code 23 = .ok (.iconst 1, 1) := by decide +kernel
theorem d18_24 : decode jdk_38_method_25_code 24 = .ok (.ireturn, 1) := by decide +kernel
set_option maxRecDepth 65536 in
set_option maxHeartbeats 40000000 in
theorem rmA1_0 (l : Launch) (Z : State) (a0 : Array Value) (hw : ∀ d ∈ tables_1, d.before a0 Z = true) (ws : List Jvm.Cond) (a1 a2 wD : Addr) (kD : ClassId) (m1 : Int32) (ms : List Addr) (h0 : Heap) (n0 : Nat) (O0 : Old Z n0 h0) (nb : Nat) (hb0 : n0 ≤ nb) (hnb : nb ≤ h0.size) (fr_a1 : nb ≤ a1) (hm_a1 : True) (S_D : Sta Z Z.heap "java/util/ArrayList" "DEFAULTCAPACITY_EMPTY_ELEMENTDATA" "[Ljava/lang/Object;" (.ref wD)) (E1 : Exa Z h0 a1 "java/util/ArrayList") (F1 : Fld Z h0 a1 "java/util/AbstractList" "modCount" "I" (.int m1)) (F2 : Fld Z h0 a1 "java/util/ArrayList" "elementData" "[Ljava/lang/Object;" (.ref wD)) (F3 : Fld Z h0 a1 "java/util/ArrayList" "size" "I" (.int 0)) (VD : Arv Z h0 wD kD (.object "java/lang/Object") 0 [] .null) (neD : wD ≠ a1) (E2 : Exa Z h0 a2 "com/example/dispatcher/dispatcher/web/FieldError") (ne21 : a2 ≠ a1) :
    Con l Z ms (⟨"java/util/ArrayList", "add", "(Ljava/lang/Object;)Z"⟩ : MethodName) jdk_38_method_25_code 2 (some .boolean) ws ({ frames := 4, cells := 1, slots := 10, locals := 56 } : Room) #[(.ref a1), (.ref a2)] h0 (fun v vm h L => ∃ d kd, v = some (.int 1) ∧ Fr nb L ∧ Keep h0 h [a1] ∧ h0.size ≤ d ∧ Fld Z h a1 "java/util/AbstractList" "modCount" "I" (.int (m1 + 1)) ∧ Fld Z h a1 "java/util/ArrayList" "elementData" "[Ljava/lang/Object;" (.ref d) ∧ Fld Z h a1 "java/util/ArrayList" "size" "I" (.int 1) ∧ Exa Z h d "[Ljava/lang/Object;" ∧ Arv Z h d kd (.object "java/lang/Object") 10 [(.ref a2), .null, .null, .null, .null, .null, .null, .null, .null, .null] .null ∧ Ovr Z kd "java/lang/Object") := by
  refine Con.mk (plainFor_of_name pn6) ?_
  intro p e s m below meth c s₁ Cc X0 e0 eb J0 B0 M0
  obtain ⟨hx, hZ, hown, hby, hml, hnm, hret, hlk⟩ := id Cc
  have N0 := Fr.nil nb
  have K0 := Keep.refl h0 [a1]
  show Go p e s below _ _ _ _ s₁ (mkF m 0 #[.val (.ref a1), .val (.ref a2)] [])
  refine Go.of (fun _ hr => XS.aloadN X0.here hx rfl (hb hby d18_0) rfl rfl hr) ?_
  show Go p e s below _ _ _ _ s₁ (mkF m 1 #[.val (.ref a1), .val (.ref a2)] [(.ref a1)])
  refine Go.of (fun _ hr => XS.dup X0.here hx rfl (hb hby d18_1) rfl rfl hr) ?_
  show Go p e s below _ _ _ _ s₁ (mkF m 2 #[.val (.ref a1), .val (.ref a2)] [(.ref a1), (.ref a1)])
  obtain ⟨T101, X101, e101, st101⟩ := getF X0 hx hZ hown (host := "") (Or.inl (hw _ (List.mem_of_getElem? (i := 130) rfl))) (Via.of (hw _ (List.mem_of_getElem? (i := 131) rfl))) e0 F1 (g := (mkF m 2 #[.val (.ref a1), .val (.ref a2)] [(.ref a1), (.ref a1)])) rfl rfl (hb hby d18_2)
  refine Go.of (fun _ hr => st101 _ hr) ?_
  show Go p e s below _ _ _ _ T101 (mkF m 5 #[.val (.ref a1), .val (.ref a2)] [(.int m1), (.ref a1)])
  refine Go.of (fun _ hr => XS.iconst X101.here hx rfl (hb hby d18_5) hr) ?_
  show Go p e s below _ _ _ _ T101 (mkF m 6 #[.val (.ref a1), .val (.ref a2)] [(.int (1 : Int32)), (.int m1), (.ref a1)])
  refine Go.of (fun _ hr => XS.iadd X101.here hx rfl (hb hby d18_6) rfl hr) ?_
  show Go p e s below _ _ _ _ T101 (mkF m 7 #[.val (.ref a1), .val (.ref a2)] [(.int (m1 + (1 : Int32))), (.ref a1)])
  obtain ⟨T102, h102, X102, e102, W102, st102⟩ := putF X101 hx hZ hown (host := "") (Or.inl (hw _ (List.mem_of_getElem? (i := 130) rfl))) (Via.of (hw _ (List.mem_of_getElem? (i := 131) rfl))) e101 F1 E1 (Or.inl (hw _ (List.mem_of_getElem? (i := 66) rfl))) (hw _ (List.mem_of_getElem? (i := 47) rfl)) (ty := .int) (by decide) rfl rfl (g := (mkF m 7 #[.val (.ref a1), .val (.ref a2)] [(.int (m1 + (1 : Int32))), (.ref a1)])) rfl rfl (hb hby d18_7)
  have N102 := Fr.snoc X102 N0 fr_a1
  have J102 := J0.wr W102 trivial
  have B102 := B0.mono (Nat.le_of_eq W102.size.symm)
  have O102 := O0.wr W102 (Nat.le_trans hb0 fr_a1)
  have K102 := K0.wr W102 (Or.inl (List.mem_of_getElem? (i := 0) rfl))
  have Fw102 := F1.same W102
  refine Go.of (fun _ hr => st102 _ hr) ?_
  show Go p e s below _ _ _ _ T102 (mkF m 10 #[.val (.ref a1), .val (.ref a2)] [])
  refine Go.of (fun _ hr => XS.aloadN X102.here hx rfl (hb hby d18_10) rfl rfl hr) ?_
  show Go p e s below _ _ _ _ T102 (mkF m 11 #[.val (.ref a1), .val (.ref a2)] [(.ref a1)])
  refine Go.of (fun _ hr => XS.aloadN X102.here hx rfl (hb hby d18_11) rfl rfl hr) ?_
  show Go p e s below _ _ _ _ T102 (mkF m 12 #[.val (.ref a1), .val (.ref a2)] [(.ref a2), (.ref a1)])
  refine Go.of (fun _ hr => XS.aloadN X102.here hx rfl (hb hby d18_12) rfl rfl hr) ?_
  show Go p e s below _ _ _ _ T102 (mkF m 13 #[.val (.ref a1), .val (.ref a2)] [(.ref a1), (.ref a2), (.ref a1)])
  have f104 := (F2.other W102 (Or.inr (slot_ne (Or.inl (hw _ (List.mem_of_getElem? (i := 69) rfl))) (Or.inl (hw _ (List.mem_of_getElem? (i := 66) rfl))) (by decide) (t := (.array (.object "java/lang/Object"))) (t' := .int) (by decide) (by decide))))
  obtain ⟨T103, X103, e103, st103⟩ := getF X102 hx hZ hown (host := "") (Or.inl (hw _ (List.mem_of_getElem? (i := 68) rfl))) Via.refl e102 f104 (g := (mkF m 13 #[.val (.ref a1), .val (.ref a2)] [(.ref a1), (.ref a2), (.ref a1)])) rfl rfl (hb hby d18_13)
  refine Go.of (fun _ hr => st103 _ hr) ?_
  show Go p e s below _ _ _ _ T103 (mkF m 16 #[.val (.ref a1), .val (.ref a2)] [(.ref wD), (.ref a2), (.ref a1)])
  refine Go.of (fun _ hr => XS.aloadN X103.here hx rfl (hb hby d18_16) rfl rfl hr) ?_
  show Go p e s below _ _ _ _ T103 (mkF m 17 #[.val (.ref a1), .val (.ref a2)] [(.ref a1), (.ref wD), (.ref a2), (.ref a1)])
  have f106 := (F3.other W102 (Or.inr (slot_ne (Or.inl (hw _ (List.mem_of_getElem? (i := 101) rfl))) (Or.inl (hw _ (List.mem_of_getElem? (i := 66) rfl))) (by decide) (t := .int) (t' := .int) (by decide) (by decide))))
  obtain ⟨T105, X105, e105, st105⟩ := getF X103 hx hZ hown (host := "") (Or.inl (hw _ (List.mem_of_getElem? (i := 100) rfl))) Via.refl e103 f106 (g := (mkF m 17 #[.val (.ref a1), .val (.ref a2)] [(.ref a1), (.ref wD), (.ref a2), (.ref a1)])) rfl rfl (hb hby d18_17)
  refine Go.of (fun _ hr => st105 _ hr) ?_
  show Go p e s below _ _ _ _ T105 (mkF m 20 #[.val (.ref a1), .val (.ref a2)] [(.int (0 : Int32)), (.ref wD), (.ref a2), (.ref a1)])
  have f108 := (E1.wr W102)
  have f109 := (VD.other W102 neD)
  have f110 := (E2.wr W102)
  obtain ⟨_, b107, T107, h107, L107, e107, Cc107, X107, B107, J107, g107, hQ107, st107⟩ := own_callR Cc B102 J102 X105 (y := (⟨"java/util/ArrayList", "add", "(Ljava/lang/Object;[Ljava/lang/Object;I)V"⟩ : MethodName)) (hw _ (List.mem_of_getElem? (i := 132) rfl)) (hw _ (List.mem_of_getElem? (i := 133) rfl)) (hw _ (List.mem_of_getElem? (i := 135) rfl)) (hw _ (List.mem_of_getElem? (i := 134) rfl)) (hw _ (List.mem_of_getElem? (i := 48) rfl)) (hw _ (List.mem_of_getElem? (i := 136) rfl)) (by decide) f108 (rmA3_0 l Z a0 hw [] a1 a2 wD _ (m1 + (1 : Int32)) _ h102 n0 O102 nb hb0 (Nat.le_trans hnb K102.1) fr_a1 trivial S_D f108 Fw102 f104 f106 f109 neD f110 ne21) e105 (g := (mkF m 20 #[.val (.ref a1), .val (.ref a2)] [(.int (0 : Int32)), (.ref wD), (.ref a2), (.ref a1)])) rfl (by rw [hml]; rfl) (argsL := [(.ref a2), (.ref wD), (.int (0 : Int32))]) (rest := []) (lenOf pd8 rfl) rfl (W := 0) (by show 2 * 0 + _ ≤ _; exact Nat.le_of_eq rfl) (hb hby d18_20) (by decide) (by decide) (by decide) (by decide)
  obtain ⟨d107, kd107, rfl, Nq107, Kq107, R_d107, Fa107, Fb107, Fc107, Ed107, Vd107, Od107⟩ := hQ107
  have N107 := Fr.app N102 Nq107
  obtain ⟨hx, hZ, hown, hby, hml, hnm, hret, hlk⟩ := id Cc107
  have sz_d107 : h0.size ≤ d107 := Nat.le_trans K102.1 R_d107
  have fr_d107 : nb ≤ d107 := Nat.le_trans hnb sz_d107
  have ne_a1_d107 : a1 ≠ d107 := Nat.ne_of_lt (Nat.lt_of_lt_of_le f108.lt R_d107)
  have ne_a2_d107 : a2 ≠ d107 := Nat.ne_of_lt (Nat.lt_of_lt_of_le f110.lt R_d107)
  have ne_wD_d107 : wD ≠ d107 := Nat.ne_of_lt (Nat.lt_of_lt_of_le f109.lt R_d107)
  have K107 := K102.trans Kq107 (allS (Or.inl (List.mem_of_getElem? (i := 0) rfl)) all0)
  have O107 := O102.keep Kq107 (allS (Nat.le_trans hb0 fr_a1) all0)
  refine Go.of st107 ?_
  show Go p e s below _ _ _ _ T107 (mkF m 23 #[.val (.ref a1), .val (.ref a2)] [])
  refine Go.of (fun _ hr => XS.iconst X107.here hx rfl (hb hby d18_23) hr) ?_
  show Go p e s below _ _ _ _ T107 (mkF m 24 #[.val (.ref a1), .val (.ref a2)] [(.int (1 : Int32))])
  exact Go.retN X107 hx hlk B107 J107 e107 (t := .boolean) (z' := (1 : Int32)) hret (by simp) (hb hby d18_24) rfl (by decide) (by decide) (fun vm_ hw_ => ⟨_, _, rfl, N107, K107, sz_d107, Fa107, Fb107, Fc107, Ed107, Vd107, Od107⟩)

set_option maxRecDepth 65536 in
set_option maxHeartbeats 40000000 in
theorem rmA3_1 (l : Launch) (Z : State) (a0 : Array Value) (hw : ∀ d ∈ tables_1, d.before a0 Z = true) (ws : List Jvm.Cond) (a1 a2 d : Addr) (kd : ClassId) (m1 : Int32) (ms : List Addr) (h0 : Heap) (n0 : Nat) (O0 : Old Z n0 h0) (nb : Nat) (hb0 : n0 ≤ nb) (hnb : nb ≤ h0.size) (fr_a1 : nb ≤ a1) (hm_a1 : True) (fr_d : nb ≤ d) (hm_d : True) (E1 : Exa Z h0 a1 "java/util/ArrayList") (F1 : Fld Z h0 a1 "java/util/AbstractList" "modCount" "I" (.int m1)) (F2 : Fld Z h0 a1 "java/util/ArrayList" "elementData" "[Ljava/lang/Object;" (.ref d)) (F3 : Fld Z h0 a1 "java/util/ArrayList" "size" "I" (.int 1)) (Ed : Exa Z h0 d "[Ljava/lang/Object;") (Vd : Arv Z h0 d kd (.object "java/lang/Object") 10 [(.ref a2), .null, .null, .null, .null, .null, .null, .null, .null, .null] .null) (Od : Ovr Z kd "java/lang/Object") (neD : d ≠ a1) (neE : a2 ≠ d) (E2 : Exa Z h0 a2 "com/example/dispatcher/dispatcher/web/FieldError") (ne21 : a2 ≠ a1) :
    Con l Z ms (⟨"java/util/ArrayList", "add", "(Ljava/lang/Object;[Ljava/lang/Object;I)V"⟩ : MethodName) jdk_38_method_24_code 4 none ws ({ frames := 0, cells := 0, slots := 0, locals := 0 } : Room) #[(.ref a1), (.ref a2), (.ref d), (.int (1 : Int32))] h0 (fun v vm h L => v = none ∧ Fr nb L ∧ Keep h0 h [a1, d] ∧ Fld Z h a1 "java/util/AbstractList" "modCount" "I" (.int m1) ∧ Fld Z h a1 "java/util/ArrayList" "elementData" "[Ljava/lang/Object;" (.ref d) ∧ Fld Z h a1 "java/util/ArrayList" "size" "I" (.int 2) ∧ Exa Z h d "[Ljava/lang/Object;" ∧ Arv Z h d kd (.object "java/lang/Object") 10 [(.ref a2), (.ref a2), .null, .null, .null, .null, .null, .null, .null, .null] .null) := by
  refine Con.mk (plainFor_of_name pn6) ?_
  intro p e s m below meth c s₁ Cc X0 e0 eb J0 B0 M0
  obtain ⟨hx, hZ, hown, hby, hml, hnm, hret, hlk⟩ := id Cc
  have N0 := Fr.nil nb
  have K0 := Keep.refl h0 [a1, d]
  show Go p e s below _ _ _ _ s₁ (mkF m 0 #[.val (.ref a1), .val (.ref a2), .val (.ref d), .val (.int (1 : Int32))] [])
  refine Go.of (fun _ hr => XS.iloadN X0.here hx rfl (hb hby d19_0) rfl  hr) ?_
  show Go p e s below _ _ _ _ s₁ (mkF m 1 #[.val (.ref a1), .val (.ref a2), .val (.ref d), .val (.int (1 : Int32))] [(.int (1 : Int32))])
  refine Go.of (fun _ hr => XS.aloadN X0.here hx rfl (hb hby d19_1) rfl rfl hr) ?_
  show Go p e s below _ _ _ _ s₁ (mkF m 2 #[.val (.ref a1), .val (.ref a2), .val (.ref d), .val (.int (1 : Int32))] [(.ref d), (.int (1 : Int32))])
  obtain ⟨cl101, Ar101, q101, S101, N101_, H101, G101⟩ := id Vd
  refine Go.of (fun _ hr => X0.arraylength hx (by rw [e0]; exact Ar101.1) (State.isArrayOf_alike hZ.alike Ar101.2.1) (g := (mkF m 2 #[.val (.ref a1), .val (.ref a2), .val (.ref d), .val (.int (1 : Int32))] [(.ref d), (.int (1 : Int32))])) rfl rfl (hb hby d19_2) _ hr) ?_
  rw [len_of S101 N101_]
  show Go p e s below _ _ _ _ s₁ (mkF m 3 #[.val (.ref a1), .val (.ref a2), .val (.ref d), .val (.int (1 : Int32))] [(.int (10 : Int32)), (.int (1 : Int32))])
  refine Go.of (fun _ hr => XS.icmpYes X0.here hx rfl (pc0 := 3) (pc' := 11) rfl (hb hby d19_3) rfl (feq (by decide : ¬ ((1 : Int32) = (10 : Int32)))).2 (by decide) (by decide) hr) ?_
  show Go p e s below _ _ _ _ s₁ (mkF m 11 #[.val (.ref a1), .val (.ref a2), .val (.ref d), .val (.int (1 : Int32))] [])
  refine Go.of (fun _ hr => XS.aloadN X0.here hx rfl (hb hby d19_11) rfl rfl hr) ?_
  show Go p e s below _ _ _ _ s₁ (mkF m 12 #[.val (.ref a1), .val (.ref a2), .val (.ref d), .val (.int (1 : Int32))] [(.ref d)])
  refine Go.of (fun _ hr => XS.iloadN X0.here hx rfl (hb hby d19_12) rfl  hr) ?_
  show Go p e s below _ _ _ _ s₁ (mkF m 13 #[.val (.ref a1), .val (.ref a2), .val (.ref d), .val (.int (1 : Int32))] [(.int (1 : Int32)), (.ref d)])
  refine Go.of (fun _ hr => XS.aloadN X0.here hx rfl (hb hby d19_13) rfl rfl hr) ?_
  show Go p e s below _ _ _ _ s₁ (mkF m 14 #[.val (.ref a1), .val (.ref a2), .val (.ref d), .val (.int (1 : Int32))] [(.ref a2), (.int (1 : Int32)), (.ref d)])
  obtain ⟨cl102, Ar102, q102, S102, N102_, H102, G102⟩ := id Vd
  have hin102 : ¬ ((1 : Int32) < 0 ∨ cl102.slots.size ≤ ((1 : Int32)).toNatClampNeg) := inb_of S102 ⟨by decide, by decide⟩
  obtain ⟨T102, h102, X102, e102, W102, st102⟩ := stR X0 hx hZ e0 Ar102 (j := (1 : Int32)) hin102 rfl (Sto.ofV Ar102 q102 Od (Ins.of_exa E2 (hw _ (List.mem_of_getElem? (i := 153) rfl)))) (g := (mkF m 14 #[.val (.ref a1), .val (.ref a2), .val (.ref d), .val (.int (1 : Int32))] [(.ref a2), (.int (1 : Int32)), (.ref d)])) rfl rfl (hb hby d19_14)
  have V102 : Arv Z h102 d kd (.object "java/lang/Object") (10 : Int32) [(.ref a2), (.ref a2), .null, .null, .null, .null, .null, .null, .null, .null] .null := Arv.set Ar102 q102 S102 N102_ H102 G102 rfl W102 1 rfl (by simp)
  have N102 := Fr.snoc X102 N0 fr_d
  have J102 := J0.wr W102 trivial
  have B102 := B0.mono (Nat.le_of_eq W102.size.symm)
  have O102 := O0.wr W102 (Nat.le_trans hb0 fr_d)
  have K102 := K0.wr W102 (Or.inl (List.mem_of_getElem? (i := 1) rfl))
  refine Go.of (fun _ hr => st102 _ hr) ?_
  show Go p e s below _ _ _ _ T102 (mkF m 15 #[.val (.ref a1), .val (.ref a2), .val (.ref d), .val (.int (1 : Int32))] [])
  refine Go.of (fun _ hr => XS.aloadN X102.here hx rfl (hb hby d19_15) rfl rfl hr) ?_
  show Go p e s below _ _ _ _ T102 (mkF m 16 #[.val (.ref a1), .val (.ref a2), .val (.ref d), .val (.int (1 : Int32))] [(.ref a1)])
  refine Go.of (fun _ hr => XS.iloadN X102.here hx rfl (hb hby d19_16) rfl  hr) ?_
  show Go p e s below _ _ _ _ T102 (mkF m 17 #[.val (.ref a1), .val (.ref a2), .val (.ref d), .val (.int (1 : Int32))] [(.int (1 : Int32)), (.ref a1)])
  refine Go.of (fun _ hr => XS.iconst X102.here hx rfl (hb hby d19_17) hr) ?_
  show Go p e s below _ _ _ _ T102 (mkF m 18 #[.val (.ref a1), .val (.ref a2), .val (.ref d), .val (.int (1 : Int32))] [(.int (1 : Int32)), (.int (1 : Int32)), (.ref a1)])
  refine Go.of (fun _ hr => XS.iadd X102.here hx rfl (hb hby d19_18) rfl hr) ?_
  show Go p e s below _ _ _ _ T102 (mkF m 19 #[.val (.ref a1), .val (.ref a2), .val (.ref d), .val (.int (1 : Int32))] [(.int (2 : Int32)), (.ref a1)])
  have f104 := (F3.other W102 (Or.inl (Ne.symm neD)))
  have f105 := (E1.wr W102)
  obtain ⟨T103, h103, X103, e103, W103, st103⟩ := putF X102 hx hZ hown (host := "") (Or.inl (hw _ (List.mem_of_getElem? (i := 100) rfl))) Via.refl e102 f104 f105 (Or.inl (hw _ (List.mem_of_getElem? (i := 101) rfl))) (hw _ (List.mem_of_getElem? (i := 47) rfl)) (ty := .int) (by decide) rfl rfl (g := (mkF m 19 #[.val (.ref a1), .val (.ref a2), .val (.ref d), .val (.int (1 : Int32))] [(.int (2 : Int32)), (.ref a1)])) rfl rfl (hb hby d19_19)
  have N103 := Fr.snoc X103 N102 fr_a1
  have J103 := J102.wr W103 trivial
  have B103 := B102.mono (Nat.le_of_eq W103.size.symm)
  have O103 := O102.wr W103 (Nat.le_trans hb0 fr_a1)
  have K103 := K102.wr W103 (Or.inl (List.mem_of_getElem? (i := 0) rfl))
  have Fw103 := f104.same W103
  refine Go.of (fun _ hr => st103 _ hr) ?_
  show Go p e s below _ _ _ _ T103 (mkF m 22 #[.val (.ref a1), .val (.ref a2), .val (.ref d), .val (.int (1 : Int32))] [])
  have f106 := ((F1.other W102 (Or.inl (Ne.symm neD))).other W103 (Or.inr (slot_ne (Or.inl (hw _ (List.mem_of_getElem? (i := 66) rfl))) (Or.inl (hw _ (List.mem_of_getElem? (i := 101) rfl))) (by decide) (t := .int) (t' := .int) (by decide) (by decide))))
  have f107 := ((F2.other W102 (Or.inl (Ne.symm neD))).other W103 (Or.inr (slot_ne (Or.inl (hw _ (List.mem_of_getElem? (i := 69) rfl))) (Or.inl (hw _ (List.mem_of_getElem? (i := 101) rfl))) (by decide) (t := (.array (.object "java/lang/Object"))) (t' := .int) (by decide) (by decide))))
  have f108 := ((Ed.wr W102).wr W103)
  have f109 := (V102.other W103 neD)
  exact Go.retV X103 hx hlk B103 J103 e103 hret (hb hby d19_22) (by decide) (by decide) (fun vm_ hw_ => ⟨rfl, N103, K103, f106, f107, Fw103, f108, f109⟩)

set_option maxRecDepth 65536 in
set_option maxHeartbeats 40000000 in
theorem rmA1_1 (l : Launch) (Z : State) (a0 : Array Value) (hw : ∀ d ∈ tables_1, d.before a0 Z = true) (ws : List Jvm.Cond) (a1 a2 d : Addr) (kd : ClassId) (m1 : Int32) (ms : List Addr) (h0 : Heap) (n0 : Nat) (O0 : Old Z n0 h0) (nb : Nat) (hb0 : n0 ≤ nb) (hnb : nb ≤ h0.size) (fr_a1 : nb ≤ a1) (hm_a1 : True) (fr_d : nb ≤ d) (hm_d : True) (E1 : Exa Z h0 a1 "java/util/ArrayList") (F1 : Fld Z h0 a1 "java/util/AbstractList" "modCount" "I" (.int m1)) (F2 : Fld Z h0 a1 "java/util/ArrayList" "elementData" "[Ljava/lang/Object;" (.ref d)) (F3 : Fld Z h0 a1 "java/util/ArrayList" "size" "I" (.int 1)) (Ed : Exa Z h0 d "[Ljava/lang/Object;") (Vd : Arv Z h0 d kd (.object "java/lang/Object") 10 [(.ref a2), .null, .null, .null, .null, .null, .null, .null, .null, .null] .null) (Od : Ovr Z kd "java/lang/Object") (neD : d ≠ a1) (neE : a2 ≠ d) (E2 : Exa Z h0 a2 "com/example/dispatcher/dispatcher/web/FieldError") (ne21 : a2 ≠ a1) :
    Con l Z ms (⟨"java/util/ArrayList", "add", "(Ljava/lang/Object;)Z"⟩ : MethodName) jdk_38_method_25_code 2 (some .boolean) ws ({ frames := 1, cells := 0, slots := 0, locals := 15 } : Room) #[(.ref a1), (.ref a2)] h0 (fun v vm h L => v = some (.int 1) ∧ Fr nb L ∧ Keep h0 h [a1, d] ∧ Fld Z h a1 "java/util/AbstractList" "modCount" "I" (.int (m1 + 1)) ∧ Fld Z h a1 "java/util/ArrayList" "elementData" "[Ljava/lang/Object;" (.ref d) ∧ Fld Z h a1 "java/util/ArrayList" "size" "I" (.int 2) ∧ Exa Z h d "[Ljava/lang/Object;" ∧ Arv Z h d kd (.object "java/lang/Object") 10 [(.ref a2), (.ref a2), .null, .null, .null, .null, .null, .null, .null, .null] .null) := by
  refine Con.mk (plainFor_of_name pn6) ?_
  intro p e s m below meth c s₁ Cc X0 e0 eb J0 B0 M0
  obtain ⟨hx, hZ, hown, hby, hml, hnm, hret, hlk⟩ := id Cc
  have N0 := Fr.nil nb
  have K0 := Keep.refl h0 [a1, d]
  show Go p e s below _ _ _ _ s₁ (mkF m 0 #[.val (.ref a1), .val (.ref a2)] [])
  refine Go.of (fun _ hr => XS.aloadN X0.here hx rfl (hb hby d18_0) rfl rfl hr) ?_
  show Go p e s below _ _ _ _ s₁ (mkF m 1 #[.val (.ref a1), .val (.ref a2)] [(.ref a1)])
  refine Go.of (fun _ hr => XS.dup X0.here hx rfl (hb hby d18_1) rfl rfl hr) ?_
  show Go p e s below _ _ _ _ s₁ (mkF m 2 #[.val (.ref a1), .val (.ref a2)] [(.ref a1), (.ref a1)])
  obtain ⟨T101, X101, e101, st101⟩ := getF X0 hx hZ hown (host := "") (Or.inl (hw _ (List.mem_of_getElem? (i := 130) rfl))) (Via.of (hw _ (List.mem_of_getElem? (i := 131) rfl))) e0 F1 (g := (mkF m 2 #[.val (.ref a1), .val (.ref a2)] [(.ref a1), (.ref a1)])) rfl rfl (hb hby d18_2)
  refine Go.of (fun _ hr => st101 _ hr) ?_
  show Go p e s below _ _ _ _ T101 (mkF m 5 #[.val (.ref a1), .val (.ref a2)] [(.int m1), (.ref a1)])
  refine Go.of (fun _ hr => XS.iconst X101.here hx rfl (hb hby d18_5) hr) ?_
  show Go p e s below _ _ _ _ T101 (mkF m 6 #[.val (.ref a1), .val (.ref a2)] [(.int (1 : Int32)), (.int m1), (.ref a1)])
  refine Go.of (fun _ hr => XS.iadd X101.here hx rfl (hb hby d18_6) rfl hr) ?_
  show Go p e s below _ _ _ _ T101 (mkF m 7 #[.val (.ref a1), .val (.ref a2)] [(.int (m1 + (1 : Int32))), (.ref a1)])
  obtain ⟨T102, h102, X102, e102, W102, st102⟩ := putF X101 hx hZ hown (host := "") (Or.inl (hw _ (List.mem_of_getElem? (i := 130) rfl))) (Via.of (hw _ (List.mem_of_getElem? (i := 131) rfl))) e101 F1 E1 (Or.inl (hw _ (List.mem_of_getElem? (i := 66) rfl))) (hw _ (List.mem_of_getElem? (i := 47) rfl)) (ty := .int) (by decide) rfl rfl (g := (mkF m 7 #[.val (.ref a1), .val (.ref a2)] [(.int (m1 + (1 : Int32))), (.ref a1)])) rfl rfl (hb hby d18_7)
  have N102 := Fr.snoc X102 N0 fr_a1
  have J102 := J0.wr W102 trivial
  have B102 := B0.mono (Nat.le_of_eq W102.size.symm)
  have O102 := O0.wr W102 (Nat.le_trans hb0 fr_a1)
  have K102 := K0.wr W102 (Or.inl (List.mem_of_getElem? (i := 0) rfl))
  have Fw102 := F1.same W102
  refine Go.of (fun _ hr => st102 _ hr) ?_
  show Go p e s below _ _ _ _ T102 (mkF m 10 #[.val (.ref a1), .val (.ref a2)] [])
  refine Go.of (fun _ hr => XS.aloadN X102.here hx rfl (hb hby d18_10) rfl rfl hr) ?_
  show Go p e s below _ _ _ _ T102 (mkF m 11 #[.val (.ref a1), .val (.ref a2)] [(.ref a1)])
  refine Go.of (fun _ hr => XS.aloadN X102.here hx rfl (hb hby d18_11) rfl rfl hr) ?_
  show Go p e s below _ _ _ _ T102 (mkF m 12 #[.val (.ref a1), .val (.ref a2)] [(.ref a2), (.ref a1)])
  refine Go.of (fun _ hr => XS.aloadN X102.here hx rfl (hb hby d18_12) rfl rfl hr) ?_
  show Go p e s below _ _ _ _ T102 (mkF m 13 #[.val (.ref a1), .val (.ref a2)] [(.ref a1), (.ref a2), (.ref a1)])
  have f104 := (F2.other W102 (Or.inr (slot_ne (Or.inl (hw _ (List.mem_of_getElem? (i := 69) rfl))) (Or.inl (hw _ (List.mem_of_getElem? (i := 66) rfl))) (by decide) (t := (.array (.object "java/lang/Object"))) (t' := .int) (by decide) (by decide))))
  obtain ⟨T103, X103, e103, st103⟩ := getF X102 hx hZ hown (host := "") (Or.inl (hw _ (List.mem_of_getElem? (i := 68) rfl))) Via.refl e102 f104 (g := (mkF m 13 #[.val (.ref a1), .val (.ref a2)] [(.ref a1), (.ref a2), (.ref a1)])) rfl rfl (hb hby d18_13)
  refine Go.of (fun _ hr => st103 _ hr) ?_
  show Go p e s below _ _ _ _ T103 (mkF m 16 #[.val (.ref a1), .val (.ref a2)] [(.ref d), (.ref a2), (.ref a1)])
  refine Go.of (fun _ hr => XS.aloadN X103.here hx rfl (hb hby d18_16) rfl rfl hr) ?_
  show Go p e s below _ _ _ _ T103 (mkF m 17 #[.val (.ref a1), .val (.ref a2)] [(.ref a1), (.ref d), (.ref a2), (.ref a1)])
  have f106 := (F3.other W102 (Or.inr (slot_ne (Or.inl (hw _ (List.mem_of_getElem? (i := 101) rfl))) (Or.inl (hw _ (List.mem_of_getElem? (i := 66) rfl))) (by decide) (t := .int) (t' := .int) (by decide) (by decide))))
  obtain ⟨T105, X105, e105, st105⟩ := getF X103 hx hZ hown (host := "") (Or.inl (hw _ (List.mem_of_getElem? (i := 100) rfl))) Via.refl e103 f106 (g := (mkF m 17 #[.val (.ref a1), .val (.ref a2)] [(.ref a1), (.ref d), (.ref a2), (.ref a1)])) rfl rfl (hb hby d18_17)
  refine Go.of (fun _ hr => st105 _ hr) ?_
  show Go p e s below _ _ _ _ T105 (mkF m 20 #[.val (.ref a1), .val (.ref a2)] [(.int (1 : Int32)), (.ref d), (.ref a2), (.ref a1)])
  have f108 := (E1.wr W102)
  have f109 := (Ed.wr W102)
  have f110 := (Vd.other W102 neD)
  have f111 := (E2.wr W102)
  obtain ⟨_, b107, T107, h107, L107, e107, Cc107, X107, B107, J107, g107, hQ107, st107⟩ := own_callR Cc B102 J102 X105 (y := (⟨"java/util/ArrayList", "add", "(Ljava/lang/Object;[Ljava/lang/Object;I)V"⟩ : MethodName)) (hw _ (List.mem_of_getElem? (i := 132) rfl)) (hw _ (List.mem_of_getElem? (i := 133) rfl)) (hw _ (List.mem_of_getElem? (i := 135) rfl)) (hw _ (List.mem_of_getElem? (i := 134) rfl)) (hw _ (List.mem_of_getElem? (i := 48) rfl)) (hw _ (List.mem_of_getElem? (i := 136) rfl)) (by decide) f108 (rmA3_1 l Z a0 hw [] a1 a2 d _ (m1 + (1 : Int32)) _ h102 n0 O102 nb hb0 (Nat.le_trans hnb K102.1) fr_a1 trivial fr_d trivial f108 Fw102 f104 f106 f109 f110 Od neD neE f111 ne21) e105 (g := (mkF m 20 #[.val (.ref a1), .val (.ref a2)] [(.int (1 : Int32)), (.ref d), (.ref a2), (.ref a1)])) rfl (by rw [hml]; rfl) (argsL := [(.ref a2), (.ref d), (.int (1 : Int32))]) (rest := []) (lenOf pd8 rfl) rfl (W := 0) (by show 2 * 0 + _ ≤ _; exact Nat.le_of_eq rfl) (hb hby d18_20) (by decide) (by decide) (by decide) (by decide)
  obtain ⟨rfl, Nq107, Kq107, Fa107, Fb107, Fc107, Ed107, Vd107⟩ := hQ107
  have N107 := Fr.app N102 Nq107
  obtain ⟨hx, hZ, hown, hby, hml, hnm, hret, hlk⟩ := id Cc107
  have K107 := K102.trans Kq107 (allS (Or.inl (List.mem_of_getElem? (i := 0) rfl)) (allS (Or.inl (List.mem_of_getElem? (i := 1) rfl)) all0))
  have O107 := O102.keep Kq107 (allS (Nat.le_trans hb0 fr_a1) (allS (Nat.le_trans hb0 fr_d) all0))
  refine Go.of st107 ?_
  show Go p e s below _ _ _ _ T107 (mkF m 23 #[.val (.ref a1), .val (.ref a2)] [])
  refine Go.of (fun _ hr => XS.iconst X107.here hx rfl (hb hby d18_23) hr) ?_
  show Go p e s below _ _ _ _ T107 (mkF m 24 #[.val (.ref a1), .val (.ref a2)] [(.int (1 : Int32))])
  exact Go.retN X107 hx hlk B107 J107 e107 (t := .boolean) (z' := (1 : Int32)) hret (by simp) (hb hby d18_24) rfl (by decide) (by decide) (fun vm_ hw_ => ⟨rfl, N107, K107, Fa107, Fb107, Fc107, Ed107, Vd107⟩)

set_option maxRecDepth 65536 in
set_option maxHeartbeats 40000000 in
theorem rmA3_2 (l : Launch) (Z : State) (a0 : Array Value) (hw : ∀ d ∈ tables_1, d.before a0 Z = true) (ws : List Jvm.Cond) (a1 a2 d : Addr) (kd : ClassId) (m1 : Int32) (ms : List Addr) (h0 : Heap) (n0 : Nat) (O0 : Old Z n0 h0) (nb : Nat) (hb0 : n0 ≤ nb) (hnb : nb ≤ h0.size) (fr_a1 : nb ≤ a1) (hm_a1 : True) (fr_d : nb ≤ d) (hm_d : True) (E1 : Exa Z h0 a1 "java/util/ArrayList") (F1 : Fld Z h0 a1 "java/util/AbstractList" "modCount" "I" (.int m1)) (F2 : Fld Z h0 a1 "java/util/ArrayList" "elementData" "[Ljava/lang/Object;" (.ref d)) (F3 : Fld Z h0 a1 "java/util/ArrayList" "size" "I" (.int 2)) (Ed : Exa Z h0 d "[Ljava/lang/Object;") (Vd : Arv Z h0 d kd (.object "java/lang/Object") 10 [(.ref a2), (.ref a2), .null, .null, .null, .null, .null, .null, .null, .null] .null) (Od : Ovr Z kd "java/lang/Object") (neD : d ≠ a1) (neE : a2 ≠ d) (E2 : Exa Z h0 a2 "com/example/dispatcher/dispatcher/web/FieldError") (ne21 : a2 ≠ a1) :
    Con l Z ms (⟨"java/util/ArrayList", "add", "(Ljava/lang/Object;[Ljava/lang/Object;I)V"⟩ : MethodName) jdk_38_method_24_code 4 none ws ({ frames := 0, cells := 0, slots := 0, locals := 0 } : Room) #[(.ref a1), (.ref a2), (.ref d), (.int (2 : Int32))] h0 (fun v vm h L => v = none ∧ Fr nb L ∧ Keep h0 h [a1, d] ∧ Fld Z h a1 "java/util/AbstractList" "modCount" "I" (.int m1) ∧ Fld Z h a1 "java/util/ArrayList" "elementData" "[Ljava/lang/Object;" (.ref d) ∧ Fld Z h a1 "java/util/ArrayList" "size" "I" (.int 3) ∧ Exa Z h d "[Ljava/lang/Object;" ∧ Arv Z h d kd (.object "java/lang/Object") 10 [(.ref a2), (.ref a2), (.ref a2), .null, .null, .null, .null, .null, .null, .null] .null) := by
  refine Con.mk (plainFor_of_name pn6) ?_
  intro p e s m below meth c s₁ Cc X0 e0 eb J0 B0 M0
  obtain ⟨hx, hZ, hown, hby, hml, hnm, hret, hlk⟩ := id Cc
  have N0 := Fr.nil nb
  have K0 := Keep.refl h0 [a1, d]
  show Go p e s below _ _ _ _ s₁ (mkF m 0 #[.val (.ref a1), .val (.ref a2), .val (.ref d), .val (.int (2 : Int32))] [])
  refine Go.of (fun _ hr => XS.iloadN X0.here hx rfl (hb hby d19_0) rfl  hr) ?_
  show Go p e s below _ _ _ _ s₁ (mkF m 1 #[.val (.ref a1), .val (.ref a2), .val (.ref d), .val (.int (2 : Int32))] [(.int (2 : Int32))])
  refine Go.of (fun _ hr => XS.aloadN X0.here hx rfl (hb hby d19_1) rfl rfl hr) ?_
  show Go p e s below _ _ _ _ s₁ (mkF m 2 #[.val (.ref a1), .val (.ref a2), .val (.ref d), .val (.int (2 : Int32))] [(.ref d), (.int (2 : Int32))])
  obtain ⟨cl101, Ar101, q101, S101, N101_, H101, G101⟩ := id Vd
  refine Go.of (fun _ hr => X0.arraylength hx (by rw [e0]; exact Ar101.1) (State.isArrayOf_alike hZ.alike Ar101.2.1) (g := (mkF m 2 #[.val (.ref a1), .val (.ref a2), .val (.ref d), .val (.int (2 : Int32))] [(.ref d), (.int (2 : Int32))])) rfl rfl (hb hby d19_2) _ hr) ?_
  rw [len_of S101 N101_]
  show Go p e s below _ _ _ _ s₁ (mkF m 3 #[.val (.ref a1), .val (.ref a2), .val (.ref d), .val (.int (2 : Int32))] [(.int (10 : Int32)), (.int (2 : Int32))])
  refine Go.of (fun _ hr => XS.icmpYes X0.here hx rfl (pc0 := 3) (pc' := 11) rfl (hb hby d19_3) rfl (feq (by decide : ¬ ((2 : Int32) = (10 : Int32)))).2 (by decide) (by decide) hr) ?_
  show Go p e s below _ _ _ _ s₁ (mkF m 11 #[.val (.ref a1), .val (.ref a2), .val (.ref d), .val (.int (2 : Int32))] [])
  refine Go.of (fun _ hr => XS.aloadN X0.here hx rfl (hb hby d19_11) rfl rfl hr) ?_
  show Go p e s below _ _ _ _ s₁ (mkF m 12 #[.val (.ref a1), .val (.ref a2), .val (.ref d), .val (.int (2 : Int32))] [(.ref d)])
  refine Go.of (fun _ hr => XS.iloadN X0.here hx rfl (hb hby d19_12) rfl  hr) ?_
  show Go p e s below _ _ _ _ s₁ (mkF m 13 #[.val (.ref a1), .val (.ref a2), .val (.ref d), .val (.int (2 : Int32))] [(.int (2 : Int32)), (.ref d)])
  refine Go.of (fun _ hr => XS.aloadN X0.here hx rfl (hb hby d19_13) rfl rfl hr) ?_
  show Go p e s below _ _ _ _ s₁ (mkF m 14 #[.val (.ref a1), .val (.ref a2), .val (.ref d), .val (.int (2 : Int32))] [(.ref a2), (.int (2 : Int32)), (.ref d)])
  obtain ⟨cl102, Ar102, q102, S102, N102_, H102, G102⟩ := id Vd
  have hin102 : ¬ ((2 : Int32) < 0 ∨ cl102.slots.size ≤ ((2 : Int32)).toNatClampNeg) := inb_of S102 ⟨by decide, by decide⟩
  obtain ⟨T102, h102, X102, e102, W102, st102⟩ := stR X0 hx hZ e0 Ar102 (j := (2 : Int32)) hin102 rfl (Sto.ofV Ar102 q102 Od (Ins.of_exa E2 (hw _ (List.mem_of_getElem? (i := 153) rfl)))) (g := (mkF m 14 #[.val (.ref a1), .val (.ref a2), .val (.ref d), .val (.int (2 : Int32))] [(.ref a2), (.int (2 : Int32)), (.ref d)])) rfl rfl (hb hby d19_14)
  have V102 : Arv Z h102 d kd (.object "java/lang/Object") (10 : Int32) [(.ref a2), (.ref a2), (.ref a2), .null, .null, .null, .null, .null, .null, .null] .null := Arv.set Ar102 q102 S102 N102_ H102 G102 rfl W102 2 rfl (by simp)
  have N102 := Fr.snoc X102 N0 fr_d
  have J102 := J0.wr W102 trivial
  have B102 := B0.mono (Nat.le_of_eq W102.size.symm)
  have O102 := O0.wr W102 (Nat.le_trans hb0 fr_d)
  have K102 := K0.wr W102 (Or.inl (List.mem_of_getElem? (i := 1) rfl))
  refine Go.of (fun _ hr => st102 _ hr) ?_
  show Go p e s below _ _ _ _ T102 (mkF m 15 #[.val (.ref a1), .val (.ref a2), .val (.ref d), .val (.int (2 : Int32))] [])
  refine Go.of (fun _ hr => XS.aloadN X102.here hx rfl (hb hby d19_15) rfl rfl hr) ?_
  show Go p e s below _ _ _ _ T102 (mkF m 16 #[.val (.ref a1), .val (.ref a2), .val (.ref d), .val (.int (2 : Int32))] [(.ref a1)])
  refine Go.of (fun _ hr => XS.iloadN X102.here hx rfl (hb hby d19_16) rfl  hr) ?_
  show Go p e s below _ _ _ _ T102 (mkF m 17 #[.val (.ref a1), .val (.ref a2), .val (.ref d), .val (.int (2 : Int32))] [(.int (2 : Int32)), (.ref a1)])
  refine Go.of (fun _ hr => XS.iconst X102.here hx rfl (hb hby d19_17) hr) ?_
  show Go p e s below _ _ _ _ T102 (mkF m 18 #[.val (.ref a1), .val (.ref a2), .val (.ref d), .val (.int (2 : Int32))] [(.int (1 : Int32)), (.int (2 : Int32)), (.ref a1)])
  refine Go.of (fun _ hr => XS.iadd X102.here hx rfl (hb hby d19_18) rfl hr) ?_
  show Go p e s below _ _ _ _ T102 (mkF m 19 #[.val (.ref a1), .val (.ref a2), .val (.ref d), .val (.int (2 : Int32))] [(.int (3 : Int32)), (.ref a1)])
  have f104 := (F3.other W102 (Or.inl (Ne.symm neD)))
  have f105 := (E1.wr W102)
  obtain ⟨T103, h103, X103, e103, W103, st103⟩ := putF X102 hx hZ hown (host := "") (Or.inl (hw _ (List.mem_of_getElem? (i := 100) rfl))) Via.refl e102 f104 f105 (Or.inl (hw _ (List.mem_of_getElem? (i := 101) rfl))) (hw _ (List.mem_of_getElem? (i := 47) rfl)) (ty := .int) (by decide) rfl rfl (g := (mkF m 19 #[.val (.ref a1), .val (.ref a2), .val (.ref d), .val (.int (2 : Int32))] [(.int (3 : Int32)), (.ref a1)])) rfl rfl (hb hby d19_19)
  have N103 := Fr.snoc X103 N102 fr_a1
  have J103 := J102.wr W103 trivial
  have B103 := B102.mono (Nat.le_of_eq W103.size.symm)
  have O103 := O102.wr W103 (Nat.le_trans hb0 fr_a1)
  have K103 := K102.wr W103 (Or.inl (List.mem_of_getElem? (i := 0) rfl))
  have Fw103 := f104.same W103
  refine Go.of (fun _ hr => st103 _ hr) ?_
  show Go p e s below _ _ _ _ T103 (mkF m 22 #[.val (.ref a1), .val (.ref a2), .val (.ref d), .val (.int (2 : Int32))] [])
  have f106 := ((F1.other W102 (Or.inl (Ne.symm neD))).other W103 (Or.inr (slot_ne (Or.inl (hw _ (List.mem_of_getElem? (i := 66) rfl))) (Or.inl (hw _ (List.mem_of_getElem? (i := 101) rfl))) (by decide) (t := .int) (t' := .int) (by decide) (by decide))))
  have f107 := ((F2.other W102 (Or.inl (Ne.symm neD))).other W103 (Or.inr (slot_ne (Or.inl (hw _ (List.mem_of_getElem? (i := 69) rfl))) (Or.inl (hw _ (List.mem_of_getElem? (i := 101) rfl))) (by decide) (t := (.array (.object "java/lang/Object"))) (t' := .int) (by decide) (by decide))))
  have f108 := ((Ed.wr W102).wr W103)
  have f109 := (V102.other W103 neD)
  exact Go.retV X103 hx hlk B103 J103 e103 hret (hb hby d19_22) (by decide) (by decide) (fun vm_ hw_ => ⟨rfl, N103, K103, f106, f107, Fw103, f108, f109⟩)

set_option maxRecDepth 65536 in
set_option maxHeartbeats 40000000 in
theorem rmA1_2 (l : Launch) (Z : State) (a0 : Array Value) (hw : ∀ d ∈ tables_1, d.before a0 Z = true) (ws : List Jvm.Cond) (a1 a2 d : Addr) (kd : ClassId) (m1 : Int32) (ms : List Addr) (h0 : Heap) (n0 : Nat) (O0 : Old Z n0 h0) (nb : Nat) (hb0 : n0 ≤ nb) (hnb : nb ≤ h0.size) (fr_a1 : nb ≤ a1) (hm_a1 : True) (fr_d : nb ≤ d) (hm_d : True) (E1 : Exa Z h0 a1 "java/util/ArrayList") (F1 : Fld Z h0 a1 "java/util/AbstractList" "modCount" "I" (.int m1)) (F2 : Fld Z h0 a1 "java/util/ArrayList" "elementData" "[Ljava/lang/Object;" (.ref d)) (F3 : Fld Z h0 a1 "java/util/ArrayList" "size" "I" (.int 2)) (Ed : Exa Z h0 d "[Ljava/lang/Object;") (Vd : Arv Z h0 d kd (.object "java/lang/Object") 10 [(.ref a2), (.ref a2), .null, .null, .null, .null, .null, .null, .null, .null] .null) (Od : Ovr Z kd "java/lang/Object") (neD : d ≠ a1) (neE : a2 ≠ d) (E2 : Exa Z h0 a2 "com/example/dispatcher/dispatcher/web/FieldError") (ne21 : a2 ≠ a1) :
    Con l Z ms (⟨"java/util/ArrayList", "add", "(Ljava/lang/Object;)Z"⟩ : MethodName) jdk_38_method_25_code 2 (some .boolean) ws ({ frames := 1, cells := 0, slots := 0, locals := 15 } : Room) #[(.ref a1), (.ref a2)] h0 (fun v vm h L => v = some (.int 1) ∧ Fr nb L ∧ Keep h0 h [a1, d] ∧ Fld Z h a1 "java/util/AbstractList" "modCount" "I" (.int (m1 + 1)) ∧ Fld Z h a1 "java/util/ArrayList" "elementData" "[Ljava/lang/Object;" (.ref d) ∧ Fld Z h a1 "java/util/ArrayList" "size" "I" (.int 3) ∧ Exa Z h d "[Ljava/lang/Object;" ∧ Arv Z h d kd (.object "java/lang/Object") 10 [(.ref a2), (.ref a2), (.ref a2), .null, .null, .null, .null, .null, .null, .null] .null) := by
  refine Con.mk (plainFor_of_name pn6) ?_
  intro p e s m below meth c s₁ Cc X0 e0 eb J0 B0 M0
  obtain ⟨hx, hZ, hown, hby, hml, hnm, hret, hlk⟩ := id Cc
  have N0 := Fr.nil nb
  have K0 := Keep.refl h0 [a1, d]
  show Go p e s below _ _ _ _ s₁ (mkF m 0 #[.val (.ref a1), .val (.ref a2)] [])
  refine Go.of (fun _ hr => XS.aloadN X0.here hx rfl (hb hby d18_0) rfl rfl hr) ?_
  show Go p e s below _ _ _ _ s₁ (mkF m 1 #[.val (.ref a1), .val (.ref a2)] [(.ref a1)])
  refine Go.of (fun _ hr => XS.dup X0.here hx rfl (hb hby d18_1) rfl rfl hr) ?_
  show Go p e s below _ _ _ _ s₁ (mkF m 2 #[.val (.ref a1), .val (.ref a2)] [(.ref a1), (.ref a1)])
  obtain ⟨T101, X101, e101, st101⟩ := getF X0 hx hZ hown (host := "") (Or.inl (hw _ (List.mem_of_getElem? (i := 130) rfl))) (Via.of (hw _ (List.mem_of_getElem? (i := 131) rfl))) e0 F1 (g := (mkF m 2 #[.val (.ref a1), .val (.ref a2)] [(.ref a1), (.ref a1)])) rfl rfl (hb hby d18_2)
  refine Go.of (fun _ hr => st101 _ hr) ?_
  show Go p e s below _ _ _ _ T101 (mkF m 5 #[.val (.ref a1), .val (.ref a2)] [(.int m1), (.ref a1)])
  refine Go.of (fun _ hr => XS.iconst X101.here hx rfl (hb hby d18_5) hr) ?_
  show Go p e s below _ _ _ _ T101 (mkF m 6 #[.val (.ref a1), .val (.ref a2)] [(.int (1 : Int32)), (.int m1), (.ref a1)])
  refine Go.of (fun _ hr => XS.iadd X101.here hx rfl (hb hby d18_6) rfl hr) ?_
  show Go p e s below _ _ _ _ T101 (mkF m 7 #[.val (.ref a1), .val (.ref a2)] [(.int (m1 + (1 : Int32))), (.ref a1)])
  obtain ⟨T102, h102, X102, e102, W102, st102⟩ := putF X101 hx hZ hown (host := "") (Or.inl (hw _ (List.mem_of_getElem? (i := 130) rfl))) (Via.of (hw _ (List.mem_of_getElem? (i := 131) rfl))) e101 F1 E1 (Or.inl (hw _ (List.mem_of_getElem? (i := 66) rfl))) (hw _ (List.mem_of_getElem? (i := 47) rfl)) (ty := .int) (by decide) rfl rfl (g := (mkF m 7 #[.val (.ref a1), .val (.ref a2)] [(.int (m1 + (1 : Int32))), (.ref a1)])) rfl rfl (hb hby d18_7)
  have N102 := Fr.snoc X102 N0 fr_a1
  have J102 := J0.wr W102 trivial
  have B102 := B0.mono (Nat.le_of_eq W102.size.symm)
  have O102 := O0.wr W102 (Nat.le_trans hb0 fr_a1)
  have K102 := K0.wr W102 (Or.inl (List.mem_of_getElem? (i := 0) rfl))
  have Fw102 := F1.same W102
  refine Go.of (fun _ hr => st102 _ hr) ?_
  show Go p e s below _ _ _ _ T102 (mkF m 10 #[.val (.ref a1), .val (.ref a2)] [])
  refine Go.of (fun _ hr => XS.aloadN X102.here hx rfl (hb hby d18_10) rfl rfl hr) ?_
  show Go p e s below _ _ _ _ T102 (mkF m 11 #[.val (.ref a1), .val (.ref a2)] [(.ref a1)])
  refine Go.of (fun _ hr => XS.aloadN X102.here hx rfl (hb hby d18_11) rfl rfl hr) ?_
  show Go p e s below _ _ _ _ T102 (mkF m 12 #[.val (.ref a1), .val (.ref a2)] [(.ref a2), (.ref a1)])
  refine Go.of (fun _ hr => XS.aloadN X102.here hx rfl (hb hby d18_12) rfl rfl hr) ?_
  show Go p e s below _ _ _ _ T102 (mkF m 13 #[.val (.ref a1), .val (.ref a2)] [(.ref a1), (.ref a2), (.ref a1)])
  have f104 := (F2.other W102 (Or.inr (slot_ne (Or.inl (hw _ (List.mem_of_getElem? (i := 69) rfl))) (Or.inl (hw _ (List.mem_of_getElem? (i := 66) rfl))) (by decide) (t := (.array (.object "java/lang/Object"))) (t' := .int) (by decide) (by decide))))
  obtain ⟨T103, X103, e103, st103⟩ := getF X102 hx hZ hown (host := "") (Or.inl (hw _ (List.mem_of_getElem? (i := 68) rfl))) Via.refl e102 f104 (g := (mkF m 13 #[.val (.ref a1), .val (.ref a2)] [(.ref a1), (.ref a2), (.ref a1)])) rfl rfl (hb hby d18_13)
  refine Go.of (fun _ hr => st103 _ hr) ?_
  show Go p e s below _ _ _ _ T103 (mkF m 16 #[.val (.ref a1), .val (.ref a2)] [(.ref d), (.ref a2), (.ref a1)])
  refine Go.of (fun _ hr => XS.aloadN X103.here hx rfl (hb hby d18_16) rfl rfl hr) ?_
  show Go p e s below _ _ _ _ T103 (mkF m 17 #[.val (.ref a1), .val (.ref a2)] [(.ref a1), (.ref d), (.ref a2), (.ref a1)])
  have f106 := (F3.other W102 (Or.inr (slot_ne (Or.inl (hw _ (List.mem_of_getElem? (i := 101) rfl))) (Or.inl (hw _ (List.mem_of_getElem? (i := 66) rfl))) (by decide) (t := .int) (t' := .int) (by decide) (by decide))))
  obtain ⟨T105, X105, e105, st105⟩ := getF X103 hx hZ hown (host := "") (Or.inl (hw _ (List.mem_of_getElem? (i := 100) rfl))) Via.refl e103 f106 (g := (mkF m 17 #[.val (.ref a1), .val (.ref a2)] [(.ref a1), (.ref d), (.ref a2), (.ref a1)])) rfl rfl (hb hby d18_17)
  refine Go.of (fun _ hr => st105 _ hr) ?_
  show Go p e s below _ _ _ _ T105 (mkF m 20 #[.val (.ref a1), .val (.ref a2)] [(.int (2 : Int32)), (.ref d), (.ref a2), (.ref a1)])
  have f108 := (E1.wr W102)
  have f109 := (Ed.wr W102)
  have f110 := (Vd.other W102 neD)
  have f111 := (E2.wr W102)
  obtain ⟨_, b107, T107, h107, L107, e107, Cc107, X107, B107, J107, g107, hQ107, st107⟩ := own_callR Cc B102 J102 X105 (y := (⟨"java/util/ArrayList", "add", "(Ljava/lang/Object;[Ljava/lang/Object;I)V"⟩ : MethodName)) (hw _ (List.mem_of_getElem? (i := 132) rfl)) (hw _ (List.mem_of_getElem? (i := 133) rfl)) (hw _ (List.mem_of_getElem? (i := 135) rfl)) (hw _ (List.mem_of_getElem? (i := 134) rfl)) (hw _ (List.mem_of_getElem? (i := 48) rfl)) (hw _ (List.mem_of_getElem? (i := 136) rfl)) (by decide) f108 (rmA3_2 l Z a0 hw [] a1 a2 d _ (m1 + (1 : Int32)) _ h102 n0 O102 nb hb0 (Nat.le_trans hnb K102.1) fr_a1 trivial fr_d trivial f108 Fw102 f104 f106 f109 f110 Od neD neE f111 ne21) e105 (g := (mkF m 20 #[.val (.ref a1), .val (.ref a2)] [(.int (2 : Int32)), (.ref d), (.ref a2), (.ref a1)])) rfl (by rw [hml]; rfl) (argsL := [(.ref a2), (.ref d), (.int (2 : Int32))]) (rest := []) (lenOf pd8 rfl) rfl (W := 0) (by show 2 * 0 + _ ≤ _; exact Nat.le_of_eq rfl) (hb hby d18_20) (by decide) (by decide) (by decide) (by decide)
  obtain ⟨rfl, Nq107, Kq107, Fa107, Fb107, Fc107, Ed107, Vd107⟩ := hQ107
  have N107 := Fr.app N102 Nq107
  obtain ⟨hx, hZ, hown, hby, hml, hnm, hret, hlk⟩ := id Cc107
  have K107 := K102.trans Kq107 (allS (Or.inl (List.mem_of_getElem? (i := 0) rfl)) (allS (Or.inl (List.mem_of_getElem? (i := 1) rfl)) all0))
  have O107 := O102.keep Kq107 (allS (Nat.le_trans hb0 fr_a1) (allS (Nat.le_trans hb0 fr_d) all0))
  refine Go.of st107 ?_
  show Go p e s below _ _ _ _ T107 (mkF m 23 #[.val (.ref a1), .val (.ref a2)] [])
  refine Go.of (fun _ hr => XS.iconst X107.here hx rfl (hb hby d18_23) hr) ?_
  show Go p e s below _ _ _ _ T107 (mkF m 24 #[.val (.ref a1), .val (.ref a2)] [(.int (1 : Int32))])
  exact Go.retN X107 hx hlk B107 J107 e107 (t := .boolean) (z' := (1 : Int32)) hret (by simp) (hb hby d18_24) rfl (by decide) (by decide) (fun vm_ hw_ => ⟨rfl, N107, K107, Fa107, Fb107, Fc107, Ed107, Vd107⟩)

set_option maxRecDepth 65536 in
set_option maxHeartbeats 40000000 in
theorem rmA3_3 (l : Launch) (Z : State) (a0 : Array Value) (hw : ∀ d ∈ tables_1, d.before a0 Z = true) (ws : List Jvm.Cond) (a1 a2 d : Addr) (kd : ClassId) (m1 : Int32) (ms : List Addr) (h0 : Heap) (n0 : Nat) (O0 : Old Z n0 h0) (nb : Nat) (hb0 : n0 ≤ nb) (hnb : nb ≤ h0.size) (fr_a1 : nb ≤ a1) (hm_a1 : True) (fr_d : nb ≤ d) (hm_d : True) (E1 : Exa Z h0 a1 "java/util/ArrayList") (F1 : Fld Z h0 a1 "java/util/AbstractList" "modCount" "I" (.int m1)) (F2 : Fld Z h0 a1 "java/util/ArrayList" "elementData" "[Ljava/lang/Object;" (.ref d)) (F3 : Fld Z h0 a1 "java/util/ArrayList" "size" "I" (.int 3)) (Ed : Exa Z h0 d "[Ljava/lang/Object;") (Vd : Arv Z h0 d kd (.object "java/lang/Object") 10 [(.ref a2), (.ref a2), (.ref a2), .null, .null, .null, .null, .null, .null, .null] .null) (Od : Ovr Z kd "java/lang/Object") (neD : d ≠ a1) (neE : a2 ≠ d) (E2 : Exa Z h0 a2 "com/example/dispatcher/dispatcher/web/FieldError") (ne21 : a2 ≠ a1) :
    Con l Z ms (⟨"java/util/ArrayList", "add", "(Ljava/lang/Object;[Ljava/lang/Object;I)V"⟩ : MethodName) jdk_38_method_24_code 4 none ws ({ frames := 0, cells := 0, slots := 0, locals := 0 } : Room) #[(.ref a1), (.ref a2), (.ref d), (.int (3 : Int32))] h0 (fun v vm h L => v = none ∧ Fr nb L ∧ Keep h0 h [a1, d] ∧ Fld Z h a1 "java/util/AbstractList" "modCount" "I" (.int m1) ∧ Fld Z h a1 "java/util/ArrayList" "elementData" "[Ljava/lang/Object;" (.ref d) ∧ Fld Z h a1 "java/util/ArrayList" "size" "I" (.int 4) ∧ Exa Z h d "[Ljava/lang/Object;" ∧ Arv Z h d kd (.object "java/lang/Object") 10 [(.ref a2), (.ref a2), (.ref a2), (.ref a2), .null, .null, .null, .null, .null, .null] .null) := by
  refine Con.mk (plainFor_of_name pn6) ?_
  intro p e s m below meth c s₁ Cc X0 e0 eb J0 B0 M0
  obtain ⟨hx, hZ, hown, hby, hml, hnm, hret, hlk⟩ := id Cc
  have N0 := Fr.nil nb
  have K0 := Keep.refl h0 [a1, d]
  show Go p e s below _ _ _ _ s₁ (mkF m 0 #[.val (.ref a1), .val (.ref a2), .val (.ref d), .val (.int (3 : Int32))] [])
  refine Go.of (fun _ hr => XS.iloadN X0.here hx rfl (hb hby d19_0) rfl  hr) ?_
  show Go p e s below _ _ _ _ s₁ (mkF m 1 #[.val (.ref a1), .val (.ref a2), .val (.ref d), .val (.int (3 : Int32))] [(.int (3 : Int32))])
  refine Go.of (fun _ hr => XS.aloadN X0.here hx rfl (hb hby d19_1) rfl rfl hr) ?_
  show Go p e s below _ _ _ _ s₁ (mkF m 2 #[.val (.ref a1), .val (.ref a2), .val (.ref d), .val (.int (3 : Int32))] [(.ref d), (.int (3 : Int32))])
  obtain ⟨cl101, Ar101, q101, S101, N101_, H101, G101⟩ := id Vd
  refine Go.of (fun _ hr => X0.arraylength hx (by rw [e0]; exact Ar101.1) (State.isArrayOf_alike hZ.alike Ar101.2.1) (g := (mkF m 2 #[.val (.ref a1), .val (.ref a2), .val (.ref d), .val (.int (3 : Int32))] [(.ref d), (.int (3 : Int32))])) rfl rfl (hb hby d19_2) _ hr) ?_
  rw [len_of S101 N101_]
  show Go p e s below _ _ _ _ s₁ (mkF m 3 #[.val (.ref a1), .val (.ref a2), .val (.ref d), .val (.int (3 : Int32))] [(.int (10 : Int32)), (.int (3 : Int32))])
  refine Go.of (fun _ hr => XS.icmpYes X0.here hx rfl (pc0 := 3) (pc' := 11) rfl (hb hby d19_3) rfl (feq (by decide : ¬ ((3 : Int32) = (10 : Int32)))).2 (by decide) (by decide) hr) ?_
  show Go p e s below _ _ _ _ s₁ (mkF m 11 #[.val (.ref a1), .val (.ref a2), .val (.ref d), .val (.int (3 : Int32))] [])
  refine Go.of (fun _ hr => XS.aloadN X0.here hx rfl (hb hby d19_11) rfl rfl hr) ?_
  show Go p e s below _ _ _ _ s₁ (mkF m 12 #[.val (.ref a1), .val (.ref a2), .val (.ref d), .val (.int (3 : Int32))] [(.ref d)])
  refine Go.of (fun _ hr => XS.iloadN X0.here hx rfl (hb hby d19_12) rfl  hr) ?_
  show Go p e s below _ _ _ _ s₁ (mkF m 13 #[.val (.ref a1), .val (.ref a2), .val (.ref d), .val (.int (3 : Int32))] [(.int (3 : Int32)), (.ref d)])
  refine Go.of (fun _ hr => XS.aloadN X0.here hx rfl (hb hby d19_13) rfl rfl hr) ?_
  show Go p e s below _ _ _ _ s₁ (mkF m 14 #[.val (.ref a1), .val (.ref a2), .val (.ref d), .val (.int (3 : Int32))] [(.ref a2), (.int (3 : Int32)), (.ref d)])
  obtain ⟨cl102, Ar102, q102, S102, N102_, H102, G102⟩ := id Vd
  have hin102 : ¬ ((3 : Int32) < 0 ∨ cl102.slots.size ≤ ((3 : Int32)).toNatClampNeg) := inb_of S102 ⟨by decide, by decide⟩
  obtain ⟨T102, h102, X102, e102, W102, st102⟩ := stR X0 hx hZ e0 Ar102 (j := (3 : Int32)) hin102 rfl (Sto.ofV Ar102 q102 Od (Ins.of_exa E2 (hw _ (List.mem_of_getElem? (i := 153) rfl)))) (g := (mkF m 14 #[.val (.ref a1), .val (.ref a2), .val (.ref d), .val (.int (3 : Int32))] [(.ref a2), (.int (3 : Int32)), (.ref d)])) rfl rfl (hb hby d19_14)
  have V102 : Arv Z h102 d kd (.object "java/lang/Object") (10 : Int32) [(.ref a2), (.ref a2), (.ref a2), (.ref a2), .null, .null, .null, .null, .null, .null] .null := Arv.set Ar102 q102 S102 N102_ H102 G102 rfl W102 3 rfl (by simp)
  have N102 := Fr.snoc X102 N0 fr_d
  have J102 := J0.wr W102 trivial
  have B102 := B0.mono (Nat.le_of_eq W102.size.symm)
  have O102 := O0.wr W102 (Nat.le_trans hb0 fr_d)
  have K102 := K0.wr W102 (Or.inl (List.mem_of_getElem? (i := 1) rfl))
  refine Go.of (fun _ hr => st102 _ hr) ?_
  show Go p e s below _ _ _ _ T102 (mkF m 15 #[.val (.ref a1), .val (.ref a2), .val (.ref d), .val (.int (3 : Int32))] [])
  refine Go.of (fun _ hr => XS.aloadN X102.here hx rfl (hb hby d19_15) rfl rfl hr) ?_
  show Go p e s below _ _ _ _ T102 (mkF m 16 #[.val (.ref a1), .val (.ref a2), .val (.ref d), .val (.int (3 : Int32))] [(.ref a1)])
  refine Go.of (fun _ hr => XS.iloadN X102.here hx rfl (hb hby d19_16) rfl  hr) ?_
  show Go p e s below _ _ _ _ T102 (mkF m 17 #[.val (.ref a1), .val (.ref a2), .val (.ref d), .val (.int (3 : Int32))] [(.int (3 : Int32)), (.ref a1)])
  refine Go.of (fun _ hr => XS.iconst X102.here hx rfl (hb hby d19_17) hr) ?_
  show Go p e s below _ _ _ _ T102 (mkF m 18 #[.val (.ref a1), .val (.ref a2), .val (.ref d), .val (.int (3 : Int32))] [(.int (1 : Int32)), (.int (3 : Int32)), (.ref a1)])
  refine Go.of (fun _ hr => XS.iadd X102.here hx rfl (hb hby d19_18) rfl hr) ?_
  show Go p e s below _ _ _ _ T102 (mkF m 19 #[.val (.ref a1), .val (.ref a2), .val (.ref d), .val (.int (3 : Int32))] [(.int (4 : Int32)), (.ref a1)])
  have f104 := (F3.other W102 (Or.inl (Ne.symm neD)))
  have f105 := (E1.wr W102)
  obtain ⟨T103, h103, X103, e103, W103, st103⟩ := putF X102 hx hZ hown (host := "") (Or.inl (hw _ (List.mem_of_getElem? (i := 100) rfl))) Via.refl e102 f104 f105 (Or.inl (hw _ (List.mem_of_getElem? (i := 101) rfl))) (hw _ (List.mem_of_getElem? (i := 47) rfl)) (ty := .int) (by decide) rfl rfl (g := (mkF m 19 #[.val (.ref a1), .val (.ref a2), .val (.ref d), .val (.int (3 : Int32))] [(.int (4 : Int32)), (.ref a1)])) rfl rfl (hb hby d19_19)
  have N103 := Fr.snoc X103 N102 fr_a1
  have J103 := J102.wr W103 trivial
  have B103 := B102.mono (Nat.le_of_eq W103.size.symm)
  have O103 := O102.wr W103 (Nat.le_trans hb0 fr_a1)
  have K103 := K102.wr W103 (Or.inl (List.mem_of_getElem? (i := 0) rfl))
  have Fw103 := f104.same W103
  refine Go.of (fun _ hr => st103 _ hr) ?_
  show Go p e s below _ _ _ _ T103 (mkF m 22 #[.val (.ref a1), .val (.ref a2), .val (.ref d), .val (.int (3 : Int32))] [])
  have f106 := ((F1.other W102 (Or.inl (Ne.symm neD))).other W103 (Or.inr (slot_ne (Or.inl (hw _ (List.mem_of_getElem? (i := 66) rfl))) (Or.inl (hw _ (List.mem_of_getElem? (i := 101) rfl))) (by decide) (t := .int) (t' := .int) (by decide) (by decide))))
  have f107 := ((F2.other W102 (Or.inl (Ne.symm neD))).other W103 (Or.inr (slot_ne (Or.inl (hw _ (List.mem_of_getElem? (i := 69) rfl))) (Or.inl (hw _ (List.mem_of_getElem? (i := 101) rfl))) (by decide) (t := (.array (.object "java/lang/Object"))) (t' := .int) (by decide) (by decide))))
  have f108 := ((Ed.wr W102).wr W103)
  have f109 := (V102.other W103 neD)
  exact Go.retV X103 hx hlk B103 J103 e103 hret (hb hby d19_22) (by decide) (by decide) (fun vm_ hw_ => ⟨rfl, N103, K103, f106, f107, Fw103, f108, f109⟩)

set_option maxRecDepth 65536 in
set_option maxHeartbeats 40000000 in
theorem rmA1_3 (l : Launch) (Z : State) (a0 : Array Value) (hw : ∀ d ∈ tables_1, d.before a0 Z = true) (ws : List Jvm.Cond) (a1 a2 d : Addr) (kd : ClassId) (m1 : Int32) (ms : List Addr) (h0 : Heap) (n0 : Nat) (O0 : Old Z n0 h0) (nb : Nat) (hb0 : n0 ≤ nb) (hnb : nb ≤ h0.size) (fr_a1 : nb ≤ a1) (hm_a1 : True) (fr_d : nb ≤ d) (hm_d : True) (E1 : Exa Z h0 a1 "java/util/ArrayList") (F1 : Fld Z h0 a1 "java/util/AbstractList" "modCount" "I" (.int m1)) (F2 : Fld Z h0 a1 "java/util/ArrayList" "elementData" "[Ljava/lang/Object;" (.ref d)) (F3 : Fld Z h0 a1 "java/util/ArrayList" "size" "I" (.int 3)) (Ed : Exa Z h0 d "[Ljava/lang/Object;") (Vd : Arv Z h0 d kd (.object "java/lang/Object") 10 [(.ref a2), (.ref a2), (.ref a2), .null, .null, .null, .null, .null, .null, .null] .null) (Od : Ovr Z kd "java/lang/Object") (neD : d ≠ a1) (neE : a2 ≠ d) (E2 : Exa Z h0 a2 "com/example/dispatcher/dispatcher/web/FieldError") (ne21 : a2 ≠ a1) :
    Con l Z ms (⟨"java/util/ArrayList", "add", "(Ljava/lang/Object;)Z"⟩ : MethodName) jdk_38_method_25_code 2 (some .boolean) ws ({ frames := 1, cells := 0, slots := 0, locals := 15 } : Room) #[(.ref a1), (.ref a2)] h0 (fun v vm h L => v = some (.int 1) ∧ Fr nb L ∧ Keep h0 h [a1, d] ∧ Fld Z h a1 "java/util/AbstractList" "modCount" "I" (.int (m1 + 1)) ∧ Fld Z h a1 "java/util/ArrayList" "elementData" "[Ljava/lang/Object;" (.ref d) ∧ Fld Z h a1 "java/util/ArrayList" "size" "I" (.int 4) ∧ Exa Z h d "[Ljava/lang/Object;" ∧ Arv Z h d kd (.object "java/lang/Object") 10 [(.ref a2), (.ref a2), (.ref a2), (.ref a2), .null, .null, .null, .null, .null, .null] .null) := by
  refine Con.mk (plainFor_of_name pn6) ?_
  intro p e s m below meth c s₁ Cc X0 e0 eb J0 B0 M0
  obtain ⟨hx, hZ, hown, hby, hml, hnm, hret, hlk⟩ := id Cc
  have N0 := Fr.nil nb
  have K0 := Keep.refl h0 [a1, d]
  show Go p e s below _ _ _ _ s₁ (mkF m 0 #[.val (.ref a1), .val (.ref a2)] [])
  refine Go.of (fun _ hr => XS.aloadN X0.here hx rfl (hb hby d18_0) rfl rfl hr) ?_
  show Go p e s below _ _ _ _ s₁ (mkF m 1 #[.val (.ref a1), .val (.ref a2)] [(.ref a1)])
  refine Go.of (fun _ hr => XS.dup X0.here hx rfl (hb hby d18_1) rfl rfl hr) ?_
  show Go p e s below _ _ _ _ s₁ (mkF m 2 #[.val (.ref a1), .val (.ref a2)] [(.ref a1), (.ref a1)])
  obtain ⟨T101, X101, e101, st101⟩ := getF X0 hx hZ hown (host := "") (Or.inl (hw _ (List.mem_of_getElem? (i := 130) rfl))) (Via.of (hw _ (List.mem_of_getElem? (i := 131) rfl))) e0 F1 (g := (mkF m 2 #[.val (.ref a1), .val (.ref a2)] [(.ref a1), (.ref a1)])) rfl rfl (hb hby d18_2)
  refine Go.of (fun _ hr => st101 _ hr) ?_
  show Go p e s below _ _ _ _ T101 (mkF m 5 #[.val (.ref a1), .val (.ref a2)] [(.int m1), (.ref a1)])
  refine Go.of (fun _ hr => XS.iconst X101.here hx rfl (hb hby d18_5) hr) ?_
  show Go p e s below _ _ _ _ T101 (mkF m 6 #[.val (.ref a1), .val (.ref a2)] [(.int (1 : Int32)), (.int m1), (.ref a1)])
  refine Go.of (fun _ hr => XS.iadd X101.here hx rfl (hb hby d18_6) rfl hr) ?_
  show Go p e s below _ _ _ _ T101 (mkF m 7 #[.val (.ref a1), .val (.ref a2)] [(.int (m1 + (1 : Int32))), (.ref a1)])
  obtain ⟨T102, h102, X102, e102, W102, st102⟩ := putF X101 hx hZ hown (host := "") (Or.inl (hw _ (List.mem_of_getElem? (i := 130) rfl))) (Via.of (hw _ (List.mem_of_getElem? (i := 131) rfl))) e101 F1 E1 (Or.inl (hw _ (List.mem_of_getElem? (i := 66) rfl))) (hw _ (List.mem_of_getElem? (i := 47) rfl)) (ty := .int) (by decide) rfl rfl (g := (mkF m 7 #[.val (.ref a1), .val (.ref a2)] [(.int (m1 + (1 : Int32))), (.ref a1)])) rfl rfl (hb hby d18_7)
  have N102 := Fr.snoc X102 N0 fr_a1
  have J102 := J0.wr W102 trivial
  have B102 := B0.mono (Nat.le_of_eq W102.size.symm)
  have O102 := O0.wr W102 (Nat.le_trans hb0 fr_a1)
  have K102 := K0.wr W102 (Or.inl (List.mem_of_getElem? (i := 0) rfl))
  have Fw102 := F1.same W102
  refine Go.of (fun _ hr => st102 _ hr) ?_
  show Go p e s below _ _ _ _ T102 (mkF m 10 #[.val (.ref a1), .val (.ref a2)] [])
  refine Go.of (fun _ hr => XS.aloadN X102.here hx rfl (hb hby d18_10) rfl rfl hr) ?_
  show Go p e s below _ _ _ _ T102 (mkF m 11 #[.val (.ref a1), .val (.ref a2)] [(.ref a1)])
  refine Go.of (fun _ hr => XS.aloadN X102.here hx rfl (hb hby d18_11) rfl rfl hr) ?_
  show Go p e s below _ _ _ _ T102 (mkF m 12 #[.val (.ref a1), .val (.ref a2)] [(.ref a2), (.ref a1)])
  refine Go.of (fun _ hr => XS.aloadN X102.here hx rfl (hb hby d18_12) rfl rfl hr) ?_
  show Go p e s below _ _ _ _ T102 (mkF m 13 #[.val (.ref a1), .val (.ref a2)] [(.ref a1), (.ref a2), (.ref a1)])
  have f104 := (F2.other W102 (Or.inr (slot_ne (Or.inl (hw _ (List.mem_of_getElem? (i := 69) rfl))) (Or.inl (hw _ (List.mem_of_getElem? (i := 66) rfl))) (by decide) (t := (.array (.object "java/lang/Object"))) (t' := .int) (by decide) (by decide))))
  obtain ⟨T103, X103, e103, st103⟩ := getF X102 hx hZ hown (host := "") (Or.inl (hw _ (List.mem_of_getElem? (i := 68) rfl))) Via.refl e102 f104 (g := (mkF m 13 #[.val (.ref a1), .val (.ref a2)] [(.ref a1), (.ref a2), (.ref a1)])) rfl rfl (hb hby d18_13)
  refine Go.of (fun _ hr => st103 _ hr) ?_
  show Go p e s below _ _ _ _ T103 (mkF m 16 #[.val (.ref a1), .val (.ref a2)] [(.ref d), (.ref a2), (.ref a1)])
  refine Go.of (fun _ hr => XS.aloadN X103.here hx rfl (hb hby d18_16) rfl rfl hr) ?_
  show Go p e s below _ _ _ _ T103 (mkF m 17 #[.val (.ref a1), .val (.ref a2)] [(.ref a1), (.ref d), (.ref a2), (.ref a1)])
  have f106 := (F3.other W102 (Or.inr (slot_ne (Or.inl (hw _ (List.mem_of_getElem? (i := 101) rfl))) (Or.inl (hw _ (List.mem_of_getElem? (i := 66) rfl))) (by decide) (t := .int) (t' := .int) (by decide) (by decide))))
  obtain ⟨T105, X105, e105, st105⟩ := getF X103 hx hZ hown (host := "") (Or.inl (hw _ (List.mem_of_getElem? (i := 100) rfl))) Via.refl e103 f106 (g := (mkF m 17 #[.val (.ref a1), .val (.ref a2)] [(.ref a1), (.ref d), (.ref a2), (.ref a1)])) rfl rfl (hb hby d18_17)
  refine Go.of (fun _ hr => st105 _ hr) ?_
  show Go p e s below _ _ _ _ T105 (mkF m 20 #[.val (.ref a1), .val (.ref a2)] [(.int (3 : Int32)), (.ref d), (.ref a2), (.ref a1)])
  have f108 := (E1.wr W102)
  have f109 := (Ed.wr W102)
  have f110 := (Vd.other W102 neD)
  have f111 := (E2.wr W102)
  obtain ⟨_, b107, T107, h107, L107, e107, Cc107, X107, B107, J107, g107, hQ107, st107⟩ := own_callR Cc B102 J102 X105 (y := (⟨"java/util/ArrayList", "add", "(Ljava/lang/Object;[Ljava/lang/Object;I)V"⟩ : MethodName)) (hw _ (List.mem_of_getElem? (i := 132) rfl)) (hw _ (List.mem_of_getElem? (i := 133) rfl)) (hw _ (List.mem_of_getElem? (i := 135) rfl)) (hw _ (List.mem_of_getElem? (i := 134) rfl)) (hw _ (List.mem_of_getElem? (i := 48) rfl)) (hw _ (List.mem_of_getElem? (i := 136) rfl)) (by decide) f108 (rmA3_3 l Z a0 hw [] a1 a2 d _ (m1 + (1 : Int32)) _ h102 n0 O102 nb hb0 (Nat.le_trans hnb K102.1) fr_a1 trivial fr_d trivial f108 Fw102 f104 f106 f109 f110 Od neD neE f111 ne21) e105 (g := (mkF m 20 #[.val (.ref a1), .val (.ref a2)] [(.int (3 : Int32)), (.ref d), (.ref a2), (.ref a1)])) rfl (by rw [hml]; rfl) (argsL := [(.ref a2), (.ref d), (.int (3 : Int32))]) (rest := []) (lenOf pd8 rfl) rfl (W := 0) (by show 2 * 0 + _ ≤ _; exact Nat.le_of_eq rfl) (hb hby d18_20) (by decide) (by decide) (by decide) (by decide)
  obtain ⟨rfl, Nq107, Kq107, Fa107, Fb107, Fc107, Ed107, Vd107⟩ := hQ107
  have N107 := Fr.app N102 Nq107
  obtain ⟨hx, hZ, hown, hby, hml, hnm, hret, hlk⟩ := id Cc107
  have K107 := K102.trans Kq107 (allS (Or.inl (List.mem_of_getElem? (i := 0) rfl)) (allS (Or.inl (List.mem_of_getElem? (i := 1) rfl)) all0))
  have O107 := O102.keep Kq107 (allS (Nat.le_trans hb0 fr_a1) (allS (Nat.le_trans hb0 fr_d) all0))
  refine Go.of st107 ?_
  show Go p e s below _ _ _ _ T107 (mkF m 23 #[.val (.ref a1), .val (.ref a2)] [])
  refine Go.of (fun _ hr => XS.iconst X107.here hx rfl (hb hby d18_23) hr) ?_
  show Go p e s below _ _ _ _ T107 (mkF m 24 #[.val (.ref a1), .val (.ref a2)] [(.int (1 : Int32))])
  exact Go.retN X107 hx hlk B107 J107 e107 (t := .boolean) (z' := (1 : Int32)) hret (by simp) (hb hby d18_24) rfl (by decide) (by decide) (fun vm_ hw_ => ⟨rfl, N107, K107, Fa107, Fb107, Fc107, Ed107, Vd107⟩)

theorem pn7 : plainName "java/util/Arrays" = true := by first | (simp [plainName, overriddenIn]; done) | decide +kernel
theorem d25_0 : decode jdk_65_method_120_code 0 = .ok (.aload_n 2, 1) := by decide +kernel
theorem d25_1 : decode jdk_65_method_120_code 1 = .ok (.ldc 110, 2) := by decide +kernel
theorem d25_3 : decode jdk_65_method_120_code 3 = .ok (.if_acmp .ne 10, 3) := by decide +kernel
theorem d25_6 : decode jdk_65_method_120_code 6 = .ok (.iload_n 1, 1) := by decide +kernel
theorem d25_7 : decode jdk_65_method_120_code 7 = .ok (.anewarray 2, 3) := by decide +kernel
theorem d25_10 : decode jdk_65_method_120_code 10 = .ok (.goto 14, 3) := by decide +kernel
theorem d25_24 : decode jdk_65_method_120_code 24 = .ok (.astore_n 3, 1) := by decide +kernel
theorem d25_25 : decode jdk_65_method_120_code 25 = .ok (.aload_n 0, 1) := by decide +kernel
theorem d25_26 : decode jdk_65_method_120_code 26 = .ok (.iconst 0, 1) := by decide +kernel
theorem d25_27 : decode jdk_65_method_120_code 27 = .ok (.aload_n 3, 1) := by decide +kernel
theorem d25_28 : decode jdk_65_method_120_code 28 = .ok (.iconst 0, 1) := by decide +kernel
theorem d25_29 : decode jdk_65_method_120_code 29 = .ok (.aload_n 0, 1) := by decide +kernel
theorem d25_30 : decode jdk_65_method_120_code 30 = .ok (.arraylength, 1) := by decide +kernel
theorem d25_31 : decode jdk_65_method_120_code 31 = .ok (.iload_n 1, 1) := by decide +kernel
theorem d25_32 : decode jdk_65_method_120_code 32 = .ok (.invokestatic 304, 3) := by decide +kernel
theorem d25_35 : decode jdk_65_method_120_code 35 = .ok (.invokestatic 150, 3) := by decide +kernel
theorem d25_38 : decode jdk_65_method_120_code 38 = .ok (.aload_n 3, 1) := by decide +kernel
theorem d25_39 : decode jdk_65_method_120_code 39 = .ok (.areturn, 1) := by decide +kernel
set_option maxRecDepth 65536 in
set_option maxHeartbeats 40000000 in
theorem rmC3_1 (l : Launch) (Z : State) (a0 : Array Value) (hw : ∀ d ∈ tables_1, d.before a0 Z = true) (ws : List Jvm.Cond) (d e1 mr : Addr) (kd : ClassId) (ms : List Addr) (h0 : Heap) (n0 : Nat) (O0 : Old Z n0 h0) (nb : Nat) (hb0 : n0 ≤ nb) (hnb : nb ≤ h0.size) (M : Mr Z "[Ljava/lang/Object;" mr) (Ed : Exa Z h0 d "[Ljava/lang/Object;") (Vd : Arv Z h0 d kd (.object "java/lang/Object") 10 [(.ref e1), .null, .null, .null, .null, .null, .null, .null, .null, .null] .null) (Ee : Exa Z h0 e1 "com/example/dispatcher/dispatcher/web/FieldError") :
    Con l Z ms (⟨"java/util/Arrays", "copyOf", "([Ljava/lang/Object;ILjava/lang/Class;)[Ljava/lang/Object;"⟩ : MethodName) jdk_65_method_120_code 4 (some (.array (.object "java/lang/Object"))) ws ({ frames := 1, cells := 1, slots := 1, locals := 40 } : Room) #[(.ref d), (.int (1 : Int32)), (.ref mr)] h0 (fun v vm h L => ∃ r kr, v = some (.ref r) ∧ Fr nb L ∧ Ext h0 h ∧ h0.size ≤ r ∧ Arv Z h r kr (.object "java/lang/Object") 1 [(.ref e1)] .null) := by
  refine Con.mk (plainFor_of_name pn7) ?_
  intro p e s m below meth c s₁ Cc X0 e0 eb J0 B0 M0
  obtain ⟨hx, hZ, hown, hby, hml, hnm, hret, hlk⟩ := id Cc
  have N0 := Fr.nil h0.size
  have K0 := Keep.refl h0 []
  show Go p e s below _ _ _ _ s₁ (mkF m 0 #[.val (.ref d), .val (.int (1 : Int32)), .val (.ref mr), .unset] [])
  refine Go.of (fun _ hr => XS.aloadN X0.here hx rfl (hb hby d25_0) rfl rfl hr) ?_
  show Go p e s below _ _ _ _ s₁ (mkF m 1 #[.val (.ref d), .val (.int (1 : Int32)), .val (.ref mr), .unset] [(.ref mr)])
  obtain ⟨T101, X101, e101, st101⟩ := own_ldcM X0 hx hZ hown (hw _ (List.mem_of_getElem? (i := 175) rfl)) e0 M (g := (mkF m 1 #[.val (.ref d), .val (.int (1 : Int32)), .val (.ref mr), .unset] [(.ref mr)])) rfl (hb hby d25_1)
  refine Go.of (fun _ hr => st101 _ hr) ?_
  show Go p e s below _ _ _ _ T101 (mkF m 3 #[.val (.ref d), .val (.int (1 : Int32)), .val (.ref mr), .unset] [(.ref mr), (.ref mr)])
  refine Go.of (fun _ hr => Jvm.RoadKit.acmp (g := (mkF m 3 #[.val (.ref d), .val (.int (1 : Int32)), .val (.ref mr), .unset] [(.ref mr), (.ref mr)])) X101 hx rfl rfl rfl (pc0 := 3) (pc' := 6) (same := true) rfl (hb hby d25_3) rfl (decide_eq_true rfl) (by decide) (by decide) hr) ?_
  show Go p e s below _ _ _ _ T101 (mkF m 6 #[.val (.ref d), .val (.int (1 : Int32)), .val (.ref mr), .unset] [])
  refine Go.of (fun _ hr => XS.iloadN X101.here hx rfl (hb hby d25_6) rfl  hr) ?_
  show Go p e s below _ _ _ _ T101 (mkF m 7 #[.val (.ref d), .val (.int (1 : Int32)), .val (.ref mr), .unset] [(.int (1 : Int32))])
  obtain ⟨T102, h102, k102, X102, e102, E102, A102, Ex102, Ov102, st102⟩ := newRE X101 hx hZ hown (hw _ (List.mem_of_getElem? (i := 176) rfl)) (hw _ (List.mem_of_getElem? (i := 152) rfl)) e101 (g := (mkF m 7 #[.val (.ref d), .val (.int (1 : Int32)), .val (.ref mr), .unset] [(.int (1 : Int32))])) rfl (hb hby d25_7) rfl (by decide) (cap := 1) (by decide) (by decide) (by decide) (by decide) (ad := "[Ljava/lang/Object;") (by decide)
  obtain ⟨o102, g102⟩ : ∃ z, z = h0.size := ⟨_, rfl⟩
  rw [← g102] at A102 Ex102 st102
  have ne_d_o102 : d ≠ o102 := Nat.ne_of_lt (Nat.lt_of_lt_of_le Ed.lt (Nat.le_of_eq g102.symm))
  have ne_e1_o102 : e1 ≠ o102 := Nat.ne_of_lt (Nat.lt_of_lt_of_le Ee.lt (Nat.le_of_eq g102.symm))
  have V102 : Arv Z h102 o102 k102 (.object "java/lang/Object") (1 : Int32) [.null] .null := (Arv.new A102 (by decide)).pad (pad_rep [] .null 1)
  have lt102 : o102 < h102.size := A102.lt
  have J102 := J0.add E102 g102 lt102
  have B102 := B0.mono E102.1
  have O102 := O0.ext E102
  have sz102 : h0.size ≤ o102 := Nat.le_trans K0.1 (Nat.le_of_eq g102.symm)
  have fr102 : h0.size ≤ o102 := sz102
  have K102 := K0.ext E102
  refine Go.of (fun _ hr => st102 _ hr) ?_
  show Go p e s below _ _ _ _ T102 (mkF m 10 #[.val (.ref d), .val (.int (1 : Int32)), .val (.ref mr), .unset] [(.ref o102)])
  refine Go.of (fun _ hr => XS.goto X102.here hx rfl (pc0 := 10) (pc' := 24) rfl (hb hby d25_10) (by decide) (by decide) hr) ?_
  show Go p e s below _ _ _ _ T102 (mkF m 24 #[.val (.ref d), .val (.int (1 : Int32)), .val (.ref mr), .unset] [(.ref o102)])
  refine Go.of (fun _ hr => XS.astoreN X102.here hx rfl (hb hby d25_24) rfl rfl (l' := #[.val (.ref d), .val (.int (1 : Int32)), .val (.ref mr), .val (.ref o102)]) rfl hr) ?_
  show Go p e s below _ _ _ _ T102 (mkF m 25 #[.val (.ref d), .val (.int (1 : Int32)), .val (.ref mr), .val (.ref o102)] [])
  refine Go.of (fun _ hr => XS.aloadN X102.here hx rfl (hb hby d25_25) rfl rfl hr) ?_
  show Go p e s below _ _ _ _ T102 (mkF m 26 #[.val (.ref d), .val (.int (1 : Int32)), .val (.ref mr), .val (.ref o102)] [(.ref d)])
  refine Go.of (fun _ hr => XS.iconst X102.here hx rfl (hb hby d25_26) hr) ?_
  show Go p e s below _ _ _ _ T102 (mkF m 27 #[.val (.ref d), .val (.int (1 : Int32)), .val (.ref mr), .val (.ref o102)] [(.int (0 : Int32)), (.ref d)])
  refine Go.of (fun _ hr => XS.aloadN X102.here hx rfl (hb hby d25_27) rfl rfl hr) ?_
  show Go p e s below _ _ _ _ T102 (mkF m 28 #[.val (.ref d), .val (.int (1 : Int32)), .val (.ref mr), .val (.ref o102)] [(.ref o102), (.int (0 : Int32)), (.ref d)])
  refine Go.of (fun _ hr => XS.iconst X102.here hx rfl (hb hby d25_28) hr) ?_
  show Go p e s below _ _ _ _ T102 (mkF m 29 #[.val (.ref d), .val (.int (1 : Int32)), .val (.ref mr), .val (.ref o102)] [(.int (0 : Int32)), (.ref o102), (.int (0 : Int32)), (.ref d)])
  refine Go.of (fun _ hr => XS.aloadN X102.here hx rfl (hb hby d25_29) rfl rfl hr) ?_
  show Go p e s below _ _ _ _ T102 (mkF m 30 #[.val (.ref d), .val (.int (1 : Int32)), .val (.ref mr), .val (.ref o102)] [(.ref d), (.int (0 : Int32)), (.ref o102), (.int (0 : Int32)), (.ref d)])
  have f104 := (Vd.ext E102)
  obtain ⟨cl103, Ar103, q103, S103, N103_, H103, G103⟩ := id f104
  refine Go.of (fun _ hr => X102.arraylength hx (by rw [e102]; exact Ar103.1) (State.isArrayOf_alike hZ.alike Ar103.2.1) (g := (mkF m 30 #[.val (.ref d), .val (.int (1 : Int32)), .val (.ref mr), .val (.ref o102)] [(.ref d), (.int (0 : Int32)), (.ref o102), (.int (0 : Int32)), (.ref d)])) rfl rfl (hb hby d25_30) _ hr) ?_
  rw [len_of S103 N103_]
  show Go p e s below _ _ _ _ T102 (mkF m 31 #[.val (.ref d), .val (.int (1 : Int32)), .val (.ref mr), .val (.ref o102)] [(.int (10 : Int32)), (.int (0 : Int32)), (.ref o102), (.int (0 : Int32)), (.ref d)])
  refine Go.of (fun _ hr => XS.iloadN X102.here hx rfl (hb hby d25_31) rfl  hr) ?_
  show Go p e s below _ _ _ _ T102 (mkF m 32 #[.val (.ref d), .val (.int (1 : Int32)), .val (.ref mr), .val (.ref o102)] [(.int (1 : Int32)), (.int (10 : Int32)), (.int (0 : Int32)), (.ref o102), (.int (0 : Int32)), (.ref d)])
  obtain ⟨_, b105, T105, h105, L105, e105, Cc105, X105, B105, J105, g105, hQ105, st105⟩ := own_callS Cc B102 J102 X102 (hw _ (List.mem_of_getElem? (i := 177) rfl)) (hw _ (List.mem_of_getElem? (i := 178) rfl)) (hw _ (List.mem_of_getElem? (i := 149) rfl)) (hw _ (List.mem_of_getElem? (i := 179) rfl)) (by decide) (rm26 l Z a0 hw [] (10 : Int32) (1 : Int32) _ h102 n0 O102 h0.size (own_ole O0) K102.1) e102 (g := (mkF m 32 #[.val (.ref d), .val (.int (1 : Int32)), .val (.ref mr), .val (.ref o102)] [(.int (1 : Int32)), (.int (10 : Int32)), (.int (0 : Int32)), (.ref o102), (.int (0 : Int32)), (.ref d)])) rfl (by rw [hml]; rfl) (argsL := [(.int (10 : Int32)), (.int (1 : Int32))]) (rest := [(.int (0 : Int32)), (.ref o102), (.int (0 : Int32)), (.ref d)]) (lenOf pd5 rfl) rfl (W := 4) (by show 2 * 0 + _ ≤ _; exact Nat.le_of_eq rfl) (hb hby d25_32) (by decide) (by decide) (by decide) (by decide)
  obtain ⟨rfl, Nq105, hh105⟩ := hQ105
  have N105 := Fr.app N0 Nq105
  obtain ⟨hx, hZ, hown, hby, hml, hnm, hret, hlk⟩ := id Cc105
  rw [hh105] at e105 B105 J105
  refine Go.of st105 ?_
  show Go p e s below _ _ _ _ T105 (mkF m 35 #[.val (.ref d), .val (.int (1 : Int32)), .val (.ref mr), .val (.ref o102)] [(.int (1 : Int32)), (.int (0 : Int32)), (.ref o102), (.int (0 : Int32)), (.ref d)])
  obtain ⟨clx107, Arx107, qx107, -⟩ := id V102
  have f108 := (Ee.ext E102)
  have Sto107 : Sto Z h102 o102 (.ref e1) := Sto.ofV Arx107 qx107 Ov102 (Ins.of_exa f108 (hw _ (List.mem_of_getElem? (i := 153) rfl)))
  obtain ⟨T106, h106, L106, X106, e106, N106, Kq106, V106, st106⟩ := cpA X105 hx hZ hown (hw _ (List.mem_of_getElem? (i := 180) rfl)) (hw _ (List.mem_of_getElem? (i := 183) rfl)) (hw _ (List.mem_of_getElem? (i := 181) rfl)) (hw _ (List.mem_of_getElem? (i := 182) rfl)) e105 f104 V102 (us := [(.ref e1)]) (Or.inr ⟨rfl, rfl, ⟨Sto107, trivial⟩⟩) (by decide) (by decide) (by decide) (by decide) (by decide) rfl (by decide) N105 fr102 (g := (mkF m 35 #[.val (.ref d), .val (.int (1 : Int32)), .val (.ref mr), .val (.ref o102)] [(.int (1 : Int32)), (.int (0 : Int32)), (.ref o102), (.int (0 : Int32)), (.ref d)])) rfl (by rw [hml]; rfl) rfl (hb hby d25_35) (by decide) (W := 0) (by show 2 * 0 + _ ≤ _; exact Nat.le_of_eq rfl) (by decide)
  have K106 := K102.trans Kq106 (allS (Or.inr sz102) all0)
  have O106 := O102.keep Kq106 (allS (Nat.le_trans (own_ole O0) fr102) all0)
  have B106 := B105.mono Kq106.1
  have J106 := Hd.keep J105 Kq106 (allS trivial all0)
  have Vc106 : Arv Z h106 o102 k102 (.object "java/lang/Object") (1 : Int32) [(.ref e1)] .null := by have q := V106; exact q
  refine Go.of (fun _ hr => st106 _ hr) ?_
  show Go p e s below _ _ _ _ T106 (mkF m 38 #[.val (.ref d), .val (.int (1 : Int32)), .val (.ref mr), .val (.ref o102)] [])
  refine Go.of (fun _ hr => XS.aloadN X106.here hx rfl (hb hby d25_38) rfl rfl hr) ?_
  show Go p e s below _ _ _ _ T106 (mkF m 39 #[.val (.ref d), .val (.int (1 : Int32)), .val (.ref mr), .val (.ref o102)] [(.ref o102)])
  exact Go.retA X106 hx hlk B106 (J106.sub fun x hx => (List.mem_cons_of_mem _ hx)) e106 hret rfl rfl (hb hby d25_39) (by decide) (by decide) (fun vm_ hw_ => ⟨_, _, rfl, (fun y hy => Nat.le_trans hnb (N106 y hy)), keep_ext K106, sz102, Vc106⟩)

theorem d24_0 : decode jdk_65_method_119_code 0 = .ok (.aload_n 0, 1) := by decide +kernel
theorem d24_1 : decode jdk_65_method_119_code 1 = .ok (.iload_n 1, 1) := by decide +kernel
theorem d24_2 : decode jdk_65_method_119_code 2 = .ok (.aload_n 0, 1) := by decide +kernel
theorem d24_3 : decode jdk_65_method_119_code 3 = .ok (.invokevirtual 86, 3) := by decide +kernel
theorem d24_6 : decode jdk_65_method_119_code 6 = .ok (.invokestatic 300, 3) := by decide +kernel
theorem pd9 : parseMethodDescriptor "([Ljava/lang/Object;ILjava/lang/Class;)[Ljava/lang/Object;" = some ⟨[(.array (.object "java/lang/Object")), .int, (.object "java/lang/Class")], some (.array (.object "java/lang/Object"))⟩ := by decide +kernel
theorem d24_9 : decode jdk_65_method_119_code 9 = .ok (.areturn, 1) := by decide +kernel
set_option maxRecDepth 65536 in
set_option maxHeartbeats 40000000 in
theorem rmC2_1 (l : Launch) (Z : State) (a0 : Array Value) (hw : ∀ d ∈ tables_1, d.before a0 Z = true) (ws : List Jvm.Cond) (d e1 mr : Addr) (kd : ClassId) (ms : List Addr) (h0 : Heap) (n0 : Nat) (O0 : Old Z n0 h0) (nb : Nat) (hb0 : n0 ≤ nb) (hnb : nb ≤ h0.size) (M : Mr Z "[Ljava/lang/Object;" mr) (Ed : Exa Z h0 d "[Ljava/lang/Object;") (Vd : Arv Z h0 d kd (.object "java/lang/Object") 10 [(.ref e1), .null, .null, .null, .null, .null, .null, .null, .null, .null] .null) (Ee : Exa Z h0 e1 "com/example/dispatcher/dispatcher/web/FieldError") :
    Con l Z ms (⟨"java/util/Arrays", "copyOf", "([Ljava/lang/Object;I)[Ljava/lang/Object;"⟩ : MethodName) jdk_65_method_119_code 2 (some (.array (.object "java/lang/Object"))) ws ({ frames := 2, cells := 1, slots := 1, locals := 55 } : Room) #[(.ref d), (.int (1 : Int32))] h0 (fun v vm h L => ∃ r kr, v = some (.ref r) ∧ Fr nb L ∧ Ext h0 h ∧ h0.size ≤ r ∧ Arv Z h r kr (.object "java/lang/Object") 1 [(.ref e1)] .null) := by
  refine Con.mk (plainFor_of_name pn7) ?_
  intro p e s m below meth c s₁ Cc X0 e0 eb J0 B0 M0
  obtain ⟨hx, hZ, hown, hby, hml, hnm, hret, hlk⟩ := id Cc
  have N0 := Fr.nil h0.size
  have K0 := Keep.refl h0 []
  show Go p e s below _ _ _ _ s₁ (mkF m 0 #[.val (.ref d), .val (.int (1 : Int32))] [])
  refine Go.of (fun _ hr => XS.aloadN X0.here hx rfl (hb hby d24_0) rfl rfl hr) ?_
  show Go p e s below _ _ _ _ s₁ (mkF m 1 #[.val (.ref d), .val (.int (1 : Int32))] [(.ref d)])
  refine Go.of (fun _ hr => XS.iloadN X0.here hx rfl (hb hby d24_1) rfl  hr) ?_
  show Go p e s below _ _ _ _ s₁ (mkF m 2 #[.val (.ref d), .val (.int (1 : Int32))] [(.int (1 : Int32)), (.ref d)])
  refine Go.of (fun _ hr => XS.aloadN X0.here hx rfl (hb hby d24_2) rfl rfl hr) ?_
  show Go p e s below _ _ _ _ s₁ (mkF m 3 #[.val (.ref d), .val (.int (1 : Int32))] [(.ref d), (.int (1 : Int32)), (.ref d)])
  obtain ⟨T101, X101, e101, st101⟩ := own_gcls X0 hx hZ hown (hw _ (List.mem_of_getElem? (i := 166) rfl)) (hw _ (List.mem_of_getElem? (i := 167) rfl)) (hw _ (List.mem_of_getElem? (i := 89) rfl)) (hw _ (List.mem_of_getElem? (i := 169) rfl)) (hw _ (List.mem_of_getElem? (i := 168) rfl)) (hw _ (List.mem_of_getElem? (i := 170) rfl)) e0 Ed M (g := (mkF m 3 #[.val (.ref d), .val (.int (1 : Int32))] [(.ref d), (.int (1 : Int32)), (.ref d)])) rfl (by rw [hml]; rfl) rfl (hb hby d24_3) (by decide) (W := 2) (by show 2 * 0 + _ ≤ _; exact Nat.le_of_eq rfl) (by decide)
  refine Go.of (fun _ hr => st101 _ hr) ?_
  show Go p e s below _ _ _ _ T101 (mkF m 6 #[.val (.ref d), .val (.int (1 : Int32))] [(.ref mr), (.int (1 : Int32)), (.ref d)])
  obtain ⟨_, b102, T102, h102, L102, e102, Cc102, X102, B102, J102, g102, hQ102, st102⟩ := own_callS Cc B0 J0 X101 (hw _ (List.mem_of_getElem? (i := 172) rfl)) (hw _ (List.mem_of_getElem? (i := 173) rfl)) (hw _ (List.mem_of_getElem? (i := 164) rfl)) (hw _ (List.mem_of_getElem? (i := 174) rfl)) (by decide) (rmC3_1 l Z a0 hw [] d e1 mr _ _ h0 n0 O0 h0.size (own_ole O0) K0.1 M Ed Vd Ee) e101 (g := (mkF m 6 #[.val (.ref d), .val (.int (1 : Int32))] [(.ref mr), (.int (1 : Int32)), (.ref d)])) rfl (by rw [hml]; rfl) (argsL := [(.ref d), (.int (1 : Int32)), (.ref mr)]) (rest := []) (lenOf pd9 rfl) rfl (W := 0) (by show 2 * 0 + _ ≤ _; exact Nat.le_of_eq rfl) (hb hby d24_6) (by decide) (by decide) (by decide) (by decide)
  obtain ⟨r102, kr102, rfl, Nq102, Eq102, R_r102, Vr102⟩ := hQ102
  have N102 := Fr.app N0 Nq102
  obtain ⟨hx, hZ, hown, hby, hml, hnm, hret, hlk⟩ := id Cc102
  have sz_r102 : h0.size ≤ r102 := Nat.le_trans K0.1 R_r102
  have fr_r102 : h0.size ≤ r102 := sz_r102
  have ne_d_r102 : d ≠ r102 := Nat.ne_of_lt (Nat.lt_of_lt_of_le Ed.lt R_r102)
  have ne_e1_r102 : e1 ≠ r102 := Nat.ne_of_lt (Nat.lt_of_lt_of_le Ee.lt R_r102)
  have K102 := K0.ext Eq102
  have O102 := O0.ext Eq102
  refine Go.of st102 ?_
  show Go p e s below _ _ _ _ T102 (mkF m 9 #[.val (.ref d), .val (.int (1 : Int32))] [(.ref r102)])
  exact Go.retA X102 hx hlk B102 J102 e102 hret rfl rfl (hb hby d24_9) (by decide) (by decide) (fun vm_ hw_ => ⟨_, _, rfl, (fun y hy => Nat.le_trans hnb (N102 y hy)), keep_ext K102, sz_r102, Vr102⟩)

theorem d23_0 : decode jdk_38_method_16_code 0 = .ok (.aload_n 0, 1) := by decide +kernel
theorem d23_1 : decode jdk_38_method_16_code 1 = .ok (.getfield 9, 3) := by decide +kernel
theorem d23_4 : decode jdk_38_method_16_code 4 = .ok (.aload_n 0, 1) := by decide +kernel
theorem d23_5 : decode jdk_38_method_16_code 5 = .ok (.getfield 48, 3) := by decide +kernel
theorem d23_8 : decode jdk_38_method_16_code 8 = .ok (.invokestatic 66, 3) := by decide +kernel
theorem pd10 : parseMethodDescriptor "([Ljava/lang/Object;I)[Ljava/lang/Object;" = some ⟨[(.array (.object "java/lang/Object")), .int], some (.array (.object "java/lang/Object"))⟩ := by decide +kernel
theorem d23_11 : decode jdk_38_method_16_code 11 = .ok (.areturn, 1) := by decide +kernel
set_option maxRecDepth 65536 in
set_option maxHeartbeats 40000000 in
theorem rmTA_1 (l : Launch) (Z : State) (a0 : Array Value) (hw : ∀ d ∈ tables_1, d.before a0 Z = true) (ws : List Jvm.Cond) (a1 d e1 mr : Addr) (kd : ClassId) (ms : List Addr) (h0 : Heap) (n0 : Nat) (O0 : Old Z n0 h0) (nb : Nat) (hb0 : n0 ≤ nb) (hnb : nb ≤ h0.size) (M : Mr Z "[Ljava/lang/Object;" mr) (F2 : Fld Z h0 a1 "java/util/ArrayList" "elementData" "[Ljava/lang/Object;" (.ref d)) (F3 : Fld Z h0 a1 "java/util/ArrayList" "size" "I" (.int 1)) (Ed : Exa Z h0 d "[Ljava/lang/Object;") (Vd : Arv Z h0 d kd (.object "java/lang/Object") 10 [(.ref e1), .null, .null, .null, .null, .null, .null, .null, .null, .null] .null) (Ee : Exa Z h0 e1 "com/example/dispatcher/dispatcher/web/FieldError") :
    Con l Z ms (⟨"java/util/ArrayList", "toArray", "()[Ljava/lang/Object;"⟩ : MethodName) jdk_38_method_16_code 1 (some (.array (.object "java/lang/Object"))) ws ({ frames := 3, cells := 1, slots := 1, locals := 68 } : Room) #[(.ref a1)] h0 (fun v vm h L => ∃ r kr, v = some (.ref r) ∧ Fr nb L ∧ Ext h0 h ∧ h0.size ≤ r ∧ Arv Z h r kr (.object "java/lang/Object") 1 [(.ref e1)] .null) := by
  refine Con.mk (plainFor_of_name pn6) ?_
  intro p e s m below meth c s₁ Cc X0 e0 eb J0 B0 M0
  obtain ⟨hx, hZ, hown, hby, hml, hnm, hret, hlk⟩ := id Cc
  have N0 := Fr.nil h0.size
  have K0 := Keep.refl h0 []
  show Go p e s below _ _ _ _ s₁ (mkF m 0 #[.val (.ref a1)] [])
  refine Go.of (fun _ hr => XS.aloadN X0.here hx rfl (hb hby d23_0) rfl rfl hr) ?_
  show Go p e s below _ _ _ _ s₁ (mkF m 1 #[.val (.ref a1)] [(.ref a1)])
  obtain ⟨T101, X101, e101, st101⟩ := getF X0 hx hZ hown (host := "") (Or.inl (hw _ (List.mem_of_getElem? (i := 68) rfl))) Via.refl e0 F2 (g := (mkF m 1 #[.val (.ref a1)] [(.ref a1)])) rfl rfl (hb hby d23_1)
  refine Go.of (fun _ hr => st101 _ hr) ?_
  show Go p e s below _ _ _ _ T101 (mkF m 4 #[.val (.ref a1)] [(.ref d)])
  refine Go.of (fun _ hr => XS.aloadN X101.here hx rfl (hb hby d23_4) rfl rfl hr) ?_
  show Go p e s below _ _ _ _ T101 (mkF m 5 #[.val (.ref a1)] [(.ref a1), (.ref d)])
  obtain ⟨T102, X102, e102, st102⟩ := getF X101 hx hZ hown (host := "") (Or.inl (hw _ (List.mem_of_getElem? (i := 100) rfl))) Via.refl e101 F3 (g := (mkF m 5 #[.val (.ref a1)] [(.ref a1), (.ref d)])) rfl rfl (hb hby d23_5)
  refine Go.of (fun _ hr => st102 _ hr) ?_
  show Go p e s below _ _ _ _ T102 (mkF m 8 #[.val (.ref a1)] [(.int (1 : Int32)), (.ref d)])
  obtain ⟨_, b103, T103, h103, L103, e103, Cc103, X103, B103, J103, g103, hQ103, st103⟩ := own_callS Cc B0 J0 X102 (hw _ (List.mem_of_getElem? (i := 162) rfl)) (hw _ (List.mem_of_getElem? (i := 163) rfl)) (hw _ (List.mem_of_getElem? (i := 164) rfl)) (hw _ (List.mem_of_getElem? (i := 165) rfl)) (by decide) (rmC2_1 l Z a0 hw [] d e1 mr _ _ h0 n0 O0 h0.size (own_ole O0) K0.1 M Ed Vd Ee) e102 (g := (mkF m 8 #[.val (.ref a1)] [(.int (1 : Int32)), (.ref d)])) rfl (by rw [hml]; rfl) (argsL := [(.ref d), (.int (1 : Int32))]) (rest := []) (lenOf pd10 rfl) rfl (W := 0) (by show 2 * 0 + _ ≤ _; exact Nat.le_of_eq rfl) (hb hby d23_8) (by decide) (by decide) (by decide) (by decide)
  obtain ⟨r103, kr103, rfl, Nq103, Eq103, R_r103, Vr103⟩ := hQ103
  have N103 := Fr.app N0 Nq103
  obtain ⟨hx, hZ, hown, hby, hml, hnm, hret, hlk⟩ := id Cc103
  have sz_r103 : h0.size ≤ r103 := Nat.le_trans K0.1 R_r103
  have fr_r103 : h0.size ≤ r103 := sz_r103
  have ne_d_r103 : d ≠ r103 := Nat.ne_of_lt (Nat.lt_of_lt_of_le Ed.lt R_r103)
  have ne_e1_r103 : e1 ≠ r103 := Nat.ne_of_lt (Nat.lt_of_lt_of_le Ee.lt R_r103)
  have ne_a1_r103 : a1 ≠ r103 := Nat.ne_of_lt (Nat.lt_of_lt_of_le F2.lt R_r103)
  have K103 := K0.ext Eq103
  have O103 := O0.ext Eq103
  refine Go.of st103 ?_
  show Go p e s below _ _ _ _ T103 (mkF m 11 #[.val (.ref a1)] [(.ref r103)])
  exact Go.retA X103 hx hlk B103 J103 e103 hret rfl rfl (hb hby d23_11) (by decide) (by decide) (fun vm_ hw_ => ⟨_, _, rfl, (fun y hy => Nat.le_trans hnb (N103 y hy)), keep_ext K103, sz_r103, Vr103⟩)

set_option maxRecDepth 65536 in
set_option maxHeartbeats 40000000 in
theorem rmC3_2 (l : Launch) (Z : State) (a0 : Array Value) (hw : ∀ d ∈ tables_1, d.before a0 Z = true) (ws : List Jvm.Cond) (d e1 mr : Addr) (kd : ClassId) (ms : List Addr) (h0 : Heap) (n0 : Nat) (O0 : Old Z n0 h0) (nb : Nat) (hb0 : n0 ≤ nb) (hnb : nb ≤ h0.size) (M : Mr Z "[Ljava/lang/Object;" mr) (Ed : Exa Z h0 d "[Ljava/lang/Object;") (Vd : Arv Z h0 d kd (.object "java/lang/Object") 10 [(.ref e1), (.ref e1), .null, .null, .null, .null, .null, .null, .null, .null] .null) (Ee : Exa Z h0 e1 "com/example/dispatcher/dispatcher/web/FieldError") :
    Con l Z ms (⟨"java/util/Arrays", "copyOf", "([Ljava/lang/Object;ILjava/lang/Class;)[Ljava/lang/Object;"⟩ : MethodName) jdk_65_method_120_code 4 (some (.array (.object "java/lang/Object"))) ws ({ frames := 1, cells := 1, slots := 2, locals := 40 } : Room) #[(.ref d), (.int (2 : Int32)), (.ref mr)] h0 (fun v vm h L => ∃ r kr, v = some (.ref r) ∧ Fr nb L ∧ Ext h0 h ∧ h0.size ≤ r ∧ Arv Z h r kr (.object "java/lang/Object") 2 [(.ref e1), (.ref e1)] .null) := by
  refine Con.mk (plainFor_of_name pn7) ?_
  intro p e s m below meth c s₁ Cc X0 e0 eb J0 B0 M0
  obtain ⟨hx, hZ, hown, hby, hml, hnm, hret, hlk⟩ := id Cc
  have N0 := Fr.nil h0.size
  have K0 := Keep.refl h0 []
  show Go p e s below _ _ _ _ s₁ (mkF m 0 #[.val (.ref d), .val (.int (2 : Int32)), .val (.ref mr), .unset] [])
  refine Go.of (fun _ hr => XS.aloadN X0.here hx rfl (hb hby d25_0) rfl rfl hr) ?_
  show Go p e s below _ _ _ _ s₁ (mkF m 1 #[.val (.ref d), .val (.int (2 : Int32)), .val (.ref mr), .unset] [(.ref mr)])
  obtain ⟨T101, X101, e101, st101⟩ := own_ldcM X0 hx hZ hown (hw _ (List.mem_of_getElem? (i := 175) rfl)) e0 M (g := (mkF m 1 #[.val (.ref d), .val (.int (2 : Int32)), .val (.ref mr), .unset] [(.ref mr)])) rfl (hb hby d25_1)
  refine Go.of (fun _ hr => st101 _ hr) ?_
  show Go p e s below _ _ _ _ T101 (mkF m 3 #[.val (.ref d), .val (.int (2 : Int32)), .val (.ref mr), .unset] [(.ref mr), (.ref mr)])
  refine Go.of (fun _ hr => Jvm.RoadKit.acmp (g := (mkF m 3 #[.val (.ref d), .val (.int (2 : Int32)), .val (.ref mr), .unset] [(.ref mr), (.ref mr)])) X101 hx rfl rfl rfl (pc0 := 3) (pc' := 6) (same := true) rfl (hb hby d25_3) rfl (decide_eq_true rfl) (by decide) (by decide) hr) ?_
  show Go p e s below _ _ _ _ T101 (mkF m 6 #[.val (.ref d), .val (.int (2 : Int32)), .val (.ref mr), .unset] [])
  refine Go.of (fun _ hr => XS.iloadN X101.here hx rfl (hb hby d25_6) rfl  hr) ?_
  show Go p e s below _ _ _ _ T101 (mkF m 7 #[.val (.ref d), .val (.int (2 : Int32)), .val (.ref mr), .unset] [(.int (2 : Int32))])
  obtain ⟨T102, h102, k102, X102, e102, E102, A102, Ex102, Ov102, st102⟩ := newRE X101 hx hZ hown (hw _ (List.mem_of_getElem? (i := 176) rfl)) (hw _ (List.mem_of_getElem? (i := 152) rfl)) e101 (g := (mkF m 7 #[.val (.ref d), .val (.int (2 : Int32)), .val (.ref mr), .unset] [(.int (2 : Int32))])) rfl (hb hby d25_7) rfl (by decide) (cap := 2) (by decide) (by decide) (by decide) (by decide) (ad := "[Ljava/lang/Object;") (by decide)
  obtain ⟨o102, g102⟩ : ∃ z, z = h0.size := ⟨_, rfl⟩
  rw [← g102] at A102 Ex102 st102
  have ne_d_o102 : d ≠ o102 := Nat.ne_of_lt (Nat.lt_of_lt_of_le Ed.lt (Nat.le_of_eq g102.symm))
  have ne_e1_o102 : e1 ≠ o102 := Nat.ne_of_lt (Nat.lt_of_lt_of_le Ee.lt (Nat.le_of_eq g102.symm))
  have V102 : Arv Z h102 o102 k102 (.object "java/lang/Object") (2 : Int32) [.null, .null] .null := (Arv.new A102 (by decide)).pad (pad_rep [] .null 2)
  have lt102 : o102 < h102.size := A102.lt
  have J102 := J0.add E102 g102 lt102
  have B102 := B0.mono E102.1
  have O102 := O0.ext E102
  have sz102 : h0.size ≤ o102 := Nat.le_trans K0.1 (Nat.le_of_eq g102.symm)
  have fr102 : h0.size ≤ o102 := sz102
  have K102 := K0.ext E102
  refine Go.of (fun _ hr => st102 _ hr) ?_
  show Go p e s below _ _ _ _ T102 (mkF m 10 #[.val (.ref d), .val (.int (2 : Int32)), .val (.ref mr), .unset] [(.ref o102)])
  refine Go.of (fun _ hr => XS.goto X102.here hx rfl (pc0 := 10) (pc' := 24) rfl (hb hby d25_10) (by decide) (by decide) hr) ?_
  show Go p e s below _ _ _ _ T102 (mkF m 24 #[.val (.ref d), .val (.int (2 : Int32)), .val (.ref mr), .unset] [(.ref o102)])
  refine Go.of (fun _ hr => XS.astoreN X102.here hx rfl (hb hby d25_24) rfl rfl (l' := #[.val (.ref d), .val (.int (2 : Int32)), .val (.ref mr), .val (.ref o102)]) rfl hr) ?_
  show Go p e s below _ _ _ _ T102 (mkF m 25 #[.val (.ref d), .val (.int (2 : Int32)), .val (.ref mr), .val (.ref o102)] [])
  refine Go.of (fun _ hr => XS.aloadN X102.here hx rfl (hb hby d25_25) rfl rfl hr) ?_
  show Go p e s below _ _ _ _ T102 (mkF m 26 #[.val (.ref d), .val (.int (2 : Int32)), .val (.ref mr), .val (.ref o102)] [(.ref d)])
  refine Go.of (fun _ hr => XS.iconst X102.here hx rfl (hb hby d25_26) hr) ?_
  show Go p e s below _ _ _ _ T102 (mkF m 27 #[.val (.ref d), .val (.int (2 : Int32)), .val (.ref mr), .val (.ref o102)] [(.int (0 : Int32)), (.ref d)])
  refine Go.of (fun _ hr => XS.aloadN X102.here hx rfl (hb hby d25_27) rfl rfl hr) ?_
  show Go p e s below _ _ _ _ T102 (mkF m 28 #[.val (.ref d), .val (.int (2 : Int32)), .val (.ref mr), .val (.ref o102)] [(.ref o102), (.int (0 : Int32)), (.ref d)])
  refine Go.of (fun _ hr => XS.iconst X102.here hx rfl (hb hby d25_28) hr) ?_
  show Go p e s below _ _ _ _ T102 (mkF m 29 #[.val (.ref d), .val (.int (2 : Int32)), .val (.ref mr), .val (.ref o102)] [(.int (0 : Int32)), (.ref o102), (.int (0 : Int32)), (.ref d)])
  refine Go.of (fun _ hr => XS.aloadN X102.here hx rfl (hb hby d25_29) rfl rfl hr) ?_
  show Go p e s below _ _ _ _ T102 (mkF m 30 #[.val (.ref d), .val (.int (2 : Int32)), .val (.ref mr), .val (.ref o102)] [(.ref d), (.int (0 : Int32)), (.ref o102), (.int (0 : Int32)), (.ref d)])
  have f104 := (Vd.ext E102)
  obtain ⟨cl103, Ar103, q103, S103, N103_, H103, G103⟩ := id f104
  refine Go.of (fun _ hr => X102.arraylength hx (by rw [e102]; exact Ar103.1) (State.isArrayOf_alike hZ.alike Ar103.2.1) (g := (mkF m 30 #[.val (.ref d), .val (.int (2 : Int32)), .val (.ref mr), .val (.ref o102)] [(.ref d), (.int (0 : Int32)), (.ref o102), (.int (0 : Int32)), (.ref d)])) rfl rfl (hb hby d25_30) _ hr) ?_
  rw [len_of S103 N103_]
  show Go p e s below _ _ _ _ T102 (mkF m 31 #[.val (.ref d), .val (.int (2 : Int32)), .val (.ref mr), .val (.ref o102)] [(.int (10 : Int32)), (.int (0 : Int32)), (.ref o102), (.int (0 : Int32)), (.ref d)])
  refine Go.of (fun _ hr => XS.iloadN X102.here hx rfl (hb hby d25_31) rfl  hr) ?_
  show Go p e s below _ _ _ _ T102 (mkF m 32 #[.val (.ref d), .val (.int (2 : Int32)), .val (.ref mr), .val (.ref o102)] [(.int (2 : Int32)), (.int (10 : Int32)), (.int (0 : Int32)), (.ref o102), (.int (0 : Int32)), (.ref d)])
  obtain ⟨_, b105, T105, h105, L105, e105, Cc105, X105, B105, J105, g105, hQ105, st105⟩ := own_callS Cc B102 J102 X102 (hw _ (List.mem_of_getElem? (i := 177) rfl)) (hw _ (List.mem_of_getElem? (i := 178) rfl)) (hw _ (List.mem_of_getElem? (i := 149) rfl)) (hw _ (List.mem_of_getElem? (i := 179) rfl)) (by decide) (rm26 l Z a0 hw [] (10 : Int32) (2 : Int32) _ h102 n0 O102 h0.size (own_ole O0) K102.1) e102 (g := (mkF m 32 #[.val (.ref d), .val (.int (2 : Int32)), .val (.ref mr), .val (.ref o102)] [(.int (2 : Int32)), (.int (10 : Int32)), (.int (0 : Int32)), (.ref o102), (.int (0 : Int32)), (.ref d)])) rfl (by rw [hml]; rfl) (argsL := [(.int (10 : Int32)), (.int (2 : Int32))]) (rest := [(.int (0 : Int32)), (.ref o102), (.int (0 : Int32)), (.ref d)]) (lenOf pd5 rfl) rfl (W := 4) (by show 2 * 0 + _ ≤ _; exact Nat.le_of_eq rfl) (hb hby d25_32) (by decide) (by decide) (by decide) (by decide)
  obtain ⟨rfl, Nq105, hh105⟩ := hQ105
  have N105 := Fr.app N0 Nq105
  obtain ⟨hx, hZ, hown, hby, hml, hnm, hret, hlk⟩ := id Cc105
  rw [hh105] at e105 B105 J105
  refine Go.of st105 ?_
  show Go p e s below _ _ _ _ T105 (mkF m 35 #[.val (.ref d), .val (.int (2 : Int32)), .val (.ref mr), .val (.ref o102)] [(.int (2 : Int32)), (.int (0 : Int32)), (.ref o102), (.int (0 : Int32)), (.ref d)])
  obtain ⟨clx107, Arx107, qx107, -⟩ := id V102
  have f108 := (Ee.ext E102)
  have Sto107 : Sto Z h102 o102 (.ref e1) := Sto.ofV Arx107 qx107 Ov102 (Ins.of_exa f108 (hw _ (List.mem_of_getElem? (i := 153) rfl)))
  obtain ⟨T106, h106, L106, X106, e106, N106, Kq106, V106, st106⟩ := cpA X105 hx hZ hown (hw _ (List.mem_of_getElem? (i := 180) rfl)) (hw _ (List.mem_of_getElem? (i := 183) rfl)) (hw _ (List.mem_of_getElem? (i := 181) rfl)) (hw _ (List.mem_of_getElem? (i := 182) rfl)) e105 f104 V102 (us := [(.ref e1), (.ref e1)]) (Or.inr ⟨rfl, rfl, ⟨Sto107, ⟨Sto107, trivial⟩⟩⟩) (by decide) (by decide) (by decide) (by decide) (by decide) rfl (by decide) N105 fr102 (g := (mkF m 35 #[.val (.ref d), .val (.int (2 : Int32)), .val (.ref mr), .val (.ref o102)] [(.int (2 : Int32)), (.int (0 : Int32)), (.ref o102), (.int (0 : Int32)), (.ref d)])) rfl (by rw [hml]; rfl) rfl (hb hby d25_35) (by decide) (W := 0) (by show 2 * 0 + _ ≤ _; exact Nat.le_of_eq rfl) (by decide)
  have K106 := K102.trans Kq106 (allS (Or.inr sz102) all0)
  have O106 := O102.keep Kq106 (allS (Nat.le_trans (own_ole O0) fr102) all0)
  have B106 := B105.mono Kq106.1
  have J106 := Hd.keep J105 Kq106 (allS trivial all0)
  have Vc106 : Arv Z h106 o102 k102 (.object "java/lang/Object") (2 : Int32) [(.ref e1), (.ref e1)] .null := by have q := V106; exact q
  refine Go.of (fun _ hr => st106 _ hr) ?_
  show Go p e s below _ _ _ _ T106 (mkF m 38 #[.val (.ref d), .val (.int (2 : Int32)), .val (.ref mr), .val (.ref o102)] [])
  refine Go.of (fun _ hr => XS.aloadN X106.here hx rfl (hb hby d25_38) rfl rfl hr) ?_
  show Go p e s below _ _ _ _ T106 (mkF m 39 #[.val (.ref d), .val (.int (2 : Int32)), .val (.ref mr), .val (.ref o102)] [(.ref o102)])
  exact Go.retA X106 hx hlk B106 (J106.sub fun x hx => (List.mem_cons_of_mem _ hx)) e106 hret rfl rfl (hb hby d25_39) (by decide) (by decide) (fun vm_ hw_ => ⟨_, _, rfl, (fun y hy => Nat.le_trans hnb (N106 y hy)), keep_ext K106, sz102, Vc106⟩)

set_option maxRecDepth 65536 in
set_option maxHeartbeats 40000000 in
theorem rmC2_2 (l : Launch) (Z : State) (a0 : Array Value) (hw : ∀ d ∈ tables_1, d.before a0 Z = true) (ws : List Jvm.Cond) (d e1 mr : Addr) (kd : ClassId) (ms : List Addr) (h0 : Heap) (n0 : Nat) (O0 : Old Z n0 h0) (nb : Nat) (hb0 : n0 ≤ nb) (hnb : nb ≤ h0.size) (M : Mr Z "[Ljava/lang/Object;" mr) (Ed : Exa Z h0 d "[Ljava/lang/Object;") (Vd : Arv Z h0 d kd (.object "java/lang/Object") 10 [(.ref e1), (.ref e1), .null, .null, .null, .null, .null, .null, .null, .null] .null) (Ee : Exa Z h0 e1 "com/example/dispatcher/dispatcher/web/FieldError") :
    Con l Z ms (⟨"java/util/Arrays", "copyOf", "([Ljava/lang/Object;I)[Ljava/lang/Object;"⟩ : MethodName) jdk_65_method_119_code 2 (some (.array (.object "java/lang/Object"))) ws ({ frames := 2, cells := 1, slots := 2, locals := 55 } : Room) #[(.ref d), (.int (2 : Int32))] h0 (fun v vm h L => ∃ r kr, v = some (.ref r) ∧ Fr nb L ∧ Ext h0 h ∧ h0.size ≤ r ∧ Arv Z h r kr (.object "java/lang/Object") 2 [(.ref e1), (.ref e1)] .null) := by
  refine Con.mk (plainFor_of_name pn7) ?_
  intro p e s m below meth c s₁ Cc X0 e0 eb J0 B0 M0
  obtain ⟨hx, hZ, hown, hby, hml, hnm, hret, hlk⟩ := id Cc
  have N0 := Fr.nil h0.size
  have K0 := Keep.refl h0 []
  show Go p e s below _ _ _ _ s₁ (mkF m 0 #[.val (.ref d), .val (.int (2 : Int32))] [])
  refine Go.of (fun _ hr => XS.aloadN X0.here hx rfl (hb hby d24_0) rfl rfl hr) ?_
  show Go p e s below _ _ _ _ s₁ (mkF m 1 #[.val (.ref d), .val (.int (2 : Int32))] [(.ref d)])
  refine Go.of (fun _ hr => XS.iloadN X0.here hx rfl (hb hby d24_1) rfl  hr) ?_
  show Go p e s below _ _ _ _ s₁ (mkF m 2 #[.val (.ref d), .val (.int (2 : Int32))] [(.int (2 : Int32)), (.ref d)])
  refine Go.of (fun _ hr => XS.aloadN X0.here hx rfl (hb hby d24_2) rfl rfl hr) ?_
  show Go p e s below _ _ _ _ s₁ (mkF m 3 #[.val (.ref d), .val (.int (2 : Int32))] [(.ref d), (.int (2 : Int32)), (.ref d)])
  obtain ⟨T101, X101, e101, st101⟩ := own_gcls X0 hx hZ hown (hw _ (List.mem_of_getElem? (i := 166) rfl)) (hw _ (List.mem_of_getElem? (i := 167) rfl)) (hw _ (List.mem_of_getElem? (i := 89) rfl)) (hw _ (List.mem_of_getElem? (i := 169) rfl)) (hw _ (List.mem_of_getElem? (i := 168) rfl)) (hw _ (List.mem_of_getElem? (i := 170) rfl)) e0 Ed M (g := (mkF m 3 #[.val (.ref d), .val (.int (2 : Int32))] [(.ref d), (.int (2 : Int32)), (.ref d)])) rfl (by rw [hml]; rfl) rfl (hb hby d24_3) (by decide) (W := 2) (by show 2 * 0 + _ ≤ _; exact Nat.le_of_eq rfl) (by decide)
  refine Go.of (fun _ hr => st101 _ hr) ?_
  show Go p e s below _ _ _ _ T101 (mkF m 6 #[.val (.ref d), .val (.int (2 : Int32))] [(.ref mr), (.int (2 : Int32)), (.ref d)])
  obtain ⟨_, b102, T102, h102, L102, e102, Cc102, X102, B102, J102, g102, hQ102, st102⟩ := own_callS Cc B0 J0 X101 (hw _ (List.mem_of_getElem? (i := 172) rfl)) (hw _ (List.mem_of_getElem? (i := 173) rfl)) (hw _ (List.mem_of_getElem? (i := 164) rfl)) (hw _ (List.mem_of_getElem? (i := 174) rfl)) (by decide) (rmC3_2 l Z a0 hw [] d e1 mr _ _ h0 n0 O0 h0.size (own_ole O0) K0.1 M Ed Vd Ee) e101 (g := (mkF m 6 #[.val (.ref d), .val (.int (2 : Int32))] [(.ref mr), (.int (2 : Int32)), (.ref d)])) rfl (by rw [hml]; rfl) (argsL := [(.ref d), (.int (2 : Int32)), (.ref mr)]) (rest := []) (lenOf pd9 rfl) rfl (W := 0) (by show 2 * 0 + _ ≤ _; exact Nat.le_of_eq rfl) (hb hby d24_6) (by decide) (by decide) (by decide) (by decide)
  obtain ⟨r102, kr102, rfl, Nq102, Eq102, R_r102, Vr102⟩ := hQ102
  have N102 := Fr.app N0 Nq102
  obtain ⟨hx, hZ, hown, hby, hml, hnm, hret, hlk⟩ := id Cc102
  have sz_r102 : h0.size ≤ r102 := Nat.le_trans K0.1 R_r102
  have fr_r102 : h0.size ≤ r102 := sz_r102
  have ne_d_r102 : d ≠ r102 := Nat.ne_of_lt (Nat.lt_of_lt_of_le Ed.lt R_r102)
  have ne_e1_r102 : e1 ≠ r102 := Nat.ne_of_lt (Nat.lt_of_lt_of_le Ee.lt R_r102)
  have K102 := K0.ext Eq102
  have O102 := O0.ext Eq102
  refine Go.of st102 ?_
  show Go p e s below _ _ _ _ T102 (mkF m 9 #[.val (.ref d), .val (.int (2 : Int32))] [(.ref r102)])
  exact Go.retA X102 hx hlk B102 J102 e102 hret rfl rfl (hb hby d24_9) (by decide) (by decide) (fun vm_ hw_ => ⟨_, _, rfl, (fun y hy => Nat.le_trans hnb (N102 y hy)), keep_ext K102, sz_r102, Vr102⟩)

set_option maxRecDepth 65536 in
set_option maxHeartbeats 40000000 in
theorem rmTA_2 (l : Launch) (Z : State) (a0 : Array Value) (hw : ∀ d ∈ tables_1, d.before a0 Z = true) (ws : List Jvm.Cond) (a1 d e1 mr : Addr) (kd : ClassId) (ms : List Addr) (h0 : Heap) (n0 : Nat) (O0 : Old Z n0 h0) (nb : Nat) (hb0 : n0 ≤ nb) (hnb : nb ≤ h0.size) (M : Mr Z "[Ljava/lang/Object;" mr) (F2 : Fld Z h0 a1 "java/util/ArrayList" "elementData" "[Ljava/lang/Object;" (.ref d)) (F3 : Fld Z h0 a1 "java/util/ArrayList" "size" "I" (.int 2)) (Ed : Exa Z h0 d "[Ljava/lang/Object;") (Vd : Arv Z h0 d kd (.object "java/lang/Object") 10 [(.ref e1), (.ref e1), .null, .null, .null, .null, .null, .null, .null, .null] .null) (Ee : Exa Z h0 e1 "com/example/dispatcher/dispatcher/web/FieldError") :
    Con l Z ms (⟨"java/util/ArrayList", "toArray", "()[Ljava/lang/Object;"⟩ : MethodName) jdk_38_method_16_code 1 (some (.array (.object "java/lang/Object"))) ws ({ frames := 3, cells := 1, slots := 2, locals := 68 } : Room) #[(.ref a1)] h0 (fun v vm h L => ∃ r kr, v = some (.ref r) ∧ Fr nb L ∧ Ext h0 h ∧ h0.size ≤ r ∧ Arv Z h r kr (.object "java/lang/Object") 2 [(.ref e1), (.ref e1)] .null) := by
  refine Con.mk (plainFor_of_name pn6) ?_
  intro p e s m below meth c s₁ Cc X0 e0 eb J0 B0 M0
  obtain ⟨hx, hZ, hown, hby, hml, hnm, hret, hlk⟩ := id Cc
  have N0 := Fr.nil h0.size
  have K0 := Keep.refl h0 []
  show Go p e s below _ _ _ _ s₁ (mkF m 0 #[.val (.ref a1)] [])
  refine Go.of (fun _ hr => XS.aloadN X0.here hx rfl (hb hby d23_0) rfl rfl hr) ?_
  show Go p e s below _ _ _ _ s₁ (mkF m 1 #[.val (.ref a1)] [(.ref a1)])
  obtain ⟨T101, X101, e101, st101⟩ := getF X0 hx hZ hown (host := "") (Or.inl (hw _ (List.mem_of_getElem? (i := 68) rfl))) Via.refl e0 F2 (g := (mkF m 1 #[.val (.ref a1)] [(.ref a1)])) rfl rfl (hb hby d23_1)
  refine Go.of (fun _ hr => st101 _ hr) ?_
  show Go p e s below _ _ _ _ T101 (mkF m 4 #[.val (.ref a1)] [(.ref d)])
  refine Go.of (fun _ hr => XS.aloadN X101.here hx rfl (hb hby d23_4) rfl rfl hr) ?_
  show Go p e s below _ _ _ _ T101 (mkF m 5 #[.val (.ref a1)] [(.ref a1), (.ref d)])
  obtain ⟨T102, X102, e102, st102⟩ := getF X101 hx hZ hown (host := "") (Or.inl (hw _ (List.mem_of_getElem? (i := 100) rfl))) Via.refl e101 F3 (g := (mkF m 5 #[.val (.ref a1)] [(.ref a1), (.ref d)])) rfl rfl (hb hby d23_5)
  refine Go.of (fun _ hr => st102 _ hr) ?_
  show Go p e s below _ _ _ _ T102 (mkF m 8 #[.val (.ref a1)] [(.int (2 : Int32)), (.ref d)])
  obtain ⟨_, b103, T103, h103, L103, e103, Cc103, X103, B103, J103, g103, hQ103, st103⟩ := own_callS Cc B0 J0 X102 (hw _ (List.mem_of_getElem? (i := 162) rfl)) (hw _ (List.mem_of_getElem? (i := 163) rfl)) (hw _ (List.mem_of_getElem? (i := 164) rfl)) (hw _ (List.mem_of_getElem? (i := 165) rfl)) (by decide) (rmC2_2 l Z a0 hw [] d e1 mr _ _ h0 n0 O0 h0.size (own_ole O0) K0.1 M Ed Vd Ee) e102 (g := (mkF m 8 #[.val (.ref a1)] [(.int (2 : Int32)), (.ref d)])) rfl (by rw [hml]; rfl) (argsL := [(.ref d), (.int (2 : Int32))]) (rest := []) (lenOf pd10 rfl) rfl (W := 0) (by show 2 * 0 + _ ≤ _; exact Nat.le_of_eq rfl) (hb hby d23_8) (by decide) (by decide) (by decide) (by decide)
  obtain ⟨r103, kr103, rfl, Nq103, Eq103, R_r103, Vr103⟩ := hQ103
  have N103 := Fr.app N0 Nq103
  obtain ⟨hx, hZ, hown, hby, hml, hnm, hret, hlk⟩ := id Cc103
  have sz_r103 : h0.size ≤ r103 := Nat.le_trans K0.1 R_r103
  have fr_r103 : h0.size ≤ r103 := sz_r103
  have ne_d_r103 : d ≠ r103 := Nat.ne_of_lt (Nat.lt_of_lt_of_le Ed.lt R_r103)
  have ne_e1_r103 : e1 ≠ r103 := Nat.ne_of_lt (Nat.lt_of_lt_of_le Ee.lt R_r103)
  have ne_a1_r103 : a1 ≠ r103 := Nat.ne_of_lt (Nat.lt_of_lt_of_le F2.lt R_r103)
  have K103 := K0.ext Eq103
  have O103 := O0.ext Eq103
  refine Go.of st103 ?_
  show Go p e s below _ _ _ _ T103 (mkF m 11 #[.val (.ref a1)] [(.ref r103)])
  exact Go.retA X103 hx hlk B103 J103 e103 hret rfl rfl (hb hby d23_11) (by decide) (by decide) (fun vm_ hw_ => ⟨_, _, rfl, (fun y hy => Nat.le_trans hnb (N103 y hy)), keep_ext K103, sz_r103, Vr103⟩)

set_option maxRecDepth 65536 in
set_option maxHeartbeats 40000000 in
theorem rmC3_3 (l : Launch) (Z : State) (a0 : Array Value) (hw : ∀ d ∈ tables_1, d.before a0 Z = true) (ws : List Jvm.Cond) (d e1 mr : Addr) (kd : ClassId) (ms : List Addr) (h0 : Heap) (n0 : Nat) (O0 : Old Z n0 h0) (nb : Nat) (hb0 : n0 ≤ nb) (hnb : nb ≤ h0.size) (M : Mr Z "[Ljava/lang/Object;" mr) (Ed : Exa Z h0 d "[Ljava/lang/Object;") (Vd : Arv Z h0 d kd (.object "java/lang/Object") 10 [(.ref e1), (.ref e1), (.ref e1), .null, .null, .null, .null, .null, .null, .null] .null) (Ee : Exa Z h0 e1 "com/example/dispatcher/dispatcher/web/FieldError") :
    Con l Z ms (⟨"java/util/Arrays", "copyOf", "([Ljava/lang/Object;ILjava/lang/Class;)[Ljava/lang/Object;"⟩ : MethodName) jdk_65_method_120_code 4 (some (.array (.object "java/lang/Object"))) ws ({ frames := 1, cells := 1, slots := 3, locals := 40 } : Room) #[(.ref d), (.int (3 : Int32)), (.ref mr)] h0 (fun v vm h L => ∃ r kr, v = some (.ref r) ∧ Fr nb L ∧ Ext h0 h ∧ h0.size ≤ r ∧ Arv Z h r kr (.object "java/lang/Object") 3 [(.ref e1), (.ref e1), (.ref e1)] .null) := by
  refine Con.mk (plainFor_of_name pn7) ?_
  intro p e s m below meth c s₁ Cc X0 e0 eb J0 B0 M0
  obtain ⟨hx, hZ, hown, hby, hml, hnm, hret, hlk⟩ := id Cc
  have N0 := Fr.nil h0.size
  have K0 := Keep.refl h0 []
  show Go p e s below _ _ _ _ s₁ (mkF m 0 #[.val (.ref d), .val (.int (3 : Int32)), .val (.ref mr), .unset] [])
  refine Go.of (fun _ hr => XS.aloadN X0.here hx rfl (hb hby d25_0) rfl rfl hr) ?_
  show Go p e s below _ _ _ _ s₁ (mkF m 1 #[.val (.ref d), .val (.int (3 : Int32)), .val (.ref mr), .unset] [(.ref mr)])
  obtain ⟨T101, X101, e101, st101⟩ := own_ldcM X0 hx hZ hown (hw _ (List.mem_of_getElem? (i := 175) rfl)) e0 M (g := (mkF m 1 #[.val (.ref d), .val (.int (3 : Int32)), .val (.ref mr), .unset] [(.ref mr)])) rfl (hb hby d25_1)
  refine Go.of (fun _ hr => st101 _ hr) ?_
  show Go p e s below _ _ _ _ T101 (mkF m 3 #[.val (.ref d), .val (.int (3 : Int32)), .val (.ref mr), .unset] [(.ref mr), (.ref mr)])
  refine Go.of (fun _ hr => Jvm.RoadKit.acmp (g := (mkF m 3 #[.val (.ref d), .val (.int (3 : Int32)), .val (.ref mr), .unset] [(.ref mr), (.ref mr)])) X101 hx rfl rfl rfl (pc0 := 3) (pc' := 6) (same := true) rfl (hb hby d25_3) rfl (decide_eq_true rfl) (by decide) (by decide) hr) ?_
  show Go p e s below _ _ _ _ T101 (mkF m 6 #[.val (.ref d), .val (.int (3 : Int32)), .val (.ref mr), .unset] [])
  refine Go.of (fun _ hr => XS.iloadN X101.here hx rfl (hb hby d25_6) rfl  hr) ?_
  show Go p e s below _ _ _ _ T101 (mkF m 7 #[.val (.ref d), .val (.int (3 : Int32)), .val (.ref mr), .unset] [(.int (3 : Int32))])
  obtain ⟨T102, h102, k102, X102, e102, E102, A102, Ex102, Ov102, st102⟩ := newRE X101 hx hZ hown (hw _ (List.mem_of_getElem? (i := 176) rfl)) (hw _ (List.mem_of_getElem? (i := 152) rfl)) e101 (g := (mkF m 7 #[.val (.ref d), .val (.int (3 : Int32)), .val (.ref mr), .unset] [(.int (3 : Int32))])) rfl (hb hby d25_7) rfl (by decide) (cap := 3) (by decide) (by decide) (by decide) (by decide) (ad := "[Ljava/lang/Object;") (by decide)
  obtain ⟨o102, g102⟩ : ∃ z, z = h0.size := ⟨_, rfl⟩
  rw [← g102] at A102 Ex102 st102
  have ne_d_o102 : d ≠ o102 := Nat.ne_of_lt (Nat.lt_of_lt_of_le Ed.lt (Nat.le_of_eq g102.symm))
  have ne_e1_o102 : e1 ≠ o102 := Nat.ne_of_lt (Nat.lt_of_lt_of_le Ee.lt (Nat.le_of_eq g102.symm))
  have V102 : Arv Z h102 o102 k102 (.object "java/lang/Object") (3 : Int32) [.null, .null, .null] .null := (Arv.new A102 (by decide)).pad (pad_rep [] .null 3)
  have lt102 : o102 < h102.size := A102.lt
  have J102 := J0.add E102 g102 lt102
  have B102 := B0.mono E102.1
  have O102 := O0.ext E102
  have sz102 : h0.size ≤ o102 := Nat.le_trans K0.1 (Nat.le_of_eq g102.symm)
  have fr102 : h0.size ≤ o102 := sz102
  have K102 := K0.ext E102
  refine Go.of (fun _ hr => st102 _ hr) ?_
  show Go p e s below _ _ _ _ T102 (mkF m 10 #[.val (.ref d), .val (.int (3 : Int32)), .val (.ref mr), .unset] [(.ref o102)])
  refine Go.of (fun _ hr => XS.goto X102.here hx rfl (pc0 := 10) (pc' := 24) rfl (hb hby d25_10) (by decide) (by decide) hr) ?_
  show Go p e s below _ _ _ _ T102 (mkF m 24 #[.val (.ref d), .val (.int (3 : Int32)), .val (.ref mr), .unset] [(.ref o102)])
  refine Go.of (fun _ hr => XS.astoreN X102.here hx rfl (hb hby d25_24) rfl rfl (l' := #[.val (.ref d), .val (.int (3 : Int32)), .val (.ref mr), .val (.ref o102)]) rfl hr) ?_
  show Go p e s below _ _ _ _ T102 (mkF m 25 #[.val (.ref d), .val (.int (3 : Int32)), .val (.ref mr), .val (.ref o102)] [])
  refine Go.of (fun _ hr => XS.aloadN X102.here hx rfl (hb hby d25_25) rfl rfl hr) ?_
  show Go p e s below _ _ _ _ T102 (mkF m 26 #[.val (.ref d), .val (.int (3 : Int32)), .val (.ref mr), .val (.ref o102)] [(.ref d)])
  refine Go.of (fun _ hr => XS.iconst X102.here hx rfl (hb hby d25_26) hr) ?_
  show Go p e s below _ _ _ _ T102 (mkF m 27 #[.val (.ref d), .val (.int (3 : Int32)), .val (.ref mr), .val (.ref o102)] [(.int (0 : Int32)), (.ref d)])
  refine Go.of (fun _ hr => XS.aloadN X102.here hx rfl (hb hby d25_27) rfl rfl hr) ?_
  show Go p e s below _ _ _ _ T102 (mkF m 28 #[.val (.ref d), .val (.int (3 : Int32)), .val (.ref mr), .val (.ref o102)] [(.ref o102), (.int (0 : Int32)), (.ref d)])
  refine Go.of (fun _ hr => XS.iconst X102.here hx rfl (hb hby d25_28) hr) ?_
  show Go p e s below _ _ _ _ T102 (mkF m 29 #[.val (.ref d), .val (.int (3 : Int32)), .val (.ref mr), .val (.ref o102)] [(.int (0 : Int32)), (.ref o102), (.int (0 : Int32)), (.ref d)])
  refine Go.of (fun _ hr => XS.aloadN X102.here hx rfl (hb hby d25_29) rfl rfl hr) ?_
  show Go p e s below _ _ _ _ T102 (mkF m 30 #[.val (.ref d), .val (.int (3 : Int32)), .val (.ref mr), .val (.ref o102)] [(.ref d), (.int (0 : Int32)), (.ref o102), (.int (0 : Int32)), (.ref d)])
  have f104 := (Vd.ext E102)
  obtain ⟨cl103, Ar103, q103, S103, N103_, H103, G103⟩ := id f104
  refine Go.of (fun _ hr => X102.arraylength hx (by rw [e102]; exact Ar103.1) (State.isArrayOf_alike hZ.alike Ar103.2.1) (g := (mkF m 30 #[.val (.ref d), .val (.int (3 : Int32)), .val (.ref mr), .val (.ref o102)] [(.ref d), (.int (0 : Int32)), (.ref o102), (.int (0 : Int32)), (.ref d)])) rfl rfl (hb hby d25_30) _ hr) ?_
  rw [len_of S103 N103_]
  show Go p e s below _ _ _ _ T102 (mkF m 31 #[.val (.ref d), .val (.int (3 : Int32)), .val (.ref mr), .val (.ref o102)] [(.int (10 : Int32)), (.int (0 : Int32)), (.ref o102), (.int (0 : Int32)), (.ref d)])
  refine Go.of (fun _ hr => XS.iloadN X102.here hx rfl (hb hby d25_31) rfl  hr) ?_
  show Go p e s below _ _ _ _ T102 (mkF m 32 #[.val (.ref d), .val (.int (3 : Int32)), .val (.ref mr), .val (.ref o102)] [(.int (3 : Int32)), (.int (10 : Int32)), (.int (0 : Int32)), (.ref o102), (.int (0 : Int32)), (.ref d)])
  obtain ⟨_, b105, T105, h105, L105, e105, Cc105, X105, B105, J105, g105, hQ105, st105⟩ := own_callS Cc B102 J102 X102 (hw _ (List.mem_of_getElem? (i := 177) rfl)) (hw _ (List.mem_of_getElem? (i := 178) rfl)) (hw _ (List.mem_of_getElem? (i := 149) rfl)) (hw _ (List.mem_of_getElem? (i := 179) rfl)) (by decide) (rm26 l Z a0 hw [] (10 : Int32) (3 : Int32) _ h102 n0 O102 h0.size (own_ole O0) K102.1) e102 (g := (mkF m 32 #[.val (.ref d), .val (.int (3 : Int32)), .val (.ref mr), .val (.ref o102)] [(.int (3 : Int32)), (.int (10 : Int32)), (.int (0 : Int32)), (.ref o102), (.int (0 : Int32)), (.ref d)])) rfl (by rw [hml]; rfl) (argsL := [(.int (10 : Int32)), (.int (3 : Int32))]) (rest := [(.int (0 : Int32)), (.ref o102), (.int (0 : Int32)), (.ref d)]) (lenOf pd5 rfl) rfl (W := 4) (by show 2 * 0 + _ ≤ _; exact Nat.le_of_eq rfl) (hb hby d25_32) (by decide) (by decide) (by decide) (by decide)
  obtain ⟨rfl, Nq105, hh105⟩ := hQ105
  have N105 := Fr.app N0 Nq105
  obtain ⟨hx, hZ, hown, hby, hml, hnm, hret, hlk⟩ := id Cc105
  rw [hh105] at e105 B105 J105
  refine Go.of st105 ?_
  show Go p e s below _ _ _ _ T105 (mkF m 35 #[.val (.ref d), .val (.int (3 : Int32)), .val (.ref mr), .val (.ref o102)] [(.int (3 : Int32)), (.int (0 : Int32)), (.ref o102), (.int (0 : Int32)), (.ref d)])
  obtain ⟨clx107, Arx107, qx107, -⟩ := id V102
  have f108 := (Ee.ext E102)
  have Sto107 : Sto Z h102 o102 (.ref e1) := Sto.ofV Arx107 qx107 Ov102 (Ins.of_exa f108 (hw _ (List.mem_of_getElem? (i := 153) rfl)))
  obtain ⟨T106, h106, L106, X106, e106, N106, Kq106, V106, st106⟩ := cpA X105 hx hZ hown (hw _ (List.mem_of_getElem? (i := 180) rfl)) (hw _ (List.mem_of_getElem? (i := 183) rfl)) (hw _ (List.mem_of_getElem? (i := 181) rfl)) (hw _ (List.mem_of_getElem? (i := 182) rfl)) e105 f104 V102 (us := [(.ref e1), (.ref e1), (.ref e1)]) (Or.inr ⟨rfl, rfl, ⟨Sto107, ⟨Sto107, ⟨Sto107, trivial⟩⟩⟩⟩) (by decide) (by decide) (by decide) (by decide) (by decide) rfl (by decide) N105 fr102 (g := (mkF m 35 #[.val (.ref d), .val (.int (3 : Int32)), .val (.ref mr), .val (.ref o102)] [(.int (3 : Int32)), (.int (0 : Int32)), (.ref o102), (.int (0 : Int32)), (.ref d)])) rfl (by rw [hml]; rfl) rfl (hb hby d25_35) (by decide) (W := 0) (by show 2 * 0 + _ ≤ _; exact Nat.le_of_eq rfl) (by decide)
  have K106 := K102.trans Kq106 (allS (Or.inr sz102) all0)
  have O106 := O102.keep Kq106 (allS (Nat.le_trans (own_ole O0) fr102) all0)
  have B106 := B105.mono Kq106.1
  have J106 := Hd.keep J105 Kq106 (allS trivial all0)
  have Vc106 : Arv Z h106 o102 k102 (.object "java/lang/Object") (3 : Int32) [(.ref e1), (.ref e1), (.ref e1)] .null := by have q := V106; exact q
  refine Go.of (fun _ hr => st106 _ hr) ?_
  show Go p e s below _ _ _ _ T106 (mkF m 38 #[.val (.ref d), .val (.int (3 : Int32)), .val (.ref mr), .val (.ref o102)] [])
  refine Go.of (fun _ hr => XS.aloadN X106.here hx rfl (hb hby d25_38) rfl rfl hr) ?_
  show Go p e s below _ _ _ _ T106 (mkF m 39 #[.val (.ref d), .val (.int (3 : Int32)), .val (.ref mr), .val (.ref o102)] [(.ref o102)])
  exact Go.retA X106 hx hlk B106 (J106.sub fun x hx => (List.mem_cons_of_mem _ hx)) e106 hret rfl rfl (hb hby d25_39) (by decide) (by decide) (fun vm_ hw_ => ⟨_, _, rfl, (fun y hy => Nat.le_trans hnb (N106 y hy)), keep_ext K106, sz102, Vc106⟩)

set_option maxRecDepth 65536 in
set_option maxHeartbeats 40000000 in
theorem rmC2_3 (l : Launch) (Z : State) (a0 : Array Value) (hw : ∀ d ∈ tables_1, d.before a0 Z = true) (ws : List Jvm.Cond) (d e1 mr : Addr) (kd : ClassId) (ms : List Addr) (h0 : Heap) (n0 : Nat) (O0 : Old Z n0 h0) (nb : Nat) (hb0 : n0 ≤ nb) (hnb : nb ≤ h0.size) (M : Mr Z "[Ljava/lang/Object;" mr) (Ed : Exa Z h0 d "[Ljava/lang/Object;") (Vd : Arv Z h0 d kd (.object "java/lang/Object") 10 [(.ref e1), (.ref e1), (.ref e1), .null, .null, .null, .null, .null, .null, .null] .null) (Ee : Exa Z h0 e1 "com/example/dispatcher/dispatcher/web/FieldError") :
    Con l Z ms (⟨"java/util/Arrays", "copyOf", "([Ljava/lang/Object;I)[Ljava/lang/Object;"⟩ : MethodName) jdk_65_method_119_code 2 (some (.array (.object "java/lang/Object"))) ws ({ frames := 2, cells := 1, slots := 3, locals := 55 } : Room) #[(.ref d), (.int (3 : Int32))] h0 (fun v vm h L => ∃ r kr, v = some (.ref r) ∧ Fr nb L ∧ Ext h0 h ∧ h0.size ≤ r ∧ Arv Z h r kr (.object "java/lang/Object") 3 [(.ref e1), (.ref e1), (.ref e1)] .null) := by
  refine Con.mk (plainFor_of_name pn7) ?_
  intro p e s m below meth c s₁ Cc X0 e0 eb J0 B0 M0
  obtain ⟨hx, hZ, hown, hby, hml, hnm, hret, hlk⟩ := id Cc
  have N0 := Fr.nil h0.size
  have K0 := Keep.refl h0 []
  show Go p e s below _ _ _ _ s₁ (mkF m 0 #[.val (.ref d), .val (.int (3 : Int32))] [])
  refine Go.of (fun _ hr => XS.aloadN X0.here hx rfl (hb hby d24_0) rfl rfl hr) ?_
  show Go p e s below _ _ _ _ s₁ (mkF m 1 #[.val (.ref d), .val (.int (3 : Int32))] [(.ref d)])
  refine Go.of (fun _ hr => XS.iloadN X0.here hx rfl (hb hby d24_1) rfl  hr) ?_
  show Go p e s below _ _ _ _ s₁ (mkF m 2 #[.val (.ref d), .val (.int (3 : Int32))] [(.int (3 : Int32)), (.ref d)])
  refine Go.of (fun _ hr => XS.aloadN X0.here hx rfl (hb hby d24_2) rfl rfl hr) ?_
  show Go p e s below _ _ _ _ s₁ (mkF m 3 #[.val (.ref d), .val (.int (3 : Int32))] [(.ref d), (.int (3 : Int32)), (.ref d)])
  obtain ⟨T101, X101, e101, st101⟩ := own_gcls X0 hx hZ hown (hw _ (List.mem_of_getElem? (i := 166) rfl)) (hw _ (List.mem_of_getElem? (i := 167) rfl)) (hw _ (List.mem_of_getElem? (i := 89) rfl)) (hw _ (List.mem_of_getElem? (i := 169) rfl)) (hw _ (List.mem_of_getElem? (i := 168) rfl)) (hw _ (List.mem_of_getElem? (i := 170) rfl)) e0 Ed M (g := (mkF m 3 #[.val (.ref d), .val (.int (3 : Int32))] [(.ref d), (.int (3 : Int32)), (.ref d)])) rfl (by rw [hml]; rfl) rfl (hb hby d24_3) (by decide) (W := 2) (by show 2 * 0 + _ ≤ _; exact Nat.le_of_eq rfl) (by decide)
  refine Go.of (fun _ hr => st101 _ hr) ?_
  show Go p e s below _ _ _ _ T101 (mkF m 6 #[.val (.ref d), .val (.int (3 : Int32))] [(.ref mr), (.int (3 : Int32)), (.ref d)])
  obtain ⟨_, b102, T102, h102, L102, e102, Cc102, X102, B102, J102, g102, hQ102, st102⟩ := own_callS Cc B0 J0 X101 (hw _ (List.mem_of_getElem? (i := 172) rfl)) (hw _ (List.mem_of_getElem? (i := 173) rfl)) (hw _ (List.mem_of_getElem? (i := 164) rfl)) (hw _ (List.mem_of_getElem? (i := 174) rfl)) (by decide) (rmC3_3 l Z a0 hw [] d e1 mr _ _ h0 n0 O0 h0.size (own_ole O0) K0.1 M Ed Vd Ee) e101 (g := (mkF m 6 #[.val (.ref d), .val (.int (3 : Int32))] [(.ref mr), (.int (3 : Int32)), (.ref d)])) rfl (by rw [hml]; rfl) (argsL := [(.ref d), (.int (3 : Int32)), (.ref mr)]) (rest := []) (lenOf pd9 rfl) rfl (W := 0) (by show 2 * 0 + _ ≤ _; exact Nat.le_of_eq rfl) (hb hby d24_6) (by decide) (by decide) (by decide) (by decide)
  obtain ⟨r102, kr102, rfl, Nq102, Eq102, R_r102, Vr102⟩ := hQ102
  have N102 := Fr.app N0 Nq102
  obtain ⟨hx, hZ, hown, hby, hml, hnm, hret, hlk⟩ := id Cc102
  have sz_r102 : h0.size ≤ r102 := Nat.le_trans K0.1 R_r102
  have fr_r102 : h0.size ≤ r102 := sz_r102
  have ne_d_r102 : d ≠ r102 := Nat.ne_of_lt (Nat.lt_of_lt_of_le Ed.lt R_r102)
  have ne_e1_r102 : e1 ≠ r102 := Nat.ne_of_lt (Nat.lt_of_lt_of_le Ee.lt R_r102)
  have K102 := K0.ext Eq102
  have O102 := O0.ext Eq102
  refine Go.of st102 ?_
  show Go p e s below _ _ _ _ T102 (mkF m 9 #[.val (.ref d), .val (.int (3 : Int32))] [(.ref r102)])
  exact Go.retA X102 hx hlk B102 J102 e102 hret rfl rfl (hb hby d24_9) (by decide) (by decide) (fun vm_ hw_ => ⟨_, _, rfl, (fun y hy => Nat.le_trans hnb (N102 y hy)), keep_ext K102, sz_r102, Vr102⟩)

set_option maxRecDepth 65536 in
set_option maxHeartbeats 40000000 in
theorem rmTA_3 (l : Launch) (Z : State) (a0 : Array Value) (hw : ∀ d ∈ tables_1, d.before a0 Z = true) (ws : List Jvm.Cond) (a1 d e1 mr : Addr) (kd : ClassId) (ms : List Addr) (h0 : Heap) (n0 : Nat) (O0 : Old Z n0 h0) (nb : Nat) (hb0 : n0 ≤ nb) (hnb : nb ≤ h0.size) (M : Mr Z "[Ljava/lang/Object;" mr) (F2 : Fld Z h0 a1 "java/util/ArrayList" "elementData" "[Ljava/lang/Object;" (.ref d)) (F3 : Fld Z h0 a1 "java/util/ArrayList" "size" "I" (.int 3)) (Ed : Exa Z h0 d "[Ljava/lang/Object;") (Vd : Arv Z h0 d kd (.object "java/lang/Object") 10 [(.ref e1), (.ref e1), (.ref e1), .null, .null, .null, .null, .null, .null, .null] .null) (Ee : Exa Z h0 e1 "com/example/dispatcher/dispatcher/web/FieldError") :
    Con l Z ms (⟨"java/util/ArrayList", "toArray", "()[Ljava/lang/Object;"⟩ : MethodName) jdk_38_method_16_code 1 (some (.array (.object "java/lang/Object"))) ws ({ frames := 3, cells := 1, slots := 3, locals := 68 } : Room) #[(.ref a1)] h0 (fun v vm h L => ∃ r kr, v = some (.ref r) ∧ Fr nb L ∧ Ext h0 h ∧ h0.size ≤ r ∧ Arv Z h r kr (.object "java/lang/Object") 3 [(.ref e1), (.ref e1), (.ref e1)] .null) := by
  refine Con.mk (plainFor_of_name pn6) ?_
  intro p e s m below meth c s₁ Cc X0 e0 eb J0 B0 M0
  obtain ⟨hx, hZ, hown, hby, hml, hnm, hret, hlk⟩ := id Cc
  have N0 := Fr.nil h0.size
  have K0 := Keep.refl h0 []
  show Go p e s below _ _ _ _ s₁ (mkF m 0 #[.val (.ref a1)] [])
  refine Go.of (fun _ hr => XS.aloadN X0.here hx rfl (hb hby d23_0) rfl rfl hr) ?_
  show Go p e s below _ _ _ _ s₁ (mkF m 1 #[.val (.ref a1)] [(.ref a1)])
  obtain ⟨T101, X101, e101, st101⟩ := getF X0 hx hZ hown (host := "") (Or.inl (hw _ (List.mem_of_getElem? (i := 68) rfl))) Via.refl e0 F2 (g := (mkF m 1 #[.val (.ref a1)] [(.ref a1)])) rfl rfl (hb hby d23_1)
  refine Go.of (fun _ hr => st101 _ hr) ?_
  show Go p e s below _ _ _ _ T101 (mkF m 4 #[.val (.ref a1)] [(.ref d)])
  refine Go.of (fun _ hr => XS.aloadN X101.here hx rfl (hb hby d23_4) rfl rfl hr) ?_
  show Go p e s below _ _ _ _ T101 (mkF m 5 #[.val (.ref a1)] [(.ref a1), (.ref d)])
  obtain ⟨T102, X102, e102, st102⟩ := getF X101 hx hZ hown (host := "") (Or.inl (hw _ (List.mem_of_getElem? (i := 100) rfl))) Via.refl e101 F3 (g := (mkF m 5 #[.val (.ref a1)] [(.ref a1), (.ref d)])) rfl rfl (hb hby d23_5)
  refine Go.of (fun _ hr => st102 _ hr) ?_
  show Go p e s below _ _ _ _ T102 (mkF m 8 #[.val (.ref a1)] [(.int (3 : Int32)), (.ref d)])
  obtain ⟨_, b103, T103, h103, L103, e103, Cc103, X103, B103, J103, g103, hQ103, st103⟩ := own_callS Cc B0 J0 X102 (hw _ (List.mem_of_getElem? (i := 162) rfl)) (hw _ (List.mem_of_getElem? (i := 163) rfl)) (hw _ (List.mem_of_getElem? (i := 164) rfl)) (hw _ (List.mem_of_getElem? (i := 165) rfl)) (by decide) (rmC2_3 l Z a0 hw [] d e1 mr _ _ h0 n0 O0 h0.size (own_ole O0) K0.1 M Ed Vd Ee) e102 (g := (mkF m 8 #[.val (.ref a1)] [(.int (3 : Int32)), (.ref d)])) rfl (by rw [hml]; rfl) (argsL := [(.ref d), (.int (3 : Int32))]) (rest := []) (lenOf pd10 rfl) rfl (W := 0) (by show 2 * 0 + _ ≤ _; exact Nat.le_of_eq rfl) (hb hby d23_8) (by decide) (by decide) (by decide) (by decide)
  obtain ⟨r103, kr103, rfl, Nq103, Eq103, R_r103, Vr103⟩ := hQ103
  have N103 := Fr.app N0 Nq103
  obtain ⟨hx, hZ, hown, hby, hml, hnm, hret, hlk⟩ := id Cc103
  have sz_r103 : h0.size ≤ r103 := Nat.le_trans K0.1 R_r103
  have fr_r103 : h0.size ≤ r103 := sz_r103
  have ne_d_r103 : d ≠ r103 := Nat.ne_of_lt (Nat.lt_of_lt_of_le Ed.lt R_r103)
  have ne_e1_r103 : e1 ≠ r103 := Nat.ne_of_lt (Nat.lt_of_lt_of_le Ee.lt R_r103)
  have ne_a1_r103 : a1 ≠ r103 := Nat.ne_of_lt (Nat.lt_of_lt_of_le F2.lt R_r103)
  have K103 := K0.ext Eq103
  have O103 := O0.ext Eq103
  refine Go.of st103 ?_
  show Go p e s below _ _ _ _ T103 (mkF m 11 #[.val (.ref a1)] [(.ref r103)])
  exact Go.retA X103 hx hlk B103 J103 e103 hret rfl rfl (hb hby d23_11) (by decide) (by decide) (fun vm_ hw_ => ⟨_, _, rfl, (fun y hy => Nat.le_trans hnb (N103 y hy)), keep_ext K103, sz_r103, Vr103⟩)

theorem pn8 : plainName "java/util/ImmutableCollections$AbstractImmutableCollection" = true := by first | (simp [plainName, overriddenIn]; done) | decide +kernel
theorem d30_0 : decode jdk_47_method_1_code 0 = .ok (.aload_n 0, 1) := by decide +kernel
theorem d30_1 : decode jdk_47_method_1_code 1 = .ok (.invokespecial 1, 3) := by decide +kernel
theorem d30_4 : decode jdk_47_method_1_code 4 = .ok (.return_, 1) := by decide +kernel
set_option maxRecDepth 65536 in
set_option maxHeartbeats 40000000 in
theorem rm30 (l : Launch) (Z : State) (a0 : Array Value) (hw : ∀ d ∈ tables_1, d.before a0 Z = true) (ws : List Jvm.Cond) (a1 : Addr) (ms : List Addr) (h0 : Heap) (n0 : Nat) (O0 : Old Z n0 h0) (nb : Nat) (hb0 : n0 ≤ nb) (hnb : nb ≤ h0.size) :
    Con l Z ms (⟨"java/util/ImmutableCollections$AbstractImmutableCollection", "<init>", "()V"⟩ : MethodName) jdk_47_method_1_code 1 none ws ({ frames := 2, cells := 0, slots := 0, locals := 24 } : Room) #[(.ref a1)] h0 (fun v vm h L => v = none ∧ Fr nb L ∧ h = h0) := by
  refine Con.mk (plainFor_of_name pn8) ?_
  intro p e s m below meth c s₁ Cc X0 e0 eb J0 B0 M0
  obtain ⟨hx, hZ, hown, hby, hml, hnm, hret, hlk⟩ := id Cc
  have N0 := Fr.nil h0.size
  have K0 := Keep.refl h0 []
  show Go p e s below _ _ _ _ s₁ (mkF m 0 #[.val (.ref a1)] [])
  refine Go.of (fun _ hr => XS.aloadN X0.here hx rfl (hb hby d30_0) rfl rfl hr) ?_
  show Go p e s below _ _ _ _ s₁ (mkF m 1 #[.val (.ref a1)] [(.ref a1)])
  obtain ⟨_, b101, T101, h101, L101, e101, Cc101, X101, B101, J101, g101, hQ101, st101⟩ := own_callI Cc B0 J0 X0 rfl (hw _ (List.mem_of_getElem? (i := 206) rfl)) (hw _ (List.mem_of_getElem? (i := 59) rfl)) (hw _ (List.mem_of_getElem? (i := 62) rfl)) (hw _ (List.mem_of_getElem? (i := 63) rfl)) (by decide) (rm10 l Z a0 hw [] a1 _ h0 n0 O0 h0.size (own_ole O0) K0.1) e0 (g := (mkF m 1 #[.val (.ref a1)] [(.ref a1)])) rfl (by rw [hml]; rfl) (argsL := []) (rest := []) (lenOf pd4 rfl) rfl (W := 0) (by show 2 * 0 + _ ≤ _; exact Nat.le_of_eq rfl) (hb hby d30_1) (by decide) (by decide) (by decide) (by decide)
  obtain ⟨rfl, Nq101, hh101⟩ := hQ101
  have N101 := Fr.app N0 Nq101
  obtain ⟨hx, hZ, hown, hby, hml, hnm, hret, hlk⟩ := id Cc101
  rw [hh101] at e101 B101 J101
  refine Go.of st101 ?_
  show Go p e s below _ _ _ _ T101 (mkF m 4 #[.val (.ref a1)] [])
  exact Go.retV X101 hx hlk B101 J101 e101 hret (hb hby d30_4) (by decide) (by decide) (fun vm_ hw_ => ⟨rfl, (fun y hy => Nat.le_trans hnb (N101 y hy)), rfl⟩)

theorem pn9 : plainName "java/util/ImmutableCollections$AbstractImmutableList" = true := by first | (simp [plainName, overriddenIn]; done) | decide +kernel
theorem d29_0 : decode jdk_46_method_1_code 0 = .ok (.aload_n 0, 1) := by decide +kernel
theorem d29_1 : decode jdk_46_method_1_code 1 = .ok (.invokespecial 1, 3) := by decide +kernel
theorem d29_4 : decode jdk_46_method_1_code 4 = .ok (.return_, 1) := by decide +kernel
set_option maxRecDepth 65536 in
set_option maxHeartbeats 40000000 in
theorem rm29 (l : Launch) (Z : State) (a0 : Array Value) (hw : ∀ d ∈ tables_1, d.before a0 Z = true) (ws : List Jvm.Cond) (a1 : Addr) (ms : List Addr) (h0 : Heap) (n0 : Nat) (O0 : Old Z n0 h0) (nb : Nat) (hb0 : n0 ≤ nb) (hnb : nb ≤ h0.size) :
    Con l Z ms (⟨"java/util/ImmutableCollections$AbstractImmutableList", "<init>", "()V"⟩ : MethodName) jdk_46_method_1_code 1 none ws ({ frames := 3, cells := 0, slots := 0, locals := 36 } : Room) #[(.ref a1)] h0 (fun v vm h L => v = none ∧ Fr nb L ∧ h = h0) := by
  refine Con.mk (plainFor_of_name pn9) ?_
  intro p e s m below meth c s₁ Cc X0 e0 eb J0 B0 M0
  obtain ⟨hx, hZ, hown, hby, hml, hnm, hret, hlk⟩ := id Cc
  have N0 := Fr.nil h0.size
  have K0 := Keep.refl h0 []
  show Go p e s below _ _ _ _ s₁ (mkF m 0 #[.val (.ref a1)] [])
  refine Go.of (fun _ hr => XS.aloadN X0.here hx rfl (hb hby d29_0) rfl rfl hr) ?_
  show Go p e s below _ _ _ _ s₁ (mkF m 1 #[.val (.ref a1)] [(.ref a1)])
  obtain ⟨_, b101, T101, h101, L101, e101, Cc101, X101, B101, J101, g101, hQ101, st101⟩ := own_callI Cc B0 J0 X0 rfl (hw _ (List.mem_of_getElem? (i := 200) rfl)) (hw _ (List.mem_of_getElem? (i := 201) rfl)) (hw _ (List.mem_of_getElem? (i := 204) rfl)) (hw _ (List.mem_of_getElem? (i := 205) rfl)) (by decide) (rm30 l Z a0 hw [] a1 _ h0 n0 O0 h0.size (own_ole O0) K0.1) e0 (g := (mkF m 1 #[.val (.ref a1)] [(.ref a1)])) rfl (by rw [hml]; rfl) (argsL := []) (rest := []) (lenOf pd4 rfl) rfl (W := 0) (by show 2 * 0 + _ ≤ _; exact Nat.le_of_eq rfl) (hb hby d29_1) (by decide) (by decide) (by decide) (by decide)
  obtain ⟨rfl, Nq101, hh101⟩ := hQ101
  have N101 := Fr.app N0 Nq101
  obtain ⟨hx, hZ, hown, hby, hml, hnm, hret, hlk⟩ := id Cc101
  rw [hh101] at e101 B101 J101
  refine Go.of st101 ?_
  show Go p e s below _ _ _ _ T101 (mkF m 4 #[.val (.ref a1)] [])
  exact Go.retV X101 hx hlk B101 J101 e101 hret (hb hby d29_4) (by decide) (by decide) (fun vm_ hw_ => ⟨rfl, (fun y hy => Nat.le_trans hnb (N101 y hy)), rfl⟩)

theorem pn10 : plainName "java/util/ImmutableCollections$List12" = true := by first | (simp [plainName, overriddenIn]; done) | decide +kernel
theorem d28_0 : decode jdk_44_method_1_code 0 = .ok (.aload_n 0, 1) := by decide +kernel
theorem d28_1 : decode jdk_44_method_1_code 1 = .ok (.invokespecial 1, 3) := by decide +kernel
theorem d28_4 : decode jdk_44_method_1_code 4 = .ok (.aload_n 0, 1) := by decide +kernel
theorem d28_5 : decode jdk_44_method_1_code 5 = .ok (.aload_n 1, 1) := by decide +kernel
theorem d28_6 : decode jdk_44_method_1_code 6 = .ok (.invokestatic 7, 3) := by decide +kernel
theorem pd11 : parseMethodDescriptor "(Ljava/lang/Object;)Ljava/lang/Object;" = some ⟨[(.object "java/lang/Object")], some (.object "java/lang/Object")⟩ := by decide +kernel
theorem d28_9 : decode jdk_44_method_1_code 9 = .ok (.putfield 13, 3) := by decide +kernel
theorem d28_12 : decode jdk_44_method_1_code 12 = .ok (.aload_n 0, 1) := by decide +kernel
theorem d28_13 : decode jdk_44_method_1_code 13 = .ok (.getstatic 19, 3) := by decide +kernel
theorem d28_16 : decode jdk_44_method_1_code 16 = .ok (.putfield 24, 3) := by decide +kernel
theorem d28_19 : decode jdk_44_method_1_code 19 = .ok (.return_, 1) := by decide +kernel
set_option maxRecDepth 65536 in
set_option maxHeartbeats 40000000 in
theorem rm28 (l : Launch) (Z : State) (a0 : Array Value) (hw : ∀ d ∈ tables_1, d.before a0 Z = true) (ws : List Jvm.Cond) (a1 a2 wE : Addr) (u1 u2 : Value) (ms : List Addr) (h0 : Heap) (n0 : Nat) (O0 : Old Z n0 h0) (nb : Nat) (hb0 : n0 ≤ nb) (hnb : nb ≤ h0.size) (fr_a1 : nb ≤ a1) (hm_a1 : True) (S_E : Sta Z Z.heap "java/util/ImmutableCollections" "EMPTY" "Ljava/lang/Object;" (.ref wE)) (E1 : Exa Z h0 a1 "java/util/ImmutableCollections$List12") (F1 : Fld Z h0 a1 "java/util/ImmutableCollections$List12" "e0" "Ljava/lang/Object;" u1) (F2 : Fld Z h0 a1 "java/util/ImmutableCollections$List12" "e1" "Ljava/lang/Object;" u2) :
    Con l Z ms (⟨"java/util/ImmutableCollections$List12", "<init>", "(Ljava/lang/Object;)V"⟩ : MethodName) jdk_44_method_1_code 2 none ws ({ frames := 4, cells := 0, slots := 0, locals := 48 } : Room) #[(.ref a1), (.ref a2)] h0 (fun v vm h L => v = none ∧ Fr nb L ∧ Keep h0 h [a1]) := by
  refine Con.mk (plainFor_of_name pn10) ?_
  intro p e s m below meth c s₁ Cc X0 e0 eb J0 B0 M0
  obtain ⟨hx, hZ, hown, hby, hml, hnm, hret, hlk⟩ := id Cc
  have N0 := Fr.nil nb
  have K0 := Keep.refl h0 [a1]
  show Go p e s below _ _ _ _ s₁ (mkF m 0 #[.val (.ref a1), .val (.ref a2)] [])
  refine Go.of (fun _ hr => XS.aloadN X0.here hx rfl (hb hby d28_0) rfl rfl hr) ?_
  show Go p e s below _ _ _ _ s₁ (mkF m 1 #[.val (.ref a1), .val (.ref a2)] [(.ref a1)])
  obtain ⟨_, b101, T101, h101, L101, e101, Cc101, X101, B101, J101, g101, hQ101, st101⟩ := own_callI Cc B0 J0 X0 rfl (hw _ (List.mem_of_getElem? (i := 194) rfl)) (hw _ (List.mem_of_getElem? (i := 195) rfl)) (hw _ (List.mem_of_getElem? (i := 198) rfl)) (hw _ (List.mem_of_getElem? (i := 199) rfl)) (by decide) (rm29 l Z a0 hw [] a1 _ h0 n0 O0 h0.size (own_ole O0) K0.1) e0 (g := (mkF m 1 #[.val (.ref a1), .val (.ref a2)] [(.ref a1)])) rfl (by rw [hml]; rfl) (argsL := []) (rest := []) (lenOf pd4 rfl) rfl (W := 0) (by show 2 * 0 + _ ≤ _; exact Nat.le_of_eq rfl) (hb hby d28_1) (by decide) (by decide) (by decide) (by decide)
  obtain ⟨rfl, Nq101, hh101⟩ := hQ101
  have N101 := Fr.app N0 (show Fr nb _ from fun y hy => Nat.le_trans hnb (Nq101 y hy))
  have NS101 := Fr.app (Fr.nil _) Nq101
  obtain ⟨hx, hZ, hown, hby, hml, hnm, hret, hlk⟩ := id Cc101
  rw [hh101] at e101 B101 J101
  refine Go.of st101 ?_
  show Go p e s below _ _ _ _ T101 (mkF m 4 #[.val (.ref a1), .val (.ref a2)] [])
  refine Go.of (fun _ hr => XS.aloadN X101.here hx rfl (hb hby d28_4) rfl rfl hr) ?_
  show Go p e s below _ _ _ _ T101 (mkF m 5 #[.val (.ref a1), .val (.ref a2)] [(.ref a1)])
  refine Go.of (fun _ hr => XS.aloadN X101.here hx rfl (hb hby d28_5) rfl rfl hr) ?_
  show Go p e s below _ _ _ _ T101 (mkF m 6 #[.val (.ref a1), .val (.ref a2)] [(.ref a2), (.ref a1)])
  obtain ⟨_, b102, T102, h102, L102, e102, Cc102, X102, B102, J102, g102, hQ102, st102⟩ := own_callS Cc101 B101 J101 X101 (hw _ (List.mem_of_getElem? (i := 208) rfl)) (hw _ (List.mem_of_getElem? (i := 209) rfl)) (hw _ (List.mem_of_getElem? (i := 38) rfl)) (hw _ (List.mem_of_getElem? (i := 210) rfl)) (by decide) (rm31 l Z a0 hw [] a2 _ h0 n0 O0 h0.size (own_ole O0) K0.1) e101 (g := (mkF m 6 #[.val (.ref a1), .val (.ref a2)] [(.ref a2), (.ref a1)])) rfl (by rw [hml]; rfl) (argsL := [(.ref a2)]) (rest := [(.ref a1)]) (lenOf pd11 rfl) rfl (W := 1) (by show 2 * 0 + _ ≤ _; exact Nat.le_of_eq rfl) (hb hby d28_6) (by decide) (by decide) (by decide) (by decide)
  obtain ⟨rfl, Nq102, hh102⟩ := hQ102
  have N102 := Fr.app N101 (show Fr nb _ from fun y hy => Nat.le_trans hnb (Nq102 y hy))
  have NS102 := Fr.app NS101 Nq102
  obtain ⟨hx, hZ, hown, hby, hml, hnm, hret, hlk⟩ := id Cc102
  rw [hh102] at e102 B102 J102
  refine Go.of st102 ?_
  show Go p e s below _ _ _ _ T102 (mkF m 9 #[.val (.ref a1), .val (.ref a2)] [(.ref a2), (.ref a1)])
  obtain ⟨T103, h103, X103, e103, W103, st103⟩ := putF X102 hx hZ hown (host := "") (Or.inl (hw _ (List.mem_of_getElem? (i := 211) rfl))) Via.refl e102 F1 E1 (Or.inr ⟨(hw _ (List.mem_of_getElem? (i := 212) rfl)), rfl, hnm⟩) (hw _ (List.mem_of_getElem? (i := 188) rfl)) (ty := (.object "java/lang/Object")) (by decide) rfl rfl (g := (mkF m 9 #[.val (.ref a1), .val (.ref a2)] [(.ref a2), (.ref a1)])) rfl rfl (hb hby d28_9)
  have N103 := Fr.snoc X103 N102 fr_a1
  have J103 := J102.wr W103 trivial
  have B103 := B102.mono (Nat.le_of_eq W103.size.symm)
  have O103 := O0.wr W103 (Nat.le_trans hb0 fr_a1)
  have K103 := K0.wr W103 (Or.inl (List.mem_of_getElem? (i := 0) rfl))
  have Fw103 := F1.same W103
  refine Go.of (fun _ hr => st103 _ hr) ?_
  show Go p e s below _ _ _ _ T103 (mkF m 12 #[.val (.ref a1), .val (.ref a2)] [])
  refine Go.of (fun _ hr => XS.aloadN X103.here hx rfl (hb hby d28_12) rfl rfl hr) ?_
  show Go p e s below _ _ _ _ T103 (mkF m 13 #[.val (.ref a1), .val (.ref a2)] [(.ref a1)])
  obtain ⟨T104, X104, e104, st104⟩ := getS2 X103 hx hZ hown (Or.inr (hw _ (List.mem_of_getElem? (i := 213) rfl))) Via.refl e103 (S_E.ext O103.2) (g := (mkF m 13 #[.val (.ref a1), .val (.ref a2)] [(.ref a1)])) rfl (hb hby d28_13)
  refine Go.of (fun _ hr => st104 _ hr) ?_
  show Go p e s below _ _ _ _ T104 (mkF m 16 #[.val (.ref a1), .val (.ref a2)] [(.ref wE), (.ref a1)])
  have f106 := (F2.other W103 (Or.inr (slot_ne (Or.inr (hw _ (List.mem_of_getElem? (i := 215) rfl))) (Or.inr (hw _ (List.mem_of_getElem? (i := 212) rfl))) (by decide) (t := (.object "java/lang/Object")) (t' := (.object "java/lang/Object")) (by decide) (by decide))))
  have f107 := (E1.wr W103)
  obtain ⟨T105, h105, X105, e105, W105, st105⟩ := putF X104 hx hZ hown (host := "") (Or.inl (hw _ (List.mem_of_getElem? (i := 214) rfl))) Via.refl e104 f106 f107 (Or.inr ⟨(hw _ (List.mem_of_getElem? (i := 215) rfl)), rfl, hnm⟩) (hw _ (List.mem_of_getElem? (i := 188) rfl)) (ty := (.object "java/lang/Object")) (by decide) rfl rfl (g := (mkF m 16 #[.val (.ref a1), .val (.ref a2)] [(.ref wE), (.ref a1)])) rfl rfl (hb hby d28_16)
  have N105 := Fr.snoc X105 N103 fr_a1
  have J105 := J103.wr W105 trivial
  have B105 := B103.mono (Nat.le_of_eq W105.size.symm)
  have O105 := O103.wr W105 (Nat.le_trans hb0 fr_a1)
  have K105 := K103.wr W105 (Or.inl (List.mem_of_getElem? (i := 0) rfl))
  have Fw105 := f106.same W105
  refine Go.of (fun _ hr => st105 _ hr) ?_
  show Go p e s below _ _ _ _ T105 (mkF m 19 #[.val (.ref a1), .val (.ref a2)] [])
  exact Go.retV X105 hx hlk B105 J105 e105 hret (hb hby d28_19) (by decide) (by decide) (fun vm_ hw_ => ⟨rfl, N105, K105⟩)

theorem d35_0 : decode jdk_44_method_2_code 0 = .ok (.aload_n 0, 1) := by decide +kernel
theorem d35_1 : decode jdk_44_method_2_code 1 = .ok (.invokespecial 1, 3) := by decide +kernel
theorem d35_4 : decode jdk_44_method_2_code 4 = .ok (.aload_n 0, 1) := by decide +kernel
theorem d35_5 : decode jdk_44_method_2_code 5 = .ok (.aload_n 1, 1) := by decide +kernel
theorem d35_6 : decode jdk_44_method_2_code 6 = .ok (.invokestatic 7, 3) := by decide +kernel
theorem d35_9 : decode jdk_44_method_2_code 9 = .ok (.putfield 13, 3) := by decide +kernel
theorem d35_12 : decode jdk_44_method_2_code 12 = .ok (.aload_n 0, 1) := by decide +kernel
theorem d35_13 : decode jdk_44_method_2_code 13 = .ok (.aload_n 2, 1) := by decide +kernel
theorem d35_14 : decode jdk_44_method_2_code 14 = .ok (.invokestatic 7, 3) := by decide +kernel
theorem d35_17 : decode jdk_44_method_2_code 17 = .ok (.putfield 24, 3) := by decide +kernel
theorem d35_20 : decode jdk_44_method_2_code 20 = .ok (.return_, 1) := by decide +kernel
set_option maxRecDepth 65536 in
set_option maxHeartbeats 40000000 in
theorem rm35 (l : Launch) (Z : State) (a0 : Array Value) (hw : ∀ d ∈ tables_1, d.before a0 Z = true) (ws : List Jvm.Cond) (a1 a2 a3 wE : Addr) (u1 u2 : Value) (ms : List Addr) (h0 : Heap) (n0 : Nat) (O0 : Old Z n0 h0) (nb : Nat) (hb0 : n0 ≤ nb) (hnb : nb ≤ h0.size) (fr_a1 : nb ≤ a1) (hm_a1 : True) (S_E : Sta Z Z.heap "java/util/ImmutableCollections" "EMPTY" "Ljava/lang/Object;" (.ref wE)) (E1 : Exa Z h0 a1 "java/util/ImmutableCollections$List12") (F1 : Fld Z h0 a1 "java/util/ImmutableCollections$List12" "e0" "Ljava/lang/Object;" u1) (F2 : Fld Z h0 a1 "java/util/ImmutableCollections$List12" "e1" "Ljava/lang/Object;" u2) :
    Con l Z ms (⟨"java/util/ImmutableCollections$List12", "<init>", "(Ljava/lang/Object;Ljava/lang/Object;)V"⟩ : MethodName) jdk_44_method_2_code 3 none ws ({ frames := 4, cells := 0, slots := 0, locals := 48 } : Room) #[(.ref a1), (.ref a2), (.ref a3)] h0 (fun v vm h L => v = none ∧ Fr nb L ∧ Keep h0 h [a1]) := by
  refine Con.mk (plainFor_of_name pn10) ?_
  intro p e s m below meth c s₁ Cc X0 e0 eb J0 B0 M0
  obtain ⟨hx, hZ, hown, hby, hml, hnm, hret, hlk⟩ := id Cc
  have N0 := Fr.nil nb
  have K0 := Keep.refl h0 [a1]
  show Go p e s below _ _ _ _ s₁ (mkF m 0 #[.val (.ref a1), .val (.ref a2), .val (.ref a3)] [])
  refine Go.of (fun _ hr => XS.aloadN X0.here hx rfl (hb hby d35_0) rfl rfl hr) ?_
  show Go p e s below _ _ _ _ s₁ (mkF m 1 #[.val (.ref a1), .val (.ref a2), .val (.ref a3)] [(.ref a1)])
  obtain ⟨_, b101, T101, h101, L101, e101, Cc101, X101, B101, J101, g101, hQ101, st101⟩ := own_callI Cc B0 J0 X0 rfl (hw _ (List.mem_of_getElem? (i := 194) rfl)) (hw _ (List.mem_of_getElem? (i := 195) rfl)) (hw _ (List.mem_of_getElem? (i := 198) rfl)) (hw _ (List.mem_of_getElem? (i := 199) rfl)) (by decide) (rm29 l Z a0 hw [] a1 _ h0 n0 O0 h0.size (own_ole O0) K0.1) e0 (g := (mkF m 1 #[.val (.ref a1), .val (.ref a2), .val (.ref a3)] [(.ref a1)])) rfl (by rw [hml]; rfl) (argsL := []) (rest := []) (lenOf pd4 rfl) rfl (W := 0) (by show 2 * 0 + _ ≤ _; exact Nat.le_of_eq rfl) (hb hby d35_1) (by decide) (by decide) (by decide) (by decide)
  obtain ⟨rfl, Nq101, hh101⟩ := hQ101
  have N101 := Fr.app N0 (show Fr nb _ from fun y hy => Nat.le_trans hnb (Nq101 y hy))
  have NS101 := Fr.app (Fr.nil _) Nq101
  obtain ⟨hx, hZ, hown, hby, hml, hnm, hret, hlk⟩ := id Cc101
  rw [hh101] at e101 B101 J101
  refine Go.of st101 ?_
  show Go p e s below _ _ _ _ T101 (mkF m 4 #[.val (.ref a1), .val (.ref a2), .val (.ref a3)] [])
  refine Go.of (fun _ hr => XS.aloadN X101.here hx rfl (hb hby d35_4) rfl rfl hr) ?_
  show Go p e s below _ _ _ _ T101 (mkF m 5 #[.val (.ref a1), .val (.ref a2), .val (.ref a3)] [(.ref a1)])
  refine Go.of (fun _ hr => XS.aloadN X101.here hx rfl (hb hby d35_5) rfl rfl hr) ?_
  show Go p e s below _ _ _ _ T101 (mkF m 6 #[.val (.ref a1), .val (.ref a2), .val (.ref a3)] [(.ref a2), (.ref a1)])
  obtain ⟨_, b102, T102, h102, L102, e102, Cc102, X102, B102, J102, g102, hQ102, st102⟩ := own_callS Cc101 B101 J101 X101 (hw _ (List.mem_of_getElem? (i := 208) rfl)) (hw _ (List.mem_of_getElem? (i := 209) rfl)) (hw _ (List.mem_of_getElem? (i := 38) rfl)) (hw _ (List.mem_of_getElem? (i := 210) rfl)) (by decide) (rm31 l Z a0 hw [] a2 _ h0 n0 O0 h0.size (own_ole O0) K0.1) e101 (g := (mkF m 6 #[.val (.ref a1), .val (.ref a2), .val (.ref a3)] [(.ref a2), (.ref a1)])) rfl (by rw [hml]; rfl) (argsL := [(.ref a2)]) (rest := [(.ref a1)]) (lenOf pd11 rfl) rfl (W := 1) (by show 2 * 0 + _ ≤ _; exact Nat.le_of_eq rfl) (hb hby d35_6) (by decide) (by decide) (by decide) (by decide)
  obtain ⟨rfl, Nq102, hh102⟩ := hQ102
  have N102 := Fr.app N101 (show Fr nb _ from fun y hy => Nat.le_trans hnb (Nq102 y hy))
  have NS102 := Fr.app NS101 Nq102
  obtain ⟨hx, hZ, hown, hby, hml, hnm, hret, hlk⟩ := id Cc102
  rw [hh102] at e102 B102 J102
  refine Go.of st102 ?_
  show Go p e s below _ _ _ _ T102 (mkF m 9 #[.val (.ref a1), .val (.ref a2), .val (.ref a3)] [(.ref a2), (.ref a1)])
  obtain ⟨T103, h103, X103, e103, W103, st103⟩ := putF X102 hx hZ hown (host := "") (Or.inl (hw _ (List.mem_of_getElem? (i := 211) rfl))) Via.refl e102 F1 E1 (Or.inr ⟨(hw _ (List.mem_of_getElem? (i := 212) rfl)), rfl, hnm⟩) (hw _ (List.mem_of_getElem? (i := 188) rfl)) (ty := (.object "java/lang/Object")) (by decide) rfl rfl (g := (mkF m 9 #[.val (.ref a1), .val (.ref a2), .val (.ref a3)] [(.ref a2), (.ref a1)])) rfl rfl (hb hby d35_9)
  have N103 := Fr.snoc X103 N102 fr_a1
  have J103 := J102.wr W103 trivial
  have B103 := B102.mono (Nat.le_of_eq W103.size.symm)
  have O103 := O0.wr W103 (Nat.le_trans hb0 fr_a1)
  have K103 := K0.wr W103 (Or.inl (List.mem_of_getElem? (i := 0) rfl))
  have Fw103 := F1.same W103
  refine Go.of (fun _ hr => st103 _ hr) ?_
  show Go p e s below _ _ _ _ T103 (mkF m 12 #[.val (.ref a1), .val (.ref a2), .val (.ref a3)] [])
  refine Go.of (fun _ hr => XS.aloadN X103.here hx rfl (hb hby d35_12) rfl rfl hr) ?_
  show Go p e s below _ _ _ _ T103 (mkF m 13 #[.val (.ref a1), .val (.ref a2), .val (.ref a3)] [(.ref a1)])
  refine Go.of (fun _ hr => XS.aloadN X103.here hx rfl (hb hby d35_13) rfl rfl hr) ?_
  show Go p e s below _ _ _ _ T103 (mkF m 14 #[.val (.ref a1), .val (.ref a2), .val (.ref a3)] [(.ref a3), (.ref a1)])
  obtain ⟨_, b104, T104, h104, L104, e104, Cc104, X104, B104, J104, g104, hQ104, st104⟩ := own_callS Cc102 B103 J103 X103 (hw _ (List.mem_of_getElem? (i := 208) rfl)) (hw _ (List.mem_of_getElem? (i := 209) rfl)) (hw _ (List.mem_of_getElem? (i := 38) rfl)) (hw _ (List.mem_of_getElem? (i := 210) rfl)) (by decide) (rm31 l Z a0 hw [] a3 _ h103 n0 O103 h0.size (own_ole O0) K103.1) e103 (g := (mkF m 14 #[.val (.ref a1), .val (.ref a2), .val (.ref a3)] [(.ref a3), (.ref a1)])) rfl (by rw [hml]; rfl) (argsL := [(.ref a3)]) (rest := [(.ref a1)]) (lenOf pd11 rfl) rfl (W := 1) (by show 2 * 0 + _ ≤ _; exact Nat.le_of_eq rfl) (hb hby d35_14) (by decide) (by decide) (by decide) (by decide)
  obtain ⟨rfl, Nq104, hh104⟩ := hQ104
  have N104 := Fr.app N103 (show Fr nb _ from fun y hy => Nat.le_trans hnb (Nq104 y hy))
  obtain ⟨hx, hZ, hown, hby, hml, hnm, hret, hlk⟩ := id Cc104
  rw [hh104] at e104 B104 J104
  refine Go.of st104 ?_
  show Go p e s below _ _ _ _ T104 (mkF m 17 #[.val (.ref a1), .val (.ref a2), .val (.ref a3)] [(.ref a3), (.ref a1)])
  have f106 := (F2.other W103 (Or.inr (slot_ne (Or.inr (hw _ (List.mem_of_getElem? (i := 215) rfl))) (Or.inr (hw _ (List.mem_of_getElem? (i := 212) rfl))) (by decide) (t := (.object "java/lang/Object")) (t' := (.object "java/lang/Object")) (by decide) (by decide))))
  have f107 := (E1.wr W103)
  obtain ⟨T105, h105, X105, e105, W105, st105⟩ := putF X104 hx hZ hown (host := "") (Or.inl (hw _ (List.mem_of_getElem? (i := 214) rfl))) Via.refl e104 f106 f107 (Or.inr ⟨(hw _ (List.mem_of_getElem? (i := 215) rfl)), rfl, hnm⟩) (hw _ (List.mem_of_getElem? (i := 188) rfl)) (ty := (.object "java/lang/Object")) (by decide) rfl rfl (g := (mkF m 17 #[.val (.ref a1), .val (.ref a2), .val (.ref a3)] [(.ref a3), (.ref a1)])) rfl rfl (hb hby d35_17)
  have N105 := Fr.snoc X105 N104 fr_a1
  have J105 := J104.wr W105 trivial
  have B105 := B104.mono (Nat.le_of_eq W105.size.symm)
  have O105 := O103.wr W105 (Nat.le_trans hb0 fr_a1)
  have K105 := K103.wr W105 (Or.inl (List.mem_of_getElem? (i := 0) rfl))
  have Fw105 := f106.same W105
  refine Go.of (fun _ hr => st105 _ hr) ?_
  show Go p e s below _ _ _ _ T105 (mkF m 20 #[.val (.ref a1), .val (.ref a2), .val (.ref a3)] [])
  exact Go.retV X105 hx hlk B105 J105 e105 hret (hb hby d35_20) (by decide) (by decide) (fun vm_ hw_ => ⟨rfl, N105, K105⟩)

theorem pn11 : plainName "java/util/ImmutableCollections$ListN" = true := by first | (simp [plainName, overriddenIn]; done) | decide +kernel
theorem d34_0 : decode jdk_45_method_1_code 0 = .ok (.aload_n 0, 1) := by decide +kernel
theorem d34_1 : decode jdk_45_method_1_code 1 = .ok (.invokespecial 1, 3) := by decide +kernel
theorem d34_4 : decode jdk_45_method_1_code 4 = .ok (.aload_n 0, 1) := by decide +kernel
theorem d34_5 : decode jdk_45_method_1_code 5 = .ok (.aload_n 1, 1) := by decide +kernel
theorem d34_6 : decode jdk_45_method_1_code 6 = .ok (.putfield 7, 3) := by decide +kernel
theorem d34_9 : decode jdk_45_method_1_code 9 = .ok (.aload_n 0, 1) := by decide +kernel
theorem d34_10 : decode jdk_45_method_1_code 10 = .ok (.iload_n 2, 1) := by decide +kernel
theorem d34_11 : decode jdk_45_method_1_code 11 = .ok (.putfield 13, 3) := by decide +kernel
theorem d34_14 : decode jdk_45_method_1_code 14 = .ok (.return_, 1) := by decide +kernel
set_option maxRecDepth 65536 in
set_option maxHeartbeats 40000000 in
theorem rm34 (l : Launch) (Z : State) (a0 : Array Value) (hw : ∀ d ∈ tables_1, d.before a0 Z = true) (ws : List Jvm.Cond) (a1 a2 : Addr) (u1 u2 : Value) (ms : List Addr) (h0 : Heap) (n0 : Nat) (O0 : Old Z n0 h0) (nb : Nat) (hb0 : n0 ≤ nb) (hnb : nb ≤ h0.size) (fr_a1 : nb ≤ a1) (hm_a1 : True) (E1 : Exa Z h0 a1 "java/util/ImmutableCollections$ListN") (F1 : Fld Z h0 a1 "java/util/ImmutableCollections$ListN" "elements" "[Ljava/lang/Object;" u1) (F2 : Fld Z h0 a1 "java/util/ImmutableCollections$ListN" "allowNulls" "Z" u2) :
    Con l Z ms (⟨"java/util/ImmutableCollections$ListN", "<init>", "([Ljava/lang/Object;Z)V"⟩ : MethodName) jdk_45_method_1_code 3 none ws ({ frames := 4, cells := 0, slots := 0, locals := 48 } : Room) #[(.ref a1), (.ref a2), (.int (0 : Int32))] h0 (fun v vm h L => v = none ∧ Fr nb L ∧ Keep h0 h [a1] ∧ Fld Z h a1 "java/util/ImmutableCollections$ListN" "elements" "[Ljava/lang/Object;" (.ref a2)) := by
  refine Con.mk (plainFor_of_name pn11) ?_
  intro p e s m below meth c s₁ Cc X0 e0 eb J0 B0 M0
  obtain ⟨hx, hZ, hown, hby, hml, hnm, hret, hlk⟩ := id Cc
  have N0 := Fr.nil nb
  have K0 := Keep.refl h0 [a1]
  show Go p e s below _ _ _ _ s₁ (mkF m 0 #[.val (.ref a1), .val (.ref a2), .val (.int (0 : Int32))] [])
  refine Go.of (fun _ hr => XS.aloadN X0.here hx rfl (hb hby d34_0) rfl rfl hr) ?_
  show Go p e s below _ _ _ _ s₁ (mkF m 1 #[.val (.ref a1), .val (.ref a2), .val (.int (0 : Int32))] [(.ref a1)])
  obtain ⟨_, b101, T101, h101, L101, e101, Cc101, X101, B101, J101, g101, hQ101, st101⟩ := own_callI Cc B0 J0 X0 rfl (hw _ (List.mem_of_getElem? (i := 232) rfl)) (hw _ (List.mem_of_getElem? (i := 195) rfl)) (hw _ (List.mem_of_getElem? (i := 198) rfl)) (hw _ (List.mem_of_getElem? (i := 199) rfl)) (by decide) (rm29 l Z a0 hw [] a1 _ h0 n0 O0 h0.size (own_ole O0) K0.1) e0 (g := (mkF m 1 #[.val (.ref a1), .val (.ref a2), .val (.int (0 : Int32))] [(.ref a1)])) rfl (by rw [hml]; rfl) (argsL := []) (rest := []) (lenOf pd4 rfl) rfl (W := 0) (by show 2 * 0 + _ ≤ _; exact Nat.le_of_eq rfl) (hb hby d34_1) (by decide) (by decide) (by decide) (by decide)
  obtain ⟨rfl, Nq101, hh101⟩ := hQ101
  have N101 := Fr.app N0 (show Fr nb _ from fun y hy => Nat.le_trans hnb (Nq101 y hy))
  have NS101 := Fr.app (Fr.nil _) Nq101
  obtain ⟨hx, hZ, hown, hby, hml, hnm, hret, hlk⟩ := id Cc101
  rw [hh101] at e101 B101 J101
  refine Go.of st101 ?_
  show Go p e s below _ _ _ _ T101 (mkF m 4 #[.val (.ref a1), .val (.ref a2), .val (.int (0 : Int32))] [])
  refine Go.of (fun _ hr => XS.aloadN X101.here hx rfl (hb hby d34_4) rfl rfl hr) ?_
  show Go p e s below _ _ _ _ T101 (mkF m 5 #[.val (.ref a1), .val (.ref a2), .val (.int (0 : Int32))] [(.ref a1)])
  refine Go.of (fun _ hr => XS.aloadN X101.here hx rfl (hb hby d34_5) rfl rfl hr) ?_
  show Go p e s below _ _ _ _ T101 (mkF m 6 #[.val (.ref a1), .val (.ref a2), .val (.int (0 : Int32))] [(.ref a2), (.ref a1)])
  obtain ⟨T102, h102, X102, e102, W102, st102⟩ := putF X101 hx hZ hown (host := "") (Or.inl (hw _ (List.mem_of_getElem? (i := 123) rfl))) Via.refl e101 F1 E1 (Or.inr ⟨(hw _ (List.mem_of_getElem? (i := 124) rfl)), rfl, hnm⟩) (hw _ (List.mem_of_getElem? (i := 227) rfl)) (ty := (.array (.object "java/lang/Object"))) (by decide) rfl rfl (g := (mkF m 6 #[.val (.ref a1), .val (.ref a2), .val (.int (0 : Int32))] [(.ref a2), (.ref a1)])) rfl rfl (hb hby d34_6)
  have N102 := Fr.snoc X102 N101 fr_a1
  have J102 := J101.wr W102 trivial
  have B102 := B101.mono (Nat.le_of_eq W102.size.symm)
  have O102 := O0.wr W102 (Nat.le_trans hb0 fr_a1)
  have K102 := K0.wr W102 (Or.inl (List.mem_of_getElem? (i := 0) rfl))
  have Fw102 := F1.same W102
  refine Go.of (fun _ hr => st102 _ hr) ?_
  show Go p e s below _ _ _ _ T102 (mkF m 9 #[.val (.ref a1), .val (.ref a2), .val (.int (0 : Int32))] [])
  refine Go.of (fun _ hr => XS.aloadN X102.here hx rfl (hb hby d34_9) rfl rfl hr) ?_
  show Go p e s below _ _ _ _ T102 (mkF m 10 #[.val (.ref a1), .val (.ref a2), .val (.int (0 : Int32))] [(.ref a1)])
  refine Go.of (fun _ hr => XS.iloadN X102.here hx rfl (hb hby d34_10) rfl  hr) ?_
  show Go p e s below _ _ _ _ T102 (mkF m 11 #[.val (.ref a1), .val (.ref a2), .val (.int (0 : Int32))] [(.int (0 : Int32)), (.ref a1)])
  have f104 := (F2.other W102 (Or.inr (slot_ne (Or.inr (hw _ (List.mem_of_getElem? (i := 237) rfl))) (Or.inr (hw _ (List.mem_of_getElem? (i := 124) rfl))) (by decide) (t := .boolean) (t' := (.array (.object "java/lang/Object"))) (by decide) (by decide))))
  have f105 := (E1.wr W102)
  obtain ⟨T103, h103, X103, e103, W103, st103⟩ := putFN X102 hx hZ hown (hw _ (List.mem_of_getElem? (i := 236) rfl)) Via.refl e102 f104 f105 (Or.inr ⟨(hw _ (List.mem_of_getElem? (i := 237) rfl)), rfl, hnm⟩) (hw _ (List.mem_of_getElem? (i := 227) rfl)) (ty := .boolean) (v' := (.int (0 : Int32))) (by decide) rfl rfl (g := (mkF m 11 #[.val (.ref a1), .val (.ref a2), .val (.int (0 : Int32))] [(.int (0 : Int32)), (.ref a1)])) rfl rfl (hb hby d34_11)
  have N103 := Fr.snoc X103 N102 fr_a1
  have J103 := J102.wr W103 trivial
  have B103 := B102.mono (Nat.le_of_eq W103.size.symm)
  have O103 := O102.wr W103 (Nat.le_trans hb0 fr_a1)
  have K103 := K102.wr W103 (Or.inl (List.mem_of_getElem? (i := 0) rfl))
  have Fw103 := f104.same W103
  refine Go.of (fun _ hr => st103 _ hr) ?_
  show Go p e s below _ _ _ _ T103 (mkF m 14 #[.val (.ref a1), .val (.ref a2), .val (.int (0 : Int32))] [])
  have f106 := (Fw102.other W103 (Or.inr (slot_ne (Or.inr (hw _ (List.mem_of_getElem? (i := 124) rfl))) (Or.inr (hw _ (List.mem_of_getElem? (i := 237) rfl))) (by decide) (t := (.array (.object "java/lang/Object"))) (t' := .boolean) (by decide) (by decide))))
  exact Go.retV X103 hx hlk B103 J103 e103 hret (hb hby d34_14) (by decide) (by decide) (fun vm_ hw_ => ⟨rfl, N103, K103, f106⟩)

theorem pn12 : plainName "java/util/ImmutableCollections" = true := by first | (simp [plainName, overriddenIn]; done) | decide +kernel
theorem d33_0 : decode jdk_56_method_4_code 0 = .ok (.aload_n 0, 1) := by decide +kernel
theorem d33_1 : decode jdk_56_method_4_code 1 = .ok (.arraylength, 1) := by decide +kernel
theorem d33_2 : decode jdk_56_method_4_code 2 = .ok (.anewarray 2, 3) := by decide +kernel
theorem d33_5 : decode jdk_56_method_4_code 5 = .ok (.astore_n 1, 1) := by decide +kernel
theorem d33_6 : decode jdk_56_method_4_code 6 = .ok (.iconst 0, 1) := by decide +kernel
theorem d33_7 : decode jdk_56_method_4_code 7 = .ok (.istore_n 2, 1) := by decide +kernel
theorem d33_8 : decode jdk_56_method_4_code 8 = .ok (.iload_n 2, 1) := by decide +kernel
theorem d33_9 : decode jdk_56_method_4_code 9 = .ok (.aload_n 0, 1) := by decide +kernel
theorem d33_10 : decode jdk_56_method_4_code 10 = .ok (.arraylength, 1) := by decide +kernel
theorem d33_11 : decode jdk_56_method_4_code 11 = .ok (.if_icmp .ge 18, 3) := by decide +kernel
theorem d33_14 : decode jdk_56_method_4_code 14 = .ok (.aload_n 1, 1) := by decide +kernel
theorem d33_15 : decode jdk_56_method_4_code 15 = .ok (.iload_n 2, 1) := by decide +kernel
theorem d33_16 : decode jdk_56_method_4_code 16 = .ok (.aload_n 0, 1) := by decide +kernel
theorem d33_17 : decode jdk_56_method_4_code 17 = .ok (.iload_n 2, 1) := by decide +kernel
theorem d33_18 : decode jdk_56_method_4_code 18 = .ok (.aaload, 1) := by decide +kernel
theorem d33_19 : decode jdk_56_method_4_code 19 = .ok (.invokestatic 37, 3) := by decide +kernel
theorem d33_22 : decode jdk_56_method_4_code 22 = .ok (.aastore, 1) := by decide +kernel
theorem d33_23 : decode jdk_56_method_4_code 23 = .ok (.iinc 2 1, 3) := by decide +kernel
theorem d33_26 : decode jdk_56_method_4_code 26 = .ok (.goto (-18), 3) := by decide +kernel
theorem d33_29 : decode jdk_56_method_4_code 29 = .ok (.new 12, 3) := by decide +kernel
theorem d33_32 : decode jdk_56_method_4_code 32 = .ok (.dup, 1) := by decide +kernel
theorem d33_33 : decode jdk_56_method_4_code 33 = .ok (.aload_n 1, 1) := by decide +kernel
theorem d33_34 : decode jdk_56_method_4_code 34 = .ok (.iconst 0, 1) := by decide +kernel
theorem d33_35 : decode jdk_56_method_4_code 35 = .ok (.invokespecial 43, 3) := by decide +kernel
theorem pd12 : parseMethodDescriptor "([Ljava/lang/Object;Z)V" = some ⟨[(.array (.object "java/lang/Object")), .boolean], none⟩ := by decide +kernel
theorem d33_38 : decode jdk_56_method_4_code 38 = .ok (.areturn, 1) := by decide +kernel
set_option maxRecDepth 65536 in
set_option maxHeartbeats 40000000 in
theorem rm33 (l : Launch) (Z : State) (a0 : Array Value) (hw : ∀ d ∈ tables_1, d.before a0 Z = true) (ws : List Jvm.Cond) (a1 e1 : Addr) (k1 : ClassId) (ms : List Addr) (h0 : Heap) (n0 : Nat) (O0 : Old Z n0 h0) (nb : Nat) (hb0 : n0 ≤ nb) (hnb : nb ≤ h0.size) (V1 : Arv Z h0 a1 k1 (.object "java/lang/Object") 3 [(.ref e1), (.ref e1), (.ref e1)] .null) (Ee : Exa Z h0 e1 "com/example/dispatcher/dispatcher/web/FieldError") :
    Con l Z ms (⟨"java/util/ImmutableCollections", "listFromArray", "([Ljava/lang/Object;)Ljava/util/List;"⟩ : MethodName) jdk_56_method_4_code 3 (some (.object "java/util/List")) ws ({ frames := 5, cells := 2, slots := 5, locals := 63 } : Room) #[(.ref a1)] h0 (fun v vm h L => ∃ r el ke, v = some (.ref r) ∧ Fr nb L ∧ Ext h0 h ∧ h0.size ≤ r ∧ h0.size ≤ el ∧ Exa Z h r "java/util/ImmutableCollections$ListN" ∧ Fld Z h r "java/util/ImmutableCollections$ListN" "elements" "[Ljava/lang/Object;" (.ref el) ∧ Arv Z h el ke (.object "java/lang/Object") 3 [(.ref e1), (.ref e1), (.ref e1)] .null) := by
  refine Con.mk (plainFor_of_name pn12) ?_
  intro p e s m below meth c s₁ Cc X0 e0 eb J0 B0 M0
  obtain ⟨hx, hZ, hown, hby, hml, hnm, hret, hlk⟩ := id Cc
  have N0 := Fr.nil h0.size
  have K0 := Keep.refl h0 []
  show Go p e s below _ _ _ _ s₁ (mkF m 0 #[.val (.ref a1), .unset, .unset] [])
  refine Go.of (fun _ hr => XS.aloadN X0.here hx rfl (hb hby d33_0) rfl rfl hr) ?_
  show Go p e s below _ _ _ _ s₁ (mkF m 1 #[.val (.ref a1), .unset, .unset] [(.ref a1)])
  obtain ⟨cl101, Ar101, q101, S101, N101_, H101, G101⟩ := id V1
  refine Go.of (fun _ hr => X0.arraylength hx (by rw [e0]; exact Ar101.1) (State.isArrayOf_alike hZ.alike Ar101.2.1) (g := (mkF m 1 #[.val (.ref a1), .unset, .unset] [(.ref a1)])) rfl rfl (hb hby d33_1) _ hr) ?_
  rw [len_of S101 N101_]
  show Go p e s below _ _ _ _ s₁ (mkF m 2 #[.val (.ref a1), .unset, .unset] [(.int (3 : Int32))])
  obtain ⟨T102, h102, k102, X102, e102, E102, A102, Ex102, Ov102, st102⟩ := newRE X0 hx hZ hown (hw _ (List.mem_of_getElem? (i := 225) rfl)) (hw _ (List.mem_of_getElem? (i := 152) rfl)) e0 (g := (mkF m 2 #[.val (.ref a1), .unset, .unset] [(.int (3 : Int32))])) rfl (hb hby d33_2) rfl (by decide) (cap := 3) (by decide) (by decide) (by decide) (by decide) (ad := "[Ljava/lang/Object;") (by decide)
  obtain ⟨o102, g102⟩ : ∃ z, z = h0.size := ⟨_, rfl⟩
  rw [← g102] at A102 Ex102 st102
  have ne_e1_o102 : e1 ≠ o102 := Nat.ne_of_lt (Nat.lt_of_lt_of_le Ee.lt (Nat.le_of_eq g102.symm))
  have ne_a1_o102 : a1 ≠ o102 := Nat.ne_of_lt (Nat.lt_of_lt_of_le V1.lt (Nat.le_of_eq g102.symm))
  have V102 : Arv Z h102 o102 k102 (.object "java/lang/Object") (3 : Int32) [.null, .null, .null] .null := (Arv.new A102 (by decide)).pad (pad_rep [] .null 3)
  have lt102 : o102 < h102.size := A102.lt
  have J102 := J0.add E102 g102 lt102
  have B102 := B0.mono E102.1
  have O102 := O0.ext E102
  have sz102 : h0.size ≤ o102 := Nat.le_trans K0.1 (Nat.le_of_eq g102.symm)
  have fr102 : h0.size ≤ o102 := sz102
  have K102 := K0.ext E102
  refine Go.of (fun _ hr => st102 _ hr) ?_
  show Go p e s below _ _ _ _ T102 (mkF m 5 #[.val (.ref a1), .unset, .unset] [(.ref o102)])
  refine Go.of (fun _ hr => XS.astoreN X102.here hx rfl (hb hby d33_5) rfl rfl (l' := #[.val (.ref a1), .val (.ref o102), .unset]) rfl hr) ?_
  show Go p e s below _ _ _ _ T102 (mkF m 6 #[.val (.ref a1), .val (.ref o102), .unset] [])
  refine Go.of (fun _ hr => XS.iconst X102.here hx rfl (hb hby d33_6) hr) ?_
  show Go p e s below _ _ _ _ T102 (mkF m 7 #[.val (.ref a1), .val (.ref o102), .unset] [(.int (0 : Int32))])
  refine Go.of (fun _ hr => XS.istoreN X102.here hx rfl (hb hby d33_7) rfl (l' := #[.val (.ref a1), .val (.ref o102), .val (.int (0 : Int32))]) rfl hr) ?_
  show Go p e s below _ _ _ _ T102 (mkF m 8 #[.val (.ref a1), .val (.ref o102), .val (.int (0 : Int32))] [])
  refine Go.of (fun _ hr => XS.iloadN X102.here hx rfl (hb hby d33_8) rfl  hr) ?_
  show Go p e s below _ _ _ _ T102 (mkF m 9 #[.val (.ref a1), .val (.ref o102), .val (.int (0 : Int32))] [(.int (0 : Int32))])
  refine Go.of (fun _ hr => XS.aloadN X102.here hx rfl (hb hby d33_9) rfl rfl hr) ?_
  show Go p e s below _ _ _ _ T102 (mkF m 10 #[.val (.ref a1), .val (.ref o102), .val (.int (0 : Int32))] [(.ref a1), (.int (0 : Int32))])
  have f104 := (V1.ext E102)
  obtain ⟨cl103, Ar103, q103, S103, N103_, H103, G103⟩ := id f104
  refine Go.of (fun _ hr => X102.arraylength hx (by rw [e102]; exact Ar103.1) (State.isArrayOf_alike hZ.alike Ar103.2.1) (g := (mkF m 10 #[.val (.ref a1), .val (.ref o102), .val (.int (0 : Int32))] [(.ref a1), (.int (0 : Int32))])) rfl rfl (hb hby d33_10) _ hr) ?_
  rw [len_of S103 N103_]
  show Go p e s below _ _ _ _ T102 (mkF m 11 #[.val (.ref a1), .val (.ref o102), .val (.int (0 : Int32))] [(.int (3 : Int32)), (.int (0 : Int32))])
  refine Go.of (fun _ hr => XS.icmpNo X102.here hx rfl (hb hby d33_11) rfl (tlt (by decide : ((0 : Int32) < (3 : Int32)))).2.1 hr) ?_
  show Go p e s below _ _ _ _ T102 (mkF m 14 #[.val (.ref a1), .val (.ref o102), .val (.int (0 : Int32))] [])
  refine Go.of (fun _ hr => XS.aloadN X102.here hx rfl (hb hby d33_14) rfl rfl hr) ?_
  show Go p e s below _ _ _ _ T102 (mkF m 15 #[.val (.ref a1), .val (.ref o102), .val (.int (0 : Int32))] [(.ref o102)])
  refine Go.of (fun _ hr => XS.iloadN X102.here hx rfl (hb hby d33_15) rfl  hr) ?_
  show Go p e s below _ _ _ _ T102 (mkF m 16 #[.val (.ref a1), .val (.ref o102), .val (.int (0 : Int32))] [(.int (0 : Int32)), (.ref o102)])
  refine Go.of (fun _ hr => XS.aloadN X102.here hx rfl (hb hby d33_16) rfl rfl hr) ?_
  show Go p e s below _ _ _ _ T102 (mkF m 17 #[.val (.ref a1), .val (.ref o102), .val (.int (0 : Int32))] [(.ref a1), (.int (0 : Int32)), (.ref o102)])
  refine Go.of (fun _ hr => XS.iloadN X102.here hx rfl (hb hby d33_17) rfl  hr) ?_
  show Go p e s below _ _ _ _ T102 (mkF m 18 #[.val (.ref a1), .val (.ref o102), .val (.int (0 : Int32))] [(.int (0 : Int32)), (.ref a1), (.int (0 : Int32)), (.ref o102)])
  obtain ⟨cl105, Ar105, q105, S105, N105_, H105, G105⟩ := id f104
  have hin105 : ¬ ((0 : Int32) < 0 ∨ cl105.slots.size ≤ ((0 : Int32)).toNatClampNeg) := inb_of S105 ⟨by decide, by decide⟩
  refine Go.of (fun _ hr => X102.aaload hx (j := (0 : Int32)) (v := (.ref e1)) (by rw [e102]; exact Ar105.1) (State.isArrayOf_alike hZ.alike Ar105.2.1) rfl Ar105.2.2 hin105 (H105.at hin105 rfl) (g := (mkF m 18 #[.val (.ref a1), .val (.ref o102), .val (.int (0 : Int32))] [(.int (0 : Int32)), (.ref a1), (.int (0 : Int32)), (.ref o102)])) rfl rfl (hb hby d33_18) _ hr) ?_
  show Go p e s below _ _ _ _ T102 (mkF m 19 #[.val (.ref a1), .val (.ref o102), .val (.int (0 : Int32))] [(.ref e1), (.int (0 : Int32)), (.ref o102)])
  obtain ⟨_, b106, T106, h106, L106, e106, Cc106, X106, B106, J106, g106, hQ106, st106⟩ := own_callS Cc B102 J102 X102 (hw _ (List.mem_of_getElem? (i := 226) rfl)) (hw _ (List.mem_of_getElem? (i := 209) rfl)) (hw _ (List.mem_of_getElem? (i := 38) rfl)) (hw _ (List.mem_of_getElem? (i := 210) rfl)) (by decide) (rm31 l Z a0 hw [] e1 _ h102 n0 O102 h0.size (own_ole O0) K102.1) e102 (g := (mkF m 19 #[.val (.ref a1), .val (.ref o102), .val (.int (0 : Int32))] [(.ref e1), (.int (0 : Int32)), (.ref o102)])) rfl (by rw [hml]; rfl) (argsL := [(.ref e1)]) (rest := [(.int (0 : Int32)), (.ref o102)]) (lenOf pd11 rfl) rfl (W := 2) (by show 2 * 0 + _ ≤ _; exact Nat.le_of_eq rfl) (hb hby d33_19) (by decide) (by decide) (by decide) (by decide)
  obtain ⟨rfl, Nq106, hh106⟩ := hQ106
  have N106 := Fr.app N0 Nq106
  obtain ⟨hx, hZ, hown, hby, hml, hnm, hret, hlk⟩ := id Cc106
  rw [hh106] at e106 B106 J106
  refine Go.of st106 ?_
  show Go p e s below _ _ _ _ T106 (mkF m 22 #[.val (.ref a1), .val (.ref o102), .val (.int (0 : Int32))] [(.ref e1), (.int (0 : Int32)), (.ref o102)])
  have f108 := (Ee.ext E102)
  obtain ⟨cl107, Ar107, q107, S107, N107_, H107, G107⟩ := id V102
  have hin107 : ¬ ((0 : Int32) < 0 ∨ cl107.slots.size ≤ ((0 : Int32)).toNatClampNeg) := inb_of S107 ⟨by decide, by decide⟩
  obtain ⟨T107, h107, X107, e107, W107, st107⟩ := stR X106 hx hZ e106 Ar107 (j := (0 : Int32)) hin107 rfl (Sto.ofV Ar107 q107 Ov102 (Ins.of_exa f108 (hw _ (List.mem_of_getElem? (i := 153) rfl)))) (g := (mkF m 22 #[.val (.ref a1), .val (.ref o102), .val (.int (0 : Int32))] [(.ref e1), (.int (0 : Int32)), (.ref o102)])) rfl rfl (hb hby d33_22)
  have V107 : Arv Z h107 o102 k102 (.object "java/lang/Object") (3 : Int32) [(.ref e1), .null, .null] .null := Arv.set Ar107 q107 S107 N107_ H107 G107 rfl W107 0 rfl (by simp)
  have N107 := Fr.snoc X107 N106 fr102
  have J107 := J106.wr W107 trivial
  have B107 := B106.mono (Nat.le_of_eq W107.size.symm)
  have O107 := O102.wr W107 (Nat.le_trans (own_ole O0) fr102)
  have K107 := K102.wr W107 (Or.inr sz102)
  refine Go.of (fun _ hr => st107 _ hr) ?_
  show Go p e s below _ _ _ _ T107 (mkF m 23 #[.val (.ref a1), .val (.ref o102), .val (.int (0 : Int32))] [])
  refine Go.of (fun _ hr => XS.iinc X107.here hx rfl (hb hby d33_23) rfl (l' := #[.val (.ref a1), .val (.ref o102), .val (.int (1 : Int32))]) rfl hr) ?_
  show Go p e s below _ _ _ _ T107 (mkF m 26 #[.val (.ref a1), .val (.ref o102), .val (.int (1 : Int32))] [])
  refine Go.of (fun _ hr => XS.goto X107.here hx rfl (pc0 := 26) (pc' := 8) rfl (hb hby d33_26) (by decide) (by decide) hr) ?_
  show Go p e s below _ _ _ _ T107 (mkF m 8 #[.val (.ref a1), .val (.ref o102), .val (.int (1 : Int32))] [])
  refine Go.of (fun _ hr => XS.iloadN X107.here hx rfl (hb hby d33_8) rfl  hr) ?_
  show Go p e s below _ _ _ _ T107 (mkF m 9 #[.val (.ref a1), .val (.ref o102), .val (.int (1 : Int32))] [(.int (1 : Int32))])
  refine Go.of (fun _ hr => XS.aloadN X107.here hx rfl (hb hby d33_9) rfl rfl hr) ?_
  show Go p e s below _ _ _ _ T107 (mkF m 10 #[.val (.ref a1), .val (.ref o102), .val (.int (1 : Int32))] [(.ref a1), (.int (1 : Int32))])
  have f110 := (f104.other W107 ne_a1_o102)
  obtain ⟨cl109, Ar109, q109, S109, N109_, H109, G109⟩ := id f110
  refine Go.of (fun _ hr => X107.arraylength hx (by rw [e107]; exact Ar109.1) (State.isArrayOf_alike hZ.alike Ar109.2.1) (g := (mkF m 10 #[.val (.ref a1), .val (.ref o102), .val (.int (1 : Int32))] [(.ref a1), (.int (1 : Int32))])) rfl rfl (hb hby d33_10) _ hr) ?_
  rw [len_of S109 N109_]
  show Go p e s below _ _ _ _ T107 (mkF m 11 #[.val (.ref a1), .val (.ref o102), .val (.int (1 : Int32))] [(.int (3 : Int32)), (.int (1 : Int32))])
  refine Go.of (fun _ hr => XS.icmpNo X107.here hx rfl (hb hby d33_11) rfl (tlt (by decide : ((1 : Int32) < (3 : Int32)))).2.1 hr) ?_
  show Go p e s below _ _ _ _ T107 (mkF m 14 #[.val (.ref a1), .val (.ref o102), .val (.int (1 : Int32))] [])
  refine Go.of (fun _ hr => XS.aloadN X107.here hx rfl (hb hby d33_14) rfl rfl hr) ?_
  show Go p e s below _ _ _ _ T107 (mkF m 15 #[.val (.ref a1), .val (.ref o102), .val (.int (1 : Int32))] [(.ref o102)])
  refine Go.of (fun _ hr => XS.iloadN X107.here hx rfl (hb hby d33_15) rfl  hr) ?_
  show Go p e s below _ _ _ _ T107 (mkF m 16 #[.val (.ref a1), .val (.ref o102), .val (.int (1 : Int32))] [(.int (1 : Int32)), (.ref o102)])
  refine Go.of (fun _ hr => XS.aloadN X107.here hx rfl (hb hby d33_16) rfl rfl hr) ?_
  show Go p e s below _ _ _ _ T107 (mkF m 17 #[.val (.ref a1), .val (.ref o102), .val (.int (1 : Int32))] [(.ref a1), (.int (1 : Int32)), (.ref o102)])
  refine Go.of (fun _ hr => XS.iloadN X107.here hx rfl (hb hby d33_17) rfl  hr) ?_
  show Go p e s below _ _ _ _ T107 (mkF m 18 #[.val (.ref a1), .val (.ref o102), .val (.int (1 : Int32))] [(.int (1 : Int32)), (.ref a1), (.int (1 : Int32)), (.ref o102)])
  obtain ⟨cl111, Ar111, q111, S111, N111_, H111, G111⟩ := id f110
  have hin111 : ¬ ((1 : Int32) < 0 ∨ cl111.slots.size ≤ ((1 : Int32)).toNatClampNeg) := inb_of S111 ⟨by decide, by decide⟩
  refine Go.of (fun _ hr => X107.aaload hx (j := (1 : Int32)) (v := (.ref e1)) (by rw [e107]; exact Ar111.1) (State.isArrayOf_alike hZ.alike Ar111.2.1) rfl Ar111.2.2 hin111 (H111.at hin111 rfl) (g := (mkF m 18 #[.val (.ref a1), .val (.ref o102), .val (.int (1 : Int32))] [(.int (1 : Int32)), (.ref a1), (.int (1 : Int32)), (.ref o102)])) rfl rfl (hb hby d33_18) _ hr) ?_
  show Go p e s below _ _ _ _ T107 (mkF m 19 #[.val (.ref a1), .val (.ref o102), .val (.int (1 : Int32))] [(.ref e1), (.int (1 : Int32)), (.ref o102)])
  obtain ⟨_, b112, T112, h112, L112, e112, Cc112, X112, B112, J112, g112, hQ112, st112⟩ := own_callS Cc106 B107 J107 X107 (hw _ (List.mem_of_getElem? (i := 226) rfl)) (hw _ (List.mem_of_getElem? (i := 209) rfl)) (hw _ (List.mem_of_getElem? (i := 38) rfl)) (hw _ (List.mem_of_getElem? (i := 210) rfl)) (by decide) (rm31 l Z a0 hw [] e1 _ h107 n0 O107 h0.size (own_ole O0) K107.1) e107 (g := (mkF m 19 #[.val (.ref a1), .val (.ref o102), .val (.int (1 : Int32))] [(.ref e1), (.int (1 : Int32)), (.ref o102)])) rfl (by rw [hml]; rfl) (argsL := [(.ref e1)]) (rest := [(.int (1 : Int32)), (.ref o102)]) (lenOf pd11 rfl) rfl (W := 2) (by show 2 * 0 + _ ≤ _; exact Nat.le_of_eq rfl) (hb hby d33_19) (by decide) (by decide) (by decide) (by decide)
  obtain ⟨rfl, Nq112, hh112⟩ := hQ112
  have N112 := Fr.app N107 Nq112
  obtain ⟨hx, hZ, hown, hby, hml, hnm, hret, hlk⟩ := id Cc112
  rw [hh112] at e112 B112 J112
  refine Go.of st112 ?_
  show Go p e s below _ _ _ _ T112 (mkF m 22 #[.val (.ref a1), .val (.ref o102), .val (.int (1 : Int32))] [(.ref e1), (.int (1 : Int32)), (.ref o102)])
  have f114 := (f108.wr W107)
  obtain ⟨cl113, Ar113, q113, S113, N113_, H113, G113⟩ := id V107
  have hin113 : ¬ ((1 : Int32) < 0 ∨ cl113.slots.size ≤ ((1 : Int32)).toNatClampNeg) := inb_of S113 ⟨by decide, by decide⟩
  obtain ⟨T113, h113, X113, e113, W113, st113⟩ := stR X112 hx hZ e112 Ar113 (j := (1 : Int32)) hin113 rfl (Sto.ofV Ar113 q113 Ov102 (Ins.of_exa f114 (hw _ (List.mem_of_getElem? (i := 153) rfl)))) (g := (mkF m 22 #[.val (.ref a1), .val (.ref o102), .val (.int (1 : Int32))] [(.ref e1), (.int (1 : Int32)), (.ref o102)])) rfl rfl (hb hby d33_22)
  have V113 : Arv Z h113 o102 k102 (.object "java/lang/Object") (3 : Int32) [(.ref e1), (.ref e1), .null] .null := Arv.set Ar113 q113 S113 N113_ H113 G113 rfl W113 1 rfl (by simp)
  have N113 := Fr.snoc X113 N112 fr102
  have J113 := J112.wr W113 trivial
  have B113 := B112.mono (Nat.le_of_eq W113.size.symm)
  have O113 := O107.wr W113 (Nat.le_trans (own_ole O0) fr102)
  have K113 := K107.wr W113 (Or.inr sz102)
  refine Go.of (fun _ hr => st113 _ hr) ?_
  show Go p e s below _ _ _ _ T113 (mkF m 23 #[.val (.ref a1), .val (.ref o102), .val (.int (1 : Int32))] [])
  refine Go.of (fun _ hr => XS.iinc X113.here hx rfl (hb hby d33_23) rfl (l' := #[.val (.ref a1), .val (.ref o102), .val (.int (2 : Int32))]) rfl hr) ?_
  show Go p e s below _ _ _ _ T113 (mkF m 26 #[.val (.ref a1), .val (.ref o102), .val (.int (2 : Int32))] [])
  refine Go.of (fun _ hr => XS.goto X113.here hx rfl (pc0 := 26) (pc' := 8) rfl (hb hby d33_26) (by decide) (by decide) hr) ?_
  show Go p e s below _ _ _ _ T113 (mkF m 8 #[.val (.ref a1), .val (.ref o102), .val (.int (2 : Int32))] [])
  refine Go.of (fun _ hr => XS.iloadN X113.here hx rfl (hb hby d33_8) rfl  hr) ?_
  show Go p e s below _ _ _ _ T113 (mkF m 9 #[.val (.ref a1), .val (.ref o102), .val (.int (2 : Int32))] [(.int (2 : Int32))])
  refine Go.of (fun _ hr => XS.aloadN X113.here hx rfl (hb hby d33_9) rfl rfl hr) ?_
  show Go p e s below _ _ _ _ T113 (mkF m 10 #[.val (.ref a1), .val (.ref o102), .val (.int (2 : Int32))] [(.ref a1), (.int (2 : Int32))])
  have f116 := (f110.other W113 ne_a1_o102)
  obtain ⟨cl115, Ar115, q115, S115, N115_, H115, G115⟩ := id f116
  refine Go.of (fun _ hr => X113.arraylength hx (by rw [e113]; exact Ar115.1) (State.isArrayOf_alike hZ.alike Ar115.2.1) (g := (mkF m 10 #[.val (.ref a1), .val (.ref o102), .val (.int (2 : Int32))] [(.ref a1), (.int (2 : Int32))])) rfl rfl (hb hby d33_10) _ hr) ?_
  rw [len_of S115 N115_]
  show Go p e s below _ _ _ _ T113 (mkF m 11 #[.val (.ref a1), .val (.ref o102), .val (.int (2 : Int32))] [(.int (3 : Int32)), (.int (2 : Int32))])
  refine Go.of (fun _ hr => XS.icmpNo X113.here hx rfl (hb hby d33_11) rfl (tlt (by decide : ((2 : Int32) < (3 : Int32)))).2.1 hr) ?_
  show Go p e s below _ _ _ _ T113 (mkF m 14 #[.val (.ref a1), .val (.ref o102), .val (.int (2 : Int32))] [])
  refine Go.of (fun _ hr => XS.aloadN X113.here hx rfl (hb hby d33_14) rfl rfl hr) ?_
  show Go p e s below _ _ _ _ T113 (mkF m 15 #[.val (.ref a1), .val (.ref o102), .val (.int (2 : Int32))] [(.ref o102)])
  refine Go.of (fun _ hr => XS.iloadN X113.here hx rfl (hb hby d33_15) rfl  hr) ?_
  show Go p e s below _ _ _ _ T113 (mkF m 16 #[.val (.ref a1), .val (.ref o102), .val (.int (2 : Int32))] [(.int (2 : Int32)), (.ref o102)])
  refine Go.of (fun _ hr => XS.aloadN X113.here hx rfl (hb hby d33_16) rfl rfl hr) ?_
  show Go p e s below _ _ _ _ T113 (mkF m 17 #[.val (.ref a1), .val (.ref o102), .val (.int (2 : Int32))] [(.ref a1), (.int (2 : Int32)), (.ref o102)])
  refine Go.of (fun _ hr => XS.iloadN X113.here hx rfl (hb hby d33_17) rfl  hr) ?_
  show Go p e s below _ _ _ _ T113 (mkF m 18 #[.val (.ref a1), .val (.ref o102), .val (.int (2 : Int32))] [(.int (2 : Int32)), (.ref a1), (.int (2 : Int32)), (.ref o102)])
  obtain ⟨cl117, Ar117, q117, S117, N117_, H117, G117⟩ := id f116
  have hin117 : ¬ ((2 : Int32) < 0 ∨ cl117.slots.size ≤ ((2 : Int32)).toNatClampNeg) := inb_of S117 ⟨by decide, by decide⟩
  refine Go.of (fun _ hr => X113.aaload hx (j := (2 : Int32)) (v := (.ref e1)) (by rw [e113]; exact Ar117.1) (State.isArrayOf_alike hZ.alike Ar117.2.1) rfl Ar117.2.2 hin117 (H117.at hin117 rfl) (g := (mkF m 18 #[.val (.ref a1), .val (.ref o102), .val (.int (2 : Int32))] [(.int (2 : Int32)), (.ref a1), (.int (2 : Int32)), (.ref o102)])) rfl rfl (hb hby d33_18) _ hr) ?_
  show Go p e s below _ _ _ _ T113 (mkF m 19 #[.val (.ref a1), .val (.ref o102), .val (.int (2 : Int32))] [(.ref e1), (.int (2 : Int32)), (.ref o102)])
  obtain ⟨_, b118, T118, h118, L118, e118, Cc118, X118, B118, J118, g118, hQ118, st118⟩ := own_callS Cc112 B113 J113 X113 (hw _ (List.mem_of_getElem? (i := 226) rfl)) (hw _ (List.mem_of_getElem? (i := 209) rfl)) (hw _ (List.mem_of_getElem? (i := 38) rfl)) (hw _ (List.mem_of_getElem? (i := 210) rfl)) (by decide) (rm31 l Z a0 hw [] e1 _ h113 n0 O113 h0.size (own_ole O0) K113.1) e113 (g := (mkF m 19 #[.val (.ref a1), .val (.ref o102), .val (.int (2 : Int32))] [(.ref e1), (.int (2 : Int32)), (.ref o102)])) rfl (by rw [hml]; rfl) (argsL := [(.ref e1)]) (rest := [(.int (2 : Int32)), (.ref o102)]) (lenOf pd11 rfl) rfl (W := 2) (by show 2 * 0 + _ ≤ _; exact Nat.le_of_eq rfl) (hb hby d33_19) (by decide) (by decide) (by decide) (by decide)
  obtain ⟨rfl, Nq118, hh118⟩ := hQ118
  have N118 := Fr.app N113 Nq118
  obtain ⟨hx, hZ, hown, hby, hml, hnm, hret, hlk⟩ := id Cc118
  rw [hh118] at e118 B118 J118
  refine Go.of st118 ?_
  show Go p e s below _ _ _ _ T118 (mkF m 22 #[.val (.ref a1), .val (.ref o102), .val (.int (2 : Int32))] [(.ref e1), (.int (2 : Int32)), (.ref o102)])
  have f120 := (f114.wr W113)
  obtain ⟨cl119, Ar119, q119, S119, N119_, H119, G119⟩ := id V113
  have hin119 : ¬ ((2 : Int32) < 0 ∨ cl119.slots.size ≤ ((2 : Int32)).toNatClampNeg) := inb_of S119 ⟨by decide, by decide⟩
  obtain ⟨T119, h119, X119, e119, W119, st119⟩ := stR X118 hx hZ e118 Ar119 (j := (2 : Int32)) hin119 rfl (Sto.ofV Ar119 q119 Ov102 (Ins.of_exa f120 (hw _ (List.mem_of_getElem? (i := 153) rfl)))) (g := (mkF m 22 #[.val (.ref a1), .val (.ref o102), .val (.int (2 : Int32))] [(.ref e1), (.int (2 : Int32)), (.ref o102)])) rfl rfl (hb hby d33_22)
  have V119 : Arv Z h119 o102 k102 (.object "java/lang/Object") (3 : Int32) [(.ref e1), (.ref e1), (.ref e1)] .null := Arv.set Ar119 q119 S119 N119_ H119 G119 rfl W119 2 rfl (by simp)
  have N119 := Fr.snoc X119 N118 fr102
  have J119 := J118.wr W119 trivial
  have B119 := B118.mono (Nat.le_of_eq W119.size.symm)
  have O119 := O113.wr W119 (Nat.le_trans (own_ole O0) fr102)
  have K119 := K113.wr W119 (Or.inr sz102)
  refine Go.of (fun _ hr => st119 _ hr) ?_
  show Go p e s below _ _ _ _ T119 (mkF m 23 #[.val (.ref a1), .val (.ref o102), .val (.int (2 : Int32))] [])
  refine Go.of (fun _ hr => XS.iinc X119.here hx rfl (hb hby d33_23) rfl (l' := #[.val (.ref a1), .val (.ref o102), .val (.int (3 : Int32))]) rfl hr) ?_
  show Go p e s below _ _ _ _ T119 (mkF m 26 #[.val (.ref a1), .val (.ref o102), .val (.int (3 : Int32))] [])
  refine Go.of (fun _ hr => XS.goto X119.here hx rfl (pc0 := 26) (pc' := 8) rfl (hb hby d33_26) (by decide) (by decide) hr) ?_
  show Go p e s below _ _ _ _ T119 (mkF m 8 #[.val (.ref a1), .val (.ref o102), .val (.int (3 : Int32))] [])
  refine Go.of (fun _ hr => XS.iloadN X119.here hx rfl (hb hby d33_8) rfl  hr) ?_
  show Go p e s below _ _ _ _ T119 (mkF m 9 #[.val (.ref a1), .val (.ref o102), .val (.int (3 : Int32))] [(.int (3 : Int32))])
  refine Go.of (fun _ hr => XS.aloadN X119.here hx rfl (hb hby d33_9) rfl rfl hr) ?_
  show Go p e s below _ _ _ _ T119 (mkF m 10 #[.val (.ref a1), .val (.ref o102), .val (.int (3 : Int32))] [(.ref a1), (.int (3 : Int32))])
  have f122 := (f116.other W119 ne_a1_o102)
  obtain ⟨cl121, Ar121, q121, S121, N121_, H121, G121⟩ := id f122
  refine Go.of (fun _ hr => X119.arraylength hx (by rw [e119]; exact Ar121.1) (State.isArrayOf_alike hZ.alike Ar121.2.1) (g := (mkF m 10 #[.val (.ref a1), .val (.ref o102), .val (.int (3 : Int32))] [(.ref a1), (.int (3 : Int32))])) rfl rfl (hb hby d33_10) _ hr) ?_
  rw [len_of S121 N121_]
  show Go p e s below _ _ _ _ T119 (mkF m 11 #[.val (.ref a1), .val (.ref o102), .val (.int (3 : Int32))] [(.int (3 : Int32)), (.int (3 : Int32))])
  refine Go.of (fun _ hr => XS.icmpYes X119.here hx rfl (pc0 := 11) (pc' := 29) rfl (hb hby d33_11) rfl (flt (by decide : ¬ ((3 : Int32) < (3 : Int32)))).2.1 (by decide) (by decide) hr) ?_
  show Go p e s below _ _ _ _ T119 (mkF m 29 #[.val (.ref a1), .val (.ref o102), .val (.int (3 : Int32))] [])
  obtain ⟨T123, h123, X123, e123, E123, A123, D123, -, st123⟩ := newO X119 hx hZ hown (hw _ (List.mem_of_getElem? (i := 90) rfl)) (hw _ (List.mem_of_getElem? (i := 227) rfl)) (hw _ (List.mem_of_getElem? (i := 121) rfl)) e119 (g := (mkF m 29 #[.val (.ref a1), .val (.ref o102), .val (.int (3 : Int32))] [])) rfl (hb hby d33_29) (by decide) (by decide)
  obtain ⟨o123, g123⟩ : ∃ z, z = h119.size := ⟨_, rfl⟩
  rw [← g123] at A123 D123 st123
  have f124 := (f120.wr W119)
  have ne_e1_o123 : e1 ≠ o123 := Nat.ne_of_lt (Nat.lt_of_lt_of_le f124.lt (Nat.le_of_eq g123.symm))
  have ne_a1_o123 : a1 ≠ o123 := Nat.ne_of_lt (Nat.lt_of_lt_of_le f122.lt (Nat.le_of_eq g123.symm))
  have ne_o102_o123 : o102 ≠ o123 := Nat.ne_of_lt (Nat.lt_of_lt_of_le V119.lt (Nat.le_of_eq g123.symm))
  have lt123 : o123 < h123.size := A123.lt
  have J123 := J119.add E123 g123 lt123
  have B123 := B119.mono E123.1
  have O123 := O119.ext E123
  have sz123 : h0.size ≤ o123 := Nat.le_trans K119.1 (Nat.le_of_eq g123.symm)
  have fr123 : h0.size ≤ o123 := sz123
  have K123 := K119.ext E123
  have F123_elements : Fld Z h123 o123 "java/util/ImmutableCollections$ListN" "elements" "[Ljava/lang/Object;" .null := D123 (Or.inr (hw _ (List.mem_of_getElem? (i := 124) rfl))) (ty := (.array (.object "java/lang/Object"))) (by decide)
  have F123_allowNulls : Fld Z h123 o123 "java/util/ImmutableCollections$ListN" "allowNulls" "Z" (.int (0 : Int32)) := D123 (Or.inr (hw _ (List.mem_of_getElem? (i := 237) rfl))) (ty := .boolean) (by decide)
  refine Go.of (fun _ hr => st123 _ hr) ?_
  show Go p e s below _ _ _ _ T123 (mkF m 32 #[.val (.ref a1), .val (.ref o102), .val (.int (3 : Int32))] [(.ref o123)])
  refine Go.of (fun _ hr => XS.dup X123.here hx rfl (hb hby d33_32) rfl rfl hr) ?_
  show Go p e s below _ _ _ _ T123 (mkF m 33 #[.val (.ref a1), .val (.ref o102), .val (.int (3 : Int32))] [(.ref o123), (.ref o123)])
  refine Go.of (fun _ hr => XS.aloadN X123.here hx rfl (hb hby d33_33) rfl rfl hr) ?_
  show Go p e s below _ _ _ _ T123 (mkF m 34 #[.val (.ref a1), .val (.ref o102), .val (.int (3 : Int32))] [(.ref o102), (.ref o123), (.ref o123)])
  refine Go.of (fun _ hr => XS.iconst X123.here hx rfl (hb hby d33_34) hr) ?_
  show Go p e s below _ _ _ _ T123 (mkF m 35 #[.val (.ref a1), .val (.ref o102), .val (.int (3 : Int32))] [(.int (0 : Int32)), (.ref o102), (.ref o123), (.ref o123)])
  obtain ⟨_, b125, T125, h125, L125, e125, Cc125, X125, B125, J125, g125, hQ125, st125⟩ := own_callN Cc118 B123 J123 X123 rfl (hw _ (List.mem_of_getElem? (i := 228) rfl)) (hw _ (List.mem_of_getElem? (i := 229) rfl)) (hw _ (List.mem_of_getElem? (i := 121) rfl)) (hw _ (List.mem_of_getElem? (i := 231) rfl)) (by decide) (rm34 l Z a0 hw [] o123 o102 _ _ _ h123 n0 O123 h0.size (own_ole O0) K123.1 fr123 trivial A123 F123_elements F123_allowNulls) e123 (g := (mkF m 35 #[.val (.ref a1), .val (.ref o102), .val (.int (3 : Int32))] [(.int (0 : Int32)), (.ref o102), (.ref o123), (.ref o123)])) rfl (by rw [hml]; rfl) (argsL := [(.ref o102), (.int (0 : Int32))]) (rest := [(.ref o123)]) (lenOf pd12 rfl) rfl (W := 1) (by show 2 * 0 + _ ≤ _; exact Nat.le_of_eq rfl) (hb hby d33_35) (by decide) (by decide) (by decide) (by decide)
  obtain ⟨rfl, Nq125, Kq125, Fe125⟩ := hQ125
  have N125 := Fr.app N119 Nq125
  obtain ⟨hx, hZ, hown, hby, hml, hnm, hret, hlk⟩ := id Cc125
  have K125 := K123.trans Kq125 (allS (Or.inr sz123) all0)
  have O125 := O123.keep Kq125 (allS (Nat.le_trans (own_ole O0) fr123) all0)
  refine Go.of st125 ?_
  show Go p e s below _ _ _ _ T125 (mkF m 38 #[.val (.ref a1), .val (.ref o102), .val (.int (3 : Int32))] [(.ref o123)])
  have f126 := (A123.keep Kq125)
  have f127 := ((V119.ext E123).keep Kq125 (ninS ne_o102_o123 nin0))
  exact Go.retA X125 hx hlk B125 (J125.sub fun x hx => (List.mem_cons_of_mem _ (List.mem_cons_of_mem _ hx))) e125 hret rfl rfl (hb hby d33_38) (by decide) (by decide) (fun vm_ hw_ => ⟨_, _, _, rfl, (fun y hy => Nat.le_trans hnb (N125 y hy)), keep_ext K125, sz123, sz102, f126, Fe125, f127⟩)

theorem pn13 : plainName "java/util/List" = true := by first | (simp [plainName, overriddenIn]; done) | decide +kernel
theorem d27_0 : decode jdk_40_method_47_code 0 = .ok (.aload_n 0, 1) := by decide +kernel
theorem d27_1 : decode jdk_40_method_47_code 1 = .ok (.arraylength, 1) := by decide +kernel
theorem d27_2 : decode jdk_40_method_47_code 2 = .ok (.tableswitch 57 0 2 #[26, 32, 43], 26) := by decide +kernel
theorem d27_34 : decode jdk_40_method_47_code 34 = .ok (.new 96, 3) := by decide +kernel
theorem d27_37 : decode jdk_40_method_47_code 37 = .ok (.dup, 1) := by decide +kernel
theorem d27_38 : decode jdk_40_method_47_code 38 = .ok (.aload_n 0, 1) := by decide +kernel
theorem d27_39 : decode jdk_40_method_47_code 39 = .ok (.iconst 0, 1) := by decide +kernel
theorem d27_40 : decode jdk_40_method_47_code 40 = .ok (.aaload, 1) := by decide +kernel
theorem d27_41 : decode jdk_40_method_47_code 41 = .ok (.invokespecial 98, 3) := by decide +kernel
theorem pd13 : parseMethodDescriptor "(Ljava/lang/Object;)V" = some ⟨[(.object "java/lang/Object")], none⟩ := by decide +kernel
theorem d27_44 : decode jdk_40_method_47_code 44 = .ok (.areturn, 1) := by decide +kernel
set_option maxRecDepth 65536 in
set_option maxHeartbeats 40000000 in
theorem rmOf_1 (l : Launch) (Z : State) (a0 : Array Value) (hw : ∀ d ∈ tables_1, d.before a0 Z = true) (ws : List Jvm.Cond) (a1 e1 wE : Addr) (k1 : ClassId) (ms : List Addr) (h0 : Heap) (n0 : Nat) (O0 : Old Z n0 h0) (nb : Nat) (hb0 : n0 ≤ nb) (hnb : nb ≤ h0.size) (S_E : Sta Z Z.heap "java/util/ImmutableCollections" "EMPTY" "Ljava/lang/Object;" (.ref wE)) (V1 : Arv Z h0 a1 k1 (.object "java/lang/Object") 1 [(.ref e1)] .null) (Ee : Exa Z h0 e1 "com/example/dispatcher/dispatcher/web/FieldError") :
    Con l Z ms (⟨"java/util/List", "of", "([Ljava/lang/Object;)Ljava/util/List;"⟩ : MethodName) jdk_40_method_47_code 2 (some (.object "java/util/List")) ws ({ frames := 5, cells := 1, slots := 2, locals := 62 } : Room) #[(.ref a1)] h0 (fun v vm h L => ∃ r, v = some (.ref r) ∧ Fr nb L ∧ Ext h0 h ∧ h0.size ≤ r ∧ Exa Z h r "java/util/ImmutableCollections$List12") := by
  refine Con.mk (plainFor_of_name pn13) ?_
  intro p e s m below meth c s₁ Cc X0 e0 eb J0 B0 M0
  obtain ⟨hx, hZ, hown, hby, hml, hnm, hret, hlk⟩ := id Cc
  have N0 := Fr.nil h0.size
  have K0 := Keep.refl h0 []
  show Go p e s below _ _ _ _ s₁ (mkF m 0 #[.val (.ref a1), .unset] [])
  refine Go.of (fun _ hr => XS.aloadN X0.here hx rfl (hb hby d27_0) rfl rfl hr) ?_
  show Go p e s below _ _ _ _ s₁ (mkF m 1 #[.val (.ref a1), .unset] [(.ref a1)])
  obtain ⟨cl101, Ar101, q101, S101, N101_, H101, G101⟩ := id V1
  refine Go.of (fun _ hr => X0.arraylength hx (by rw [e0]; exact Ar101.1) (State.isArrayOf_alike hZ.alike Ar101.2.1) (g := (mkF m 1 #[.val (.ref a1), .unset] [(.ref a1)])) rfl rfl (hb hby d27_1) _ hr) ?_
  rw [len_of S101 N101_]
  show Go p e s below _ _ _ _ s₁ (mkF m 2 #[.val (.ref a1), .unset] [(.int (1 : Int32))])
  refine Go.of (fun _ hr => X0.tableswitchIn hx (g := (mkF m 2 #[.val (.ref a1), .unset] [(.int (1 : Int32))])) rfl rfl (hb hby d27_2) (by decide) (off := 32) (by decide) (show (0 : Int) ≤ ((2 : Nat) : Int) + (32) from by decide) _ hr) ?_
  show Go p e s below _ _ _ _ s₁ (mkF m 34 #[.val (.ref a1), .unset] [])
  obtain ⟨T102, h102, X102, e102, E102, A102, D102, -, st102⟩ := newO X0 hx hZ hown (hw _ (List.mem_of_getElem? (i := 187) rfl)) (hw _ (List.mem_of_getElem? (i := 188) rfl)) (hw _ (List.mem_of_getElem? (i := 189) rfl)) e0 (g := (mkF m 34 #[.val (.ref a1), .unset] [])) rfl (hb hby d27_34) (by decide) (by decide)
  obtain ⟨o102, g102⟩ : ∃ z, z = h0.size := ⟨_, rfl⟩
  rw [← g102] at A102 D102 st102
  have ne_e1_o102 : e1 ≠ o102 := Nat.ne_of_lt (Nat.lt_of_lt_of_le Ee.lt (Nat.le_of_eq g102.symm))
  have ne_a1_o102 : a1 ≠ o102 := Nat.ne_of_lt (Nat.lt_of_lt_of_le V1.lt (Nat.le_of_eq g102.symm))
  have lt102 : o102 < h102.size := A102.lt
  have J102 := J0.add E102 g102 lt102
  have B102 := B0.mono E102.1
  have O102 := O0.ext E102
  have sz102 : h0.size ≤ o102 := Nat.le_trans K0.1 (Nat.le_of_eq g102.symm)
  have fr102 : h0.size ≤ o102 := sz102
  have K102 := K0.ext E102
  have F102_e0 : Fld Z h102 o102 "java/util/ImmutableCollections$List12" "e0" "Ljava/lang/Object;" .null := D102 (Or.inr (hw _ (List.mem_of_getElem? (i := 212) rfl))) (ty := (.object "java/lang/Object")) (by decide)
  have F102_e1 : Fld Z h102 o102 "java/util/ImmutableCollections$List12" "e1" "Ljava/lang/Object;" .null := D102 (Or.inr (hw _ (List.mem_of_getElem? (i := 215) rfl))) (ty := (.object "java/lang/Object")) (by decide)
  refine Go.of (fun _ hr => st102 _ hr) ?_
  show Go p e s below _ _ _ _ T102 (mkF m 37 #[.val (.ref a1), .unset] [(.ref o102)])
  refine Go.of (fun _ hr => XS.dup X102.here hx rfl (hb hby d27_37) rfl rfl hr) ?_
  show Go p e s below _ _ _ _ T102 (mkF m 38 #[.val (.ref a1), .unset] [(.ref o102), (.ref o102)])
  refine Go.of (fun _ hr => XS.aloadN X102.here hx rfl (hb hby d27_38) rfl rfl hr) ?_
  show Go p e s below _ _ _ _ T102 (mkF m 39 #[.val (.ref a1), .unset] [(.ref a1), (.ref o102), (.ref o102)])
  refine Go.of (fun _ hr => XS.iconst X102.here hx rfl (hb hby d27_39) hr) ?_
  show Go p e s below _ _ _ _ T102 (mkF m 40 #[.val (.ref a1), .unset] [(.int (0 : Int32)), (.ref a1), (.ref o102), (.ref o102)])
  have f104 := (V1.ext E102)
  obtain ⟨cl103, Ar103, q103, S103, N103_, H103, G103⟩ := id f104
  have hin103 : ¬ ((0 : Int32) < 0 ∨ cl103.slots.size ≤ ((0 : Int32)).toNatClampNeg) := inb_of S103 ⟨by decide, by decide⟩
  refine Go.of (fun _ hr => X102.aaload hx (j := (0 : Int32)) (v := (.ref e1)) (by rw [e102]; exact Ar103.1) (State.isArrayOf_alike hZ.alike Ar103.2.1) rfl Ar103.2.2 hin103 (H103.at hin103 rfl) (g := (mkF m 40 #[.val (.ref a1), .unset] [(.int (0 : Int32)), (.ref a1), (.ref o102), (.ref o102)])) rfl rfl (hb hby d27_40) _ hr) ?_
  show Go p e s below _ _ _ _ T102 (mkF m 41 #[.val (.ref a1), .unset] [(.ref e1), (.ref o102), (.ref o102)])
  obtain ⟨_, b105, T105, h105, L105, e105, Cc105, X105, B105, J105, g105, hQ105, st105⟩ := own_callI Cc B102 J102 X102 rfl (hw _ (List.mem_of_getElem? (i := 190) rfl)) (hw _ (List.mem_of_getElem? (i := 191) rfl)) (hw _ (List.mem_of_getElem? (i := 189) rfl)) (hw _ (List.mem_of_getElem? (i := 193) rfl)) (by decide) (rm28 l Z a0 hw [] o102 e1 wE _ _ _ h102 n0 O102 h0.size (own_ole O0) K102.1 fr102 trivial S_E A102 F102_e0 F102_e1) e102 (g := (mkF m 41 #[.val (.ref a1), .unset] [(.ref e1), (.ref o102), (.ref o102)])) rfl (by rw [hml]; rfl) (argsL := [(.ref e1)]) (rest := [(.ref o102)]) (lenOf pd13 rfl) rfl (W := 1) (by show 2 * 0 + _ ≤ _; exact Nat.le_of_eq rfl) (hb hby d27_41) (by decide) (by decide) (by decide) (by decide)
  obtain ⟨rfl, Nq105, Kq105⟩ := hQ105
  have N105 := Fr.app N0 Nq105
  obtain ⟨hx, hZ, hown, hby, hml, hnm, hret, hlk⟩ := id Cc105
  have K105 := K102.trans Kq105 (allS (Or.inr sz102) all0)
  have O105 := O102.keep Kq105 (allS (Nat.le_trans (own_ole O0) fr102) all0)
  refine Go.of st105 ?_
  show Go p e s below _ _ _ _ T105 (mkF m 44 #[.val (.ref a1), .unset] [(.ref o102)])
  have f106 := (A102.keep Kq105)
  exact Go.retA X105 hx hlk B105 (J105.sub fun x hx => (List.mem_cons_of_mem _ hx)) e105 hret rfl rfl (hb hby d27_44) (by decide) (by decide) (fun vm_ hw_ => ⟨_, rfl, (fun y hy => Nat.le_trans hnb (N105 y hy)), keep_ext K105, sz102, f106⟩)

theorem d27_45 : decode jdk_40_method_47_code 45 = .ok (.new 96, 3) := by decide +kernel
theorem d27_48 : decode jdk_40_method_47_code 48 = .ok (.dup, 1) := by decide +kernel
theorem d27_49 : decode jdk_40_method_47_code 49 = .ok (.aload_n 0, 1) := by decide +kernel
theorem d27_50 : decode jdk_40_method_47_code 50 = .ok (.iconst 0, 1) := by decide +kernel
theorem d27_51 : decode jdk_40_method_47_code 51 = .ok (.aaload, 1) := by decide +kernel
theorem d27_52 : decode jdk_40_method_47_code 52 = .ok (.aload_n 0, 1) := by decide +kernel
theorem d27_53 : decode jdk_40_method_47_code 53 = .ok (.iconst 1, 1) := by decide +kernel
theorem d27_54 : decode jdk_40_method_47_code 54 = .ok (.aaload, 1) := by decide +kernel
theorem d27_55 : decode jdk_40_method_47_code 55 = .ok (.invokespecial 100, 3) := by decide +kernel
theorem pd14 : parseMethodDescriptor "(Ljava/lang/Object;Ljava/lang/Object;)V" = some ⟨[(.object "java/lang/Object"), (.object "java/lang/Object")], none⟩ := by decide +kernel
theorem d27_58 : decode jdk_40_method_47_code 58 = .ok (.areturn, 1) := by decide +kernel
set_option maxRecDepth 65536 in
set_option maxHeartbeats 40000000 in
theorem rmOf_2 (l : Launch) (Z : State) (a0 : Array Value) (hw : ∀ d ∈ tables_1, d.before a0 Z = true) (ws : List Jvm.Cond) (a1 e1 wE : Addr) (k1 : ClassId) (ms : List Addr) (h0 : Heap) (n0 : Nat) (O0 : Old Z n0 h0) (nb : Nat) (hb0 : n0 ≤ nb) (hnb : nb ≤ h0.size) (S_E : Sta Z Z.heap "java/util/ImmutableCollections" "EMPTY" "Ljava/lang/Object;" (.ref wE)) (V1 : Arv Z h0 a1 k1 (.object "java/lang/Object") 2 [(.ref e1), (.ref e1)] .null) (Ee : Exa Z h0 e1 "com/example/dispatcher/dispatcher/web/FieldError") :
    Con l Z ms (⟨"java/util/List", "of", "([Ljava/lang/Object;)Ljava/util/List;"⟩ : MethodName) jdk_40_method_47_code 2 (some (.object "java/util/List")) ws ({ frames := 5, cells := 1, slots := 2, locals := 63 } : Room) #[(.ref a1)] h0 (fun v vm h L => ∃ r, v = some (.ref r) ∧ Fr nb L ∧ Ext h0 h ∧ h0.size ≤ r ∧ Exa Z h r "java/util/ImmutableCollections$List12") := by
  refine Con.mk (plainFor_of_name pn13) ?_
  intro p e s m below meth c s₁ Cc X0 e0 eb J0 B0 M0
  obtain ⟨hx, hZ, hown, hby, hml, hnm, hret, hlk⟩ := id Cc
  have N0 := Fr.nil h0.size
  have K0 := Keep.refl h0 []
  show Go p e s below _ _ _ _ s₁ (mkF m 0 #[.val (.ref a1), .unset] [])
  refine Go.of (fun _ hr => XS.aloadN X0.here hx rfl (hb hby d27_0) rfl rfl hr) ?_
  show Go p e s below _ _ _ _ s₁ (mkF m 1 #[.val (.ref a1), .unset] [(.ref a1)])
  obtain ⟨cl101, Ar101, q101, S101, N101_, H101, G101⟩ := id V1
  refine Go.of (fun _ hr => X0.arraylength hx (by rw [e0]; exact Ar101.1) (State.isArrayOf_alike hZ.alike Ar101.2.1) (g := (mkF m 1 #[.val (.ref a1), .unset] [(.ref a1)])) rfl rfl (hb hby d27_1) _ hr) ?_
  rw [len_of S101 N101_]
  show Go p e s below _ _ _ _ s₁ (mkF m 2 #[.val (.ref a1), .unset] [(.int (2 : Int32))])
  refine Go.of (fun _ hr => X0.tableswitchIn hx (g := (mkF m 2 #[.val (.ref a1), .unset] [(.int (2 : Int32))])) rfl rfl (hb hby d27_2) (by decide) (off := 43) (by decide) (show (0 : Int) ≤ ((2 : Nat) : Int) + (43) from by decide) _ hr) ?_
  show Go p e s below _ _ _ _ s₁ (mkF m 45 #[.val (.ref a1), .unset] [])
  obtain ⟨T102, h102, X102, e102, E102, A102, D102, -, st102⟩ := newO X0 hx hZ hown (hw _ (List.mem_of_getElem? (i := 187) rfl)) (hw _ (List.mem_of_getElem? (i := 188) rfl)) (hw _ (List.mem_of_getElem? (i := 189) rfl)) e0 (g := (mkF m 45 #[.val (.ref a1), .unset] [])) rfl (hb hby d27_45) (by decide) (by decide)
  obtain ⟨o102, g102⟩ : ∃ z, z = h0.size := ⟨_, rfl⟩
  rw [← g102] at A102 D102 st102
  have ne_e1_o102 : e1 ≠ o102 := Nat.ne_of_lt (Nat.lt_of_lt_of_le Ee.lt (Nat.le_of_eq g102.symm))
  have ne_a1_o102 : a1 ≠ o102 := Nat.ne_of_lt (Nat.lt_of_lt_of_le V1.lt (Nat.le_of_eq g102.symm))
  have lt102 : o102 < h102.size := A102.lt
  have J102 := J0.add E102 g102 lt102
  have B102 := B0.mono E102.1
  have O102 := O0.ext E102
  have sz102 : h0.size ≤ o102 := Nat.le_trans K0.1 (Nat.le_of_eq g102.symm)
  have fr102 : h0.size ≤ o102 := sz102
  have K102 := K0.ext E102
  have F102_e0 : Fld Z h102 o102 "java/util/ImmutableCollections$List12" "e0" "Ljava/lang/Object;" .null := D102 (Or.inr (hw _ (List.mem_of_getElem? (i := 212) rfl))) (ty := (.object "java/lang/Object")) (by decide)
  have F102_e1 : Fld Z h102 o102 "java/util/ImmutableCollections$List12" "e1" "Ljava/lang/Object;" .null := D102 (Or.inr (hw _ (List.mem_of_getElem? (i := 215) rfl))) (ty := (.object "java/lang/Object")) (by decide)
  refine Go.of (fun _ hr => st102 _ hr) ?_
  show Go p e s below _ _ _ _ T102 (mkF m 48 #[.val (.ref a1), .unset] [(.ref o102)])
  refine Go.of (fun _ hr => XS.dup X102.here hx rfl (hb hby d27_48) rfl rfl hr) ?_
  show Go p e s below _ _ _ _ T102 (mkF m 49 #[.val (.ref a1), .unset] [(.ref o102), (.ref o102)])
  refine Go.of (fun _ hr => XS.aloadN X102.here hx rfl (hb hby d27_49) rfl rfl hr) ?_
  show Go p e s below _ _ _ _ T102 (mkF m 50 #[.val (.ref a1), .unset] [(.ref a1), (.ref o102), (.ref o102)])
  refine Go.of (fun _ hr => XS.iconst X102.here hx rfl (hb hby d27_50) hr) ?_
  show Go p e s below _ _ _ _ T102 (mkF m 51 #[.val (.ref a1), .unset] [(.int (0 : Int32)), (.ref a1), (.ref o102), (.ref o102)])
  have f104 := (V1.ext E102)
  obtain ⟨cl103, Ar103, q103, S103, N103_, H103, G103⟩ := id f104
  have hin103 : ¬ ((0 : Int32) < 0 ∨ cl103.slots.size ≤ ((0 : Int32)).toNatClampNeg) := inb_of S103 ⟨by decide, by decide⟩
  refine Go.of (fun _ hr => X102.aaload hx (j := (0 : Int32)) (v := (.ref e1)) (by rw [e102]; exact Ar103.1) (State.isArrayOf_alike hZ.alike Ar103.2.1) rfl Ar103.2.2 hin103 (H103.at hin103 rfl) (g := (mkF m 51 #[.val (.ref a1), .unset] [(.int (0 : Int32)), (.ref a1), (.ref o102), (.ref o102)])) rfl rfl (hb hby d27_51) _ hr) ?_
  show Go p e s below _ _ _ _ T102 (mkF m 52 #[.val (.ref a1), .unset] [(.ref e1), (.ref o102), (.ref o102)])
  refine Go.of (fun _ hr => XS.aloadN X102.here hx rfl (hb hby d27_52) rfl rfl hr) ?_
  show Go p e s below _ _ _ _ T102 (mkF m 53 #[.val (.ref a1), .unset] [(.ref a1), (.ref e1), (.ref o102), (.ref o102)])
  refine Go.of (fun _ hr => XS.iconst X102.here hx rfl (hb hby d27_53) hr) ?_
  show Go p e s below _ _ _ _ T102 (mkF m 54 #[.val (.ref a1), .unset] [(.int (1 : Int32)), (.ref a1), (.ref e1), (.ref o102), (.ref o102)])
  obtain ⟨cl105, Ar105, q105, S105, N105_, H105, G105⟩ := id f104
  have hin105 : ¬ ((1 : Int32) < 0 ∨ cl105.slots.size ≤ ((1 : Int32)).toNatClampNeg) := inb_of S105 ⟨by decide, by decide⟩
  refine Go.of (fun _ hr => X102.aaload hx (j := (1 : Int32)) (v := (.ref e1)) (by rw [e102]; exact Ar105.1) (State.isArrayOf_alike hZ.alike Ar105.2.1) rfl Ar105.2.2 hin105 (H105.at hin105 rfl) (g := (mkF m 54 #[.val (.ref a1), .unset] [(.int (1 : Int32)), (.ref a1), (.ref e1), (.ref o102), (.ref o102)])) rfl rfl (hb hby d27_54) _ hr) ?_
  show Go p e s below _ _ _ _ T102 (mkF m 55 #[.val (.ref a1), .unset] [(.ref e1), (.ref e1), (.ref o102), (.ref o102)])
  obtain ⟨_, b106, T106, h106, L106, e106, Cc106, X106, B106, J106, g106, hQ106, st106⟩ := own_callI Cc B102 J102 X102 rfl (hw _ (List.mem_of_getElem? (i := 238) rfl)) (hw _ (List.mem_of_getElem? (i := 239) rfl)) (hw _ (List.mem_of_getElem? (i := 189) rfl)) (hw _ (List.mem_of_getElem? (i := 240) rfl)) (by decide) (rm35 l Z a0 hw [] o102 e1 e1 wE _ _ _ h102 n0 O102 h0.size (own_ole O0) K102.1 fr102 trivial S_E A102 F102_e0 F102_e1) e102 (g := (mkF m 55 #[.val (.ref a1), .unset] [(.ref e1), (.ref e1), (.ref o102), (.ref o102)])) rfl (by rw [hml]; rfl) (argsL := [(.ref e1), (.ref e1)]) (rest := [(.ref o102)]) (lenOf pd14 rfl) rfl (W := 1) (by show 2 * 0 + _ ≤ _; exact Nat.le_of_eq rfl) (hb hby d27_55) (by decide) (by decide) (by decide) (by decide)
  obtain ⟨rfl, Nq106, Kq106⟩ := hQ106
  have N106 := Fr.app N0 Nq106
  obtain ⟨hx, hZ, hown, hby, hml, hnm, hret, hlk⟩ := id Cc106
  have K106 := K102.trans Kq106 (allS (Or.inr sz102) all0)
  have O106 := O102.keep Kq106 (allS (Nat.le_trans (own_ole O0) fr102) all0)
  refine Go.of st106 ?_
  show Go p e s below _ _ _ _ T106 (mkF m 58 #[.val (.ref a1), .unset] [(.ref o102)])
  have f107 := (A102.keep Kq106)
  exact Go.retA X106 hx hlk B106 (J106.sub fun x hx => (List.mem_cons_of_mem _ hx)) e106 hret rfl rfl (hb hby d27_58) (by decide) (by decide) (fun vm_ hw_ => ⟨_, rfl, (fun y hy => Nat.le_trans hnb (N106 y hy)), keep_ext K106, sz102, f107⟩)

theorem d27_59 : decode jdk_40_method_47_code 59 = .ok (.aload_n 0, 1) := by decide +kernel
theorem d27_60 : decode jdk_40_method_47_code 60 = .ok (.invokestatic 109, 3) := by decide +kernel
theorem pd15 : parseMethodDescriptor "([Ljava/lang/Object;)Ljava/util/List;" = some ⟨[(.array (.object "java/lang/Object"))], some (.object "java/util/List")⟩ := by decide +kernel
theorem d27_63 : decode jdk_40_method_47_code 63 = .ok (.areturn, 1) := by decide +kernel
set_option maxRecDepth 65536 in
set_option maxHeartbeats 40000000 in
theorem rmOf_3 (l : Launch) (Z : State) (a0 : Array Value) (hw : ∀ d ∈ tables_1, d.before a0 Z = true) (ws : List Jvm.Cond) (a1 e1 wE : Addr) (k1 : ClassId) (ms : List Addr) (h0 : Heap) (n0 : Nat) (O0 : Old Z n0 h0) (nb : Nat) (hb0 : n0 ≤ nb) (hnb : nb ≤ h0.size) (S_E : Sta Z Z.heap "java/util/ImmutableCollections" "EMPTY" "Ljava/lang/Object;" (.ref wE)) (V1 : Arv Z h0 a1 k1 (.object "java/lang/Object") 3 [(.ref e1), (.ref e1), (.ref e1)] .null) (Ee : Exa Z h0 e1 "com/example/dispatcher/dispatcher/web/FieldError") :
    Con l Z ms (⟨"java/util/List", "of", "([Ljava/lang/Object;)Ljava/util/List;"⟩ : MethodName) jdk_40_method_47_code 2 (some (.object "java/util/List")) ws ({ frames := 6, cells := 2, slots := 5, locals := 77 } : Room) #[(.ref a1)] h0 (fun v vm h L => ∃ r el ke, v = some (.ref r) ∧ Fr nb L ∧ Ext h0 h ∧ h0.size ≤ r ∧ h0.size ≤ el ∧ Exa Z h r "java/util/ImmutableCollections$ListN" ∧ Fld Z h r "java/util/ImmutableCollections$ListN" "elements" "[Ljava/lang/Object;" (.ref el) ∧ Arv Z h el ke (.object "java/lang/Object") 3 [(.ref e1), (.ref e1), (.ref e1)] .null) := by
  refine Con.mk (plainFor_of_name pn13) ?_
  intro p e s m below meth c s₁ Cc X0 e0 eb J0 B0 M0
  obtain ⟨hx, hZ, hown, hby, hml, hnm, hret, hlk⟩ := id Cc
  have N0 := Fr.nil h0.size
  have K0 := Keep.refl h0 []
  show Go p e s below _ _ _ _ s₁ (mkF m 0 #[.val (.ref a1), .unset] [])
  refine Go.of (fun _ hr => XS.aloadN X0.here hx rfl (hb hby d27_0) rfl rfl hr) ?_
  show Go p e s below _ _ _ _ s₁ (mkF m 1 #[.val (.ref a1), .unset] [(.ref a1)])
  obtain ⟨cl101, Ar101, q101, S101, N101_, H101, G101⟩ := id V1
  refine Go.of (fun _ hr => X0.arraylength hx (by rw [e0]; exact Ar101.1) (State.isArrayOf_alike hZ.alike Ar101.2.1) (g := (mkF m 1 #[.val (.ref a1), .unset] [(.ref a1)])) rfl rfl (hb hby d27_1) _ hr) ?_
  rw [len_of S101 N101_]
  show Go p e s below _ _ _ _ s₁ (mkF m 2 #[.val (.ref a1), .unset] [(.int (3 : Int32))])
  refine Go.of (fun _ hr => X0.tableswitchOut hx (g := (mkF m 2 #[.val (.ref a1), .unset] [(.int (3 : Int32))])) rfl rfl (hb hby d27_2) (by decide) (show (0 : Int) ≤ ((2 : Nat) : Int) + (57) from by decide) _ hr) ?_
  show Go p e s below _ _ _ _ s₁ (mkF m 59 #[.val (.ref a1), .unset] [])
  refine Go.of (fun _ hr => XS.aloadN X0.here hx rfl (hb hby d27_59) rfl rfl hr) ?_
  show Go p e s below _ _ _ _ s₁ (mkF m 60 #[.val (.ref a1), .unset] [(.ref a1)])
  obtain ⟨_, b102, T102, h102, L102, e102, Cc102, X102, B102, J102, g102, hQ102, st102⟩ := own_callS Cc B0 J0 X0 (hw _ (List.mem_of_getElem? (i := 222) rfl)) (hw _ (List.mem_of_getElem? (i := 223) rfl)) (hw _ (List.mem_of_getElem? (i := 83) rfl)) (hw _ (List.mem_of_getElem? (i := 224) rfl)) (by decide) (rm33 l Z a0 hw [] a1 e1 _ _ h0 n0 O0 h0.size (own_ole O0) K0.1 V1 Ee) e0 (g := (mkF m 60 #[.val (.ref a1), .unset] [(.ref a1)])) rfl (by rw [hml]; rfl) (argsL := [(.ref a1)]) (rest := []) (lenOf pd15 rfl) rfl (W := 0) (by show 2 * 0 + _ ≤ _; exact Nat.le_of_eq rfl) (hb hby d27_60) (by decide) (by decide) (by decide) (by decide)
  obtain ⟨r102, el102, ke102, rfl, Nq102, Eq102, R_r102, R_el102, Er102, Fe102, Ve102⟩ := hQ102
  have N102 := Fr.app N0 Nq102
  obtain ⟨hx, hZ, hown, hby, hml, hnm, hret, hlk⟩ := id Cc102
  have sz_r102 : h0.size ≤ r102 := Nat.le_trans K0.1 R_r102
  have fr_r102 : h0.size ≤ r102 := sz_r102
  have ne_e1_r102 : e1 ≠ r102 := Nat.ne_of_lt (Nat.lt_of_lt_of_le Ee.lt R_r102)
  have ne_a1_r102 : a1 ≠ r102 := Nat.ne_of_lt (Nat.lt_of_lt_of_le V1.lt R_r102)
  have sz_el102 : h0.size ≤ el102 := Nat.le_trans K0.1 R_el102
  have fr_el102 : h0.size ≤ el102 := sz_el102
  have ne_e1_el102 : e1 ≠ el102 := Nat.ne_of_lt (Nat.lt_of_lt_of_le Ee.lt R_el102)
  have ne_a1_el102 : a1 ≠ el102 := Nat.ne_of_lt (Nat.lt_of_lt_of_le V1.lt R_el102)
  have K102 := K0.ext Eq102
  have O102 := O0.ext Eq102
  refine Go.of st102 ?_
  show Go p e s below _ _ _ _ T102 (mkF m 63 #[.val (.ref a1), .unset] [(.ref r102)])
  exact Go.retA X102 hx hlk B102 J102 e102 hret rfl rfl (hb hby d27_63) (by decide) (by decide) (fun vm_ hw_ => ⟨_, _, _, rfl, (fun y hy => Nat.le_trans hnb (N102 y hy)), keep_ext K102, sz_r102, sz_el102, Er102, Fe102, Ve102⟩)

theorem d15_0 : decode jdk_40_method_36_code 0 = .ok (.getstatic 90, 3) := by decide +kernel
theorem d15_3 : decode jdk_40_method_36_code 3 = .ok (.areturn, 1) := by decide +kernel
set_option maxRecDepth 65536 in
set_option maxHeartbeats 40000000 in
theorem rm15 (l : Launch) (Z : State) (a0 : Array Value) (hw : ∀ d ∈ tables_1, d.before a0 Z = true) (ws : List Jvm.Cond) (wL : Addr) (ms : List Addr) (h0 : Heap) (n0 : Nat) (O0 : Old Z n0 h0) (nb : Nat) (hb0 : n0 ≤ nb) (hnb : nb ≤ h0.size) (S_L : Sta Z Z.heap "java/util/ImmutableCollections" "EMPTY_LIST" "Ljava/util/ImmutableCollections$ListN;" (.ref wL)) :
    Con l Z ms (⟨"java/util/List", "of", "()Ljava/util/List;"⟩ : MethodName) jdk_40_method_36_code 0 (some (.object "java/util/List")) ws ({ frames := 0, cells := 0, slots := 0, locals := 0 } : Room) #[] h0 (fun v vm h L => v = some (.ref wL) ∧ Fr nb L ∧ h = h0) := by
  refine Con.mk (plainFor_of_name pn13) ?_
  intro p e s m below meth c s₁ Cc X0 e0 eb J0 B0 M0
  obtain ⟨hx, hZ, hown, hby, hml, hnm, hret, hlk⟩ := id Cc
  have N0 := Fr.nil h0.size
  have K0 := Keep.refl h0 []
  show Go p e s below _ _ _ _ s₁ (mkF m 0 #[] [])
  obtain ⟨T101, X101, e101, st101⟩ := getS2 X0 hx hZ hown (host := "") (Or.inl (hw _ (List.mem_of_getElem? (i := 105) rfl))) Via.refl e0 (S_L.ext O0.2) (g := (mkF m 0 #[] [])) rfl (hb hby d15_0)
  refine Go.of (fun _ hr => st101 _ hr) ?_
  show Go p e s below _ _ _ _ T101 (mkF m 3 #[] [(.ref wL)])
  exact Go.retA X101 hx hlk B0 J0 e101 hret rfl rfl (hb hby d15_3) (by decide) (by decide) (fun vm_ hw_ => ⟨rfl, (fun y hy => Nat.le_trans hnb (N0 y hy)), rfl⟩)

theorem d14_0 : decode jdk_38_method_9_code 0 = .ok (.aload_n 0, 1) := by decide +kernel
theorem d14_1 : decode jdk_38_method_9_code 1 = .ok (.getfield 48, 3) := by decide +kernel
theorem d14_4 : decode jdk_38_method_9_code 4 = .ok (.ifCond .ne 7, 3) := by decide +kernel
theorem d14_7 : decode jdk_38_method_9_code 7 = .ok (.iconst 1, 1) := by decide +kernel
theorem d14_8 : decode jdk_38_method_9_code 8 = .ok (.goto 4, 3) := by decide +kernel
theorem d14_12 : decode jdk_38_method_9_code 12 = .ok (.ireturn, 1) := by decide +kernel
theorem d14_11 : decode jdk_38_method_9_code 11 = .ok (.iconst 0, 1) := by decide +kernel
set_option maxRecDepth 65536 in
set_option maxHeartbeats 40000000 in
theorem rm14 (l : Launch) (Z : State) (a0 : Array Value) (hw : ∀ d ∈ tables_1, d.before a0 Z = true) (ws : List Jvm.Cond) (a1 : Addr) (n1 : Int32) (ms : List Addr) (h0 : Heap) (n0 : Nat) (O0 : Old Z n0 h0) (nb : Nat) (hb0 : n0 ≤ nb) (hnb : nb ≤ h0.size) (F3 : Fld Z h0 a1 "java/util/ArrayList" "size" "I" (.int n1)) :
    Con l Z ms (⟨"java/util/ArrayList", "isEmpty", "()Z"⟩ : MethodName) jdk_38_method_9_code 1 (some .boolean) ws ({ frames := 0, cells := 0, slots := 0, locals := 0 } : Room) #[(.ref a1)] h0 (fun v vm h L => v = some (.int (if n1 = 0 then 1 else 0)) ∧ Fr nb L ∧ h = h0) := by
  refine Con.mk (plainFor_of_name pn6) ?_
  intro p e s m below meth c s₁ Cc X0 e0 eb J0 B0 M0
  obtain ⟨hx, hZ, hown, hby, hml, hnm, hret, hlk⟩ := id Cc
  have N0 := Fr.nil h0.size
  have K0 := Keep.refl h0 []
  show Go p e s below _ _ _ _ s₁ (mkF m 0 #[.val (.ref a1)] [])
  refine Go.of (fun _ hr => XS.aloadN X0.here hx rfl (hb hby d14_0) rfl rfl hr) ?_
  show Go p e s below _ _ _ _ s₁ (mkF m 1 #[.val (.ref a1)] [(.ref a1)])
  obtain ⟨T101, X101, e101, st101⟩ := getF X0 hx hZ hown (host := "") (Or.inl (hw _ (List.mem_of_getElem? (i := 100) rfl))) Via.refl e0 F3 (g := (mkF m 1 #[.val (.ref a1)] [(.ref a1)])) rfl rfl (hb hby d14_1)
  refine Go.of (fun _ hr => st101 _ hr) ?_
  show Go p e s below _ _ _ _ T101 (mkF m 4 #[.val (.ref a1)] [(.int n1)])
  by_cases hb4_102 : n1 = (0 : Int32)
  · refine Go.of (fun _ hr => XS.ifNo X101.here hx rfl (hb hby d14_4) rfl ((if0 _ _).trans (teq hb4_102).2) hr) ?_
    show Go p e s below _ _ _ _ T101 (mkF m 7 #[.val (.ref a1)] [])
    refine Go.of (fun _ hr => XS.iconst X101.here hx rfl (hb hby d14_7) hr) ?_
    show Go p e s below _ _ _ _ T101 (mkF m 8 #[.val (.ref a1)] [(.int (1 : Int32))])
    refine Go.of (fun _ hr => XS.goto X101.here hx rfl (pc0 := 8) (pc' := 12) rfl (hb hby d14_8) (by decide) (by decide) hr) ?_
    show Go p e s below _ _ _ _ T101 (mkF m 12 #[.val (.ref a1)] [(.int (1 : Int32))])
    exact Go.retN X101 hx hlk B0 J0 e101 (t := .boolean) (z' := (1 : Int32)) hret (by simp) (hb hby d14_12) rfl (by decide) (by decide) (fun vm_ hw_ => ⟨by simp [hb4_102], (fun y hy => Nat.le_trans hnb (N0 y hy)), rfl⟩)
  · refine Go.of (fun _ hr => XS.ifYes X101.here hx rfl (pc0 := 4) (pc' := 11) rfl (hb hby d14_4) rfl ((if0 _ _).trans (feq hb4_102).2) (by decide) (by decide) hr) ?_
    show Go p e s below _ _ _ _ T101 (mkF m 11 #[.val (.ref a1)] [])
    refine Go.of (fun _ hr => XS.iconst X101.here hx rfl (hb hby d14_11) hr) ?_
    show Go p e s below _ _ _ _ T101 (mkF m 12 #[.val (.ref a1)] [(.int (0 : Int32))])
    exact Go.retN X101 hx hlk B0 J0 e101 (t := .boolean) (z' := (0 : Int32)) hret (by simp) (hb hby d14_12) rfl (by decide) (by decide) (fun vm_ hw_ => ⟨by simp [hb4_102], (fun y hy => Nat.le_trans hnb (N0 y hy)), rfl⟩)

theorem d13_0 : decode jdk_56_method_3_code 0 = .ok (.aload_n 0, 1) := by decide +kernel
theorem d13_1 : decode jdk_56_method_3_code 1 = .ok (.instanceof 10, 3) := by decide +kernel
theorem d13_4 : decode jdk_56_method_3_code 4 = .ok (.ifCond .ne 22, 3) := by decide +kernel
theorem d13_7 : decode jdk_56_method_3_code 7 = .ok (.aload_n 0, 1) := by decide +kernel
theorem d13_8 : decode jdk_56_method_3_code 8 = .ok (.instanceof 12, 3) := by decide +kernel
theorem d13_11 : decode jdk_56_method_3_code 11 = .ok (.ifCond .eq 20, 3) := by decide +kernel
theorem d13_31 : decode jdk_56_method_3_code 31 = .ok (.aload_n 0, 1) := by decide +kernel
theorem d13_32 : decode jdk_56_method_3_code 32 = .ok (.invokeinterface 20 1, 5) := by decide +kernel
theorem pd16 : parseMethodDescriptor "()Z" = some ⟨[], some .boolean⟩ := by decide +kernel
theorem d13_37 : decode jdk_56_method_3_code 37 = .ok (.ifCond .eq 7, 3) := by decide +kernel
theorem d13_40 : decode jdk_56_method_3_code 40 = .ok (.invokestatic 26, 3) := by decide +kernel
theorem pd17 : parseMethodDescriptor "()Ljava/util/List;" = some ⟨[], some (.object "java/util/List")⟩ := by decide +kernel
theorem d13_43 : decode jdk_56_method_3_code 43 = .ok (.areturn, 1) := by decide +kernel
set_option maxRecDepth 65536 in
set_option maxHeartbeats 40000000 in
theorem rmLC_0 (l : Launch) (Z : State) (a0 : Array Value) (hw : ∀ d ∈ tables_1, d.before a0 Z = true) (ws : List Jvm.Cond) (a1 e1 mr wE wL d : Addr) (kd : ClassId) (ms : List Addr) (h0 : Heap) (n0 : Nat) (O0 : Old Z n0 h0) (nb : Nat) (hb0 : n0 ≤ nb) (hnb : nb ≤ h0.size) (S_E : Sta Z Z.heap "java/util/ImmutableCollections" "EMPTY" "Ljava/lang/Object;" (.ref wE)) (S_L : Sta Z Z.heap "java/util/ImmutableCollections" "EMPTY_LIST" "Ljava/util/ImmutableCollections$ListN;" (.ref wL)) (M : Mr Z "[Ljava/lang/Object;" mr) (E1 : Exa Z h0 a1 "java/util/ArrayList") (F3 : Fld Z h0 a1 "java/util/ArrayList" "size" "I" (.int 0)) :
    Con l Z ms (⟨"java/util/ImmutableCollections", "listCopy", "(Ljava/util/Collection;)Ljava/util/List;"⟩ : MethodName) jdk_56_method_3_code 2 (some (.object "java/util/List")) ws ({ frames := 1, cells := 0, slots := 0, locals := 24 } : Room) #[(.ref a1)] h0 (fun v vm h L => v = some (.ref wL) ∧ Fr nb L ∧ h = h0) := by
  refine Con.mk (plainFor_of_name pn12) ?_
  intro p e s m below meth c s₁ Cc X0 e0 eb J0 B0 M0
  obtain ⟨hx, hZ, hown, hby, hml, hnm, hret, hlk⟩ := id Cc
  have N0 := Fr.nil h0.size
  have K0 := Keep.refl h0 []
  show Go p e s below _ _ _ _ s₁ (mkF m 0 #[.val (.ref a1), .unset] [])
  refine Go.of (fun _ hr => XS.aloadN X0.here hx rfl (hb hby d13_0) rfl rfl hr) ?_
  show Go p e s below _ _ _ _ s₁ (mkF m 1 #[.val (.ref a1), .unset] [(.ref a1)])
  obtain ⟨T101, X101, e101, st101⟩ := instNo X0 hx hZ hown (hw _ (List.mem_of_getElem? (i := 85) rfl)) e0 E1 (ns_no (hw _ (List.mem_of_getElem? (i := 86) rfl)) (hw _ (List.mem_of_getElem? (i := 188) rfl)) (NS.step (hw _ (List.mem_of_getElem? (i := 86) rfl)) (NS.step (hw _ (List.mem_of_getElem? (i := 87) rfl)) (NS.step (hw _ (List.mem_of_getElem? (i := 88) rfl)) (ns_root (hw _ (List.mem_of_getElem? (i := 89) rfl)) (hw _ (List.mem_of_getElem? (i := 188) rfl)) (by decide)) (by decide)) (by decide)) (by decide)) (by decide)) (g := (mkF m 1 #[.val (.ref a1), .unset] [(.ref a1)])) rfl rfl (hb hby d13_1)
  refine Go.of (fun _ hr => st101 _ hr) ?_
  show Go p e s below _ _ _ _ T101 (mkF m 4 #[.val (.ref a1), .unset] [(.int (0 : Int32))])
  refine Go.of (fun _ hr => XS.ifNo X101.here hx rfl (hb hby d13_4) rfl ((if0 _ _).trans (teq (by decide : ((0 : Int32) = (0 : Int32)))).2) hr) ?_
  show Go p e s below _ _ _ _ T101 (mkF m 7 #[.val (.ref a1), .unset] [])
  refine Go.of (fun _ hr => XS.aloadN X101.here hx rfl (hb hby d13_7) rfl rfl hr) ?_
  show Go p e s below _ _ _ _ T101 (mkF m 8 #[.val (.ref a1), .unset] [(.ref a1)])
  obtain ⟨T102, X102, e102, st102⟩ := instNo X101 hx hZ hown (hw _ (List.mem_of_getElem? (i := 90) rfl)) e101 E1 (ns_no (hw _ (List.mem_of_getElem? (i := 86) rfl)) (hw _ (List.mem_of_getElem? (i := 227) rfl)) (NS.step (hw _ (List.mem_of_getElem? (i := 86) rfl)) (NS.step (hw _ (List.mem_of_getElem? (i := 87) rfl)) (NS.step (hw _ (List.mem_of_getElem? (i := 88) rfl)) (ns_root (hw _ (List.mem_of_getElem? (i := 89) rfl)) (hw _ (List.mem_of_getElem? (i := 227) rfl)) (by decide)) (by decide)) (by decide)) (by decide)) (by decide)) (g := (mkF m 8 #[.val (.ref a1), .unset] [(.ref a1)])) rfl rfl (hb hby d13_8)
  refine Go.of (fun _ hr => st102 _ hr) ?_
  show Go p e s below _ _ _ _ T102 (mkF m 11 #[.val (.ref a1), .unset] [(.int (0 : Int32))])
  refine Go.of (fun _ hr => XS.ifYes X102.here hx rfl (pc0 := 11) (pc' := 31) rfl (hb hby d13_11) rfl ((if0 _ _).trans (teq (by decide : ((0 : Int32) = (0 : Int32)))).1) (by decide) (by decide) hr) ?_
  show Go p e s below _ _ _ _ T102 (mkF m 31 #[.val (.ref a1), .unset] [])
  refine Go.of (fun _ hr => XS.aloadN X102.here hx rfl (hb hby d13_31) rfl rfl hr) ?_
  show Go p e s below _ _ _ _ T102 (mkF m 32 #[.val (.ref a1), .unset] [(.ref a1)])
  obtain ⟨_, b103, T103, h103, L103, e103, Cc103, X103, B103, J103, g103, hQ103, st103⟩ := own_callF Cc B0 J0 X102 (y := (⟨"java/util/Collection", "isEmpty", "()Z"⟩ : MethodName)) (z := (⟨"java/util/ArrayList", "isEmpty", "()Z"⟩ : MethodName)) (hw _ (List.mem_of_getElem? (i := 91) rfl)) (hw _ (List.mem_of_getElem? (i := 92) rfl)) (hw _ (List.mem_of_getElem? (i := 93) rfl)) (by first | rfl | decide +kernel) (hw _ (List.mem_of_getElem? (i := 94) rfl)) (hw _ (List.mem_of_getElem? (i := 95) rfl)) (hw _ (List.mem_of_getElem? (i := 96) rfl)) (hw _ (List.mem_of_getElem? (i := 97) rfl)) (hw _ (List.mem_of_getElem? (i := 98) rfl)) (hw _ (List.mem_of_getElem? (i := 48) rfl)) (hw _ (List.mem_of_getElem? (i := 99) rfl)) (by decide) E1 (rm14 l Z a0 hw [] a1 (0 : Int32) _ h0 n0 O0 h0.size (own_ole O0) K0.1 F3) e102 (g := (mkF m 32 #[.val (.ref a1), .unset] [(.ref a1)])) rfl (by rw [hml]; rfl) (argsL := []) (rest := []) (lenOf pd16 rfl) rfl (W := 0) (by show 2 * 0 + _ ≤ _; exact Nat.le_of_eq rfl) (hb hby d13_32) (by decide) (by decide) (by decide) (by decide)
  obtain ⟨rfl, Nq103, hh103⟩ := hQ103
  have N103 := Fr.app N0 Nq103
  obtain ⟨hx, hZ, hown, hby, hml, hnm, hret, hlk⟩ := id Cc103
  rw [hh103] at e103 B103 J103
  refine Go.of st103 ?_
  show Go p e s below _ _ _ _ T103 (mkF m 37 #[.val (.ref a1), .unset] [(.int (1 : Int32))])
  refine Go.of (fun _ hr => XS.ifNo X103.here hx rfl (hb hby d13_37) rfl ((if0 _ _).trans (feq (by decide : ¬ ((1 : Int32) = (0 : Int32)))).1) hr) ?_
  show Go p e s below _ _ _ _ T103 (mkF m 40 #[.val (.ref a1), .unset] [])
  obtain ⟨_, b104, T104, h104, L104, e104, Cc104, X104, B104, J104, g104, hQ104, st104⟩ := own_callS Cc103 B103 J103 X103 (hw _ (List.mem_of_getElem? (i := 102) rfl)) (hw _ (List.mem_of_getElem? (i := 103) rfl)) (hw _ (List.mem_of_getElem? (i := 79) rfl)) (hw _ (List.mem_of_getElem? (i := 104) rfl)) (by decide) (rm15 l Z a0 hw [] wL _ h0 n0 O0 h0.size (own_ole O0) K0.1 S_L) e103 (g := (mkF m 40 #[.val (.ref a1), .unset] [])) rfl (by rw [hml]; rfl) (argsL := []) (rest := []) (lenOf pd17 rfl) rfl (W := 0) (by show 2 * 0 + _ ≤ _; exact Nat.le_of_eq rfl) (hb hby d13_40) (by decide) (by decide) (by decide) (by decide)
  obtain ⟨rfl, Nq104, hh104⟩ := hQ104
  have N104 := Fr.app N103 Nq104
  obtain ⟨hx, hZ, hown, hby, hml, hnm, hret, hlk⟩ := id Cc104
  rw [hh104] at e104 B104 J104
  refine Go.of st104 ?_
  show Go p e s below _ _ _ _ T104 (mkF m 43 #[.val (.ref a1), .unset] [(.ref wL)])
  exact Go.retA X104 hx hlk B104 J104 e104 hret rfl rfl (hb hby d13_43) (by decide) (by decide) (fun vm_ hw_ => ⟨rfl, (fun y hy => Nat.le_trans hnb (N104 y hy)), rfl⟩)

theorem d13_44 : decode jdk_56_method_3_code 44 = .ok (.aload_n 0, 1) := by decide +kernel
theorem d13_45 : decode jdk_56_method_3_code 45 = .ok (.invokeinterface 30 1, 5) := by decide +kernel
theorem d13_50 : decode jdk_56_method_3_code 50 = .ok (.invokestatic 34, 3) := by decide +kernel
theorem d13_53 : decode jdk_56_method_3_code 53 = .ok (.areturn, 1) := by decide +kernel
set_option maxRecDepth 65536 in
set_option maxHeartbeats 40000000 in
theorem rmLC_1 (l : Launch) (Z : State) (a0 : Array Value) (hw : ∀ d ∈ tables_1, d.before a0 Z = true) (ws : List Jvm.Cond) (a1 e1 mr wE wL d : Addr) (kd : ClassId) (ms : List Addr) (h0 : Heap) (n0 : Nat) (O0 : Old Z n0 h0) (nb : Nat) (hb0 : n0 ≤ nb) (hnb : nb ≤ h0.size) (S_E : Sta Z Z.heap "java/util/ImmutableCollections" "EMPTY" "Ljava/lang/Object;" (.ref wE)) (S_L : Sta Z Z.heap "java/util/ImmutableCollections" "EMPTY_LIST" "Ljava/util/ImmutableCollections$ListN;" (.ref wL)) (M : Mr Z "[Ljava/lang/Object;" mr) (E1 : Exa Z h0 a1 "java/util/ArrayList") (F3 : Fld Z h0 a1 "java/util/ArrayList" "size" "I" (.int 1)) (F2 : Fld Z h0 a1 "java/util/ArrayList" "elementData" "[Ljava/lang/Object;" (.ref d)) (Ed : Exa Z h0 d "[Ljava/lang/Object;") (Vd : Arv Z h0 d kd (.object "java/lang/Object") 10 [(.ref e1), .null, .null, .null, .null, .null, .null, .null, .null, .null] .null) (Ee : Exa Z h0 e1 "com/example/dispatcher/dispatcher/web/FieldError") :
    Con l Z ms (⟨"java/util/ImmutableCollections", "listCopy", "(Ljava/util/Collection;)Ljava/util/List;"⟩ : MethodName) jdk_56_method_3_code 2 (some (.object "java/util/List")) ws ({ frames := 6, cells := 2, slots := 3, locals := 80 } : Room) #[(.ref a1)] h0 (fun v vm h L => ∃ r, v = some (.ref r) ∧ Fr nb L ∧ Ext h0 h ∧ h0.size ≤ r ∧ Exa Z h r "java/util/ImmutableCollections$List12") := by
  refine Con.mk (plainFor_of_name pn12) ?_
  intro p e s m below meth c s₁ Cc X0 e0 eb J0 B0 M0
  obtain ⟨hx, hZ, hown, hby, hml, hnm, hret, hlk⟩ := id Cc
  have N0 := Fr.nil h0.size
  have K0 := Keep.refl h0 []
  show Go p e s below _ _ _ _ s₁ (mkF m 0 #[.val (.ref a1), .unset] [])
  refine Go.of (fun _ hr => XS.aloadN X0.here hx rfl (hb hby d13_0) rfl rfl hr) ?_
  show Go p e s below _ _ _ _ s₁ (mkF m 1 #[.val (.ref a1), .unset] [(.ref a1)])
  obtain ⟨T101, X101, e101, st101⟩ := instNo X0 hx hZ hown (hw _ (List.mem_of_getElem? (i := 85) rfl)) e0 E1 (ns_no (hw _ (List.mem_of_getElem? (i := 86) rfl)) (hw _ (List.mem_of_getElem? (i := 188) rfl)) (NS.step (hw _ (List.mem_of_getElem? (i := 86) rfl)) (NS.step (hw _ (List.mem_of_getElem? (i := 87) rfl)) (NS.step (hw _ (List.mem_of_getElem? (i := 88) rfl)) (ns_root (hw _ (List.mem_of_getElem? (i := 89) rfl)) (hw _ (List.mem_of_getElem? (i := 188) rfl)) (by decide)) (by decide)) (by decide)) (by decide)) (by decide)) (g := (mkF m 1 #[.val (.ref a1), .unset] [(.ref a1)])) rfl rfl (hb hby d13_1)
  refine Go.of (fun _ hr => st101 _ hr) ?_
  show Go p e s below _ _ _ _ T101 (mkF m 4 #[.val (.ref a1), .unset] [(.int (0 : Int32))])
  refine Go.of (fun _ hr => XS.ifNo X101.here hx rfl (hb hby d13_4) rfl ((if0 _ _).trans (teq (by decide : ((0 : Int32) = (0 : Int32)))).2) hr) ?_
  show Go p e s below _ _ _ _ T101 (mkF m 7 #[.val (.ref a1), .unset] [])
  refine Go.of (fun _ hr => XS.aloadN X101.here hx rfl (hb hby d13_7) rfl rfl hr) ?_
  show Go p e s below _ _ _ _ T101 (mkF m 8 #[.val (.ref a1), .unset] [(.ref a1)])
  obtain ⟨T102, X102, e102, st102⟩ := instNo X101 hx hZ hown (hw _ (List.mem_of_getElem? (i := 90) rfl)) e101 E1 (ns_no (hw _ (List.mem_of_getElem? (i := 86) rfl)) (hw _ (List.mem_of_getElem? (i := 227) rfl)) (NS.step (hw _ (List.mem_of_getElem? (i := 86) rfl)) (NS.step (hw _ (List.mem_of_getElem? (i := 87) rfl)) (NS.step (hw _ (List.mem_of_getElem? (i := 88) rfl)) (ns_root (hw _ (List.mem_of_getElem? (i := 89) rfl)) (hw _ (List.mem_of_getElem? (i := 227) rfl)) (by decide)) (by decide)) (by decide)) (by decide)) (by decide)) (g := (mkF m 8 #[.val (.ref a1), .unset] [(.ref a1)])) rfl rfl (hb hby d13_8)
  refine Go.of (fun _ hr => st102 _ hr) ?_
  show Go p e s below _ _ _ _ T102 (mkF m 11 #[.val (.ref a1), .unset] [(.int (0 : Int32))])
  refine Go.of (fun _ hr => XS.ifYes X102.here hx rfl (pc0 := 11) (pc' := 31) rfl (hb hby d13_11) rfl ((if0 _ _).trans (teq (by decide : ((0 : Int32) = (0 : Int32)))).1) (by decide) (by decide) hr) ?_
  show Go p e s below _ _ _ _ T102 (mkF m 31 #[.val (.ref a1), .unset] [])
  refine Go.of (fun _ hr => XS.aloadN X102.here hx rfl (hb hby d13_31) rfl rfl hr) ?_
  show Go p e s below _ _ _ _ T102 (mkF m 32 #[.val (.ref a1), .unset] [(.ref a1)])
  obtain ⟨_, b103, T103, h103, L103, e103, Cc103, X103, B103, J103, g103, hQ103, st103⟩ := own_callF Cc B0 J0 X102 (y := (⟨"java/util/Collection", "isEmpty", "()Z"⟩ : MethodName)) (z := (⟨"java/util/ArrayList", "isEmpty", "()Z"⟩ : MethodName)) (hw _ (List.mem_of_getElem? (i := 91) rfl)) (hw _ (List.mem_of_getElem? (i := 92) rfl)) (hw _ (List.mem_of_getElem? (i := 93) rfl)) (by first | rfl | decide +kernel) (hw _ (List.mem_of_getElem? (i := 94) rfl)) (hw _ (List.mem_of_getElem? (i := 95) rfl)) (hw _ (List.mem_of_getElem? (i := 96) rfl)) (hw _ (List.mem_of_getElem? (i := 97) rfl)) (hw _ (List.mem_of_getElem? (i := 98) rfl)) (hw _ (List.mem_of_getElem? (i := 48) rfl)) (hw _ (List.mem_of_getElem? (i := 99) rfl)) (by decide) E1 (rm14 l Z a0 hw [] a1 (1 : Int32) _ h0 n0 O0 h0.size (own_ole O0) K0.1 F3) e102 (g := (mkF m 32 #[.val (.ref a1), .unset] [(.ref a1)])) rfl (by rw [hml]; rfl) (argsL := []) (rest := []) (lenOf pd16 rfl) rfl (W := 0) (by show 2 * 0 + _ ≤ _; exact Nat.le_of_eq rfl) (hb hby d13_32) (by decide) (by decide) (by decide) (by decide)
  obtain ⟨rfl, Nq103, hh103⟩ := hQ103
  have N103 := Fr.app N0 Nq103
  obtain ⟨hx, hZ, hown, hby, hml, hnm, hret, hlk⟩ := id Cc103
  rw [hh103] at e103 B103 J103
  refine Go.of st103 ?_
  show Go p e s below _ _ _ _ T103 (mkF m 37 #[.val (.ref a1), .unset] [(.int (0 : Int32))])
  refine Go.of (fun _ hr => XS.ifYes X103.here hx rfl (pc0 := 37) (pc' := 44) rfl (hb hby d13_37) rfl ((if0 _ _).trans (teq (by decide : ((0 : Int32) = (0 : Int32)))).1) (by decide) (by decide) hr) ?_
  show Go p e s below _ _ _ _ T103 (mkF m 44 #[.val (.ref a1), .unset] [])
  refine Go.of (fun _ hr => XS.aloadN X103.here hx rfl (hb hby d13_44) rfl rfl hr) ?_
  show Go p e s below _ _ _ _ T103 (mkF m 45 #[.val (.ref a1), .unset] [(.ref a1)])
  obtain ⟨_, b104, T104, h104, L104, e104, Cc104, X104, B104, J104, g104, hQ104, st104⟩ := own_callF Cc103 B103 J103 X103 (y := (⟨"java/util/Collection", "toArray", "()[Ljava/lang/Object;"⟩ : MethodName)) (z := (⟨"java/util/ArrayList", "toArray", "()[Ljava/lang/Object;"⟩ : MethodName)) (hw _ (List.mem_of_getElem? (i := 154) rfl)) (hw _ (List.mem_of_getElem? (i := 155) rfl)) (hw _ (List.mem_of_getElem? (i := 156) rfl)) (by first | rfl | decide +kernel) (hw _ (List.mem_of_getElem? (i := 157) rfl)) (hw _ (List.mem_of_getElem? (i := 158) rfl)) (hw _ (List.mem_of_getElem? (i := 159) rfl)) (hw _ (List.mem_of_getElem? (i := 160) rfl)) (hw _ (List.mem_of_getElem? (i := 98) rfl)) (hw _ (List.mem_of_getElem? (i := 48) rfl)) (hw _ (List.mem_of_getElem? (i := 161) rfl)) (by decide) E1 (rmTA_1 l Z a0 hw [] a1 d e1 mr _ _ h0 n0 O0 h0.size (own_ole O0) K0.1 M F2 F3 Ed Vd Ee) e103 (g := (mkF m 45 #[.val (.ref a1), .unset] [(.ref a1)])) rfl (by rw [hml]; rfl) (argsL := []) (rest := []) (lenOf pd7 rfl) rfl (W := 0) (by show 2 * 0 + _ ≤ _; exact Nat.le_of_eq rfl) (hb hby d13_45) (by decide) (by decide) (by decide) (by decide)
  obtain ⟨r104, kr104, rfl, Nq104, Eq104, R_r104, Vr104⟩ := hQ104
  have N104 := Fr.app N103 Nq104
  obtain ⟨hx, hZ, hown, hby, hml, hnm, hret, hlk⟩ := id Cc104
  have sz_r104 : h0.size ≤ r104 := Nat.le_trans K0.1 R_r104
  have fr_r104 : h0.size ≤ r104 := sz_r104
  have ne_a1_r104 : a1 ≠ r104 := Nat.ne_of_lt (Nat.lt_of_lt_of_le E1.lt R_r104)
  have ne_e1_r104 : e1 ≠ r104 := Nat.ne_of_lt (Nat.lt_of_lt_of_le Ee.lt R_r104)
  have ne_d_r104 : d ≠ r104 := Nat.ne_of_lt (Nat.lt_of_lt_of_le Ed.lt R_r104)
  have K104 := K0.ext Eq104
  have O104 := O0.ext Eq104
  refine Go.of st104 ?_
  show Go p e s below _ _ _ _ T104 (mkF m 50 #[.val (.ref a1), .unset] [(.ref r104)])
  have f106 := (Ee.ext Eq104)
  obtain ⟨_, b105, T105, h105, L105, e105, Cc105, X105, B105, J105, g105, hQ105, st105⟩ := own_callS Cc104 B104 J104 X104 (hw _ (List.mem_of_getElem? (i := 184) rfl)) (hw _ (List.mem_of_getElem? (i := 185) rfl)) (hw _ (List.mem_of_getElem? (i := 79) rfl)) (hw _ (List.mem_of_getElem? (i := 186) rfl)) (by decide) (rmOf_1 l Z a0 hw [] r104 e1 wE _ _ h104 n0 O104 h0.size (own_ole O0) K104.1 S_E Vr104 f106) e104 (g := (mkF m 50 #[.val (.ref a1), .unset] [(.ref r104)])) rfl (by rw [hml]; rfl) (argsL := [(.ref r104)]) (rest := []) (lenOf pd15 rfl) rfl (W := 0) (by show 2 * 0 + _ ≤ _; exact Nat.le_of_eq rfl) (hb hby d13_50) (by decide) (by decide) (by decide) (by decide)
  have f107 := (E1.ext Eq104)
  have f108 := (Ed.ext Eq104)
  obtain ⟨r105, rfl, Nq105, Eq105, R_r105, Er105⟩ := hQ105
  have N105 := Fr.app N104 Nq105
  obtain ⟨hx, hZ, hown, hby, hml, hnm, hret, hlk⟩ := id Cc105
  have sz_r105 : h0.size ≤ r105 := Nat.le_trans K104.1 R_r105
  have fr_r105 : h0.size ≤ r105 := sz_r105
  have ne_a1_r105 : a1 ≠ r105 := Nat.ne_of_lt (Nat.lt_of_lt_of_le f107.lt R_r105)
  have ne_e1_r105 : e1 ≠ r105 := Nat.ne_of_lt (Nat.lt_of_lt_of_le f106.lt R_r105)
  have ne_d_r105 : d ≠ r105 := Nat.ne_of_lt (Nat.lt_of_lt_of_le f108.lt R_r105)
  have ne_r104_r105 : r104 ≠ r105 := Nat.ne_of_lt (Nat.lt_of_lt_of_le Vr104.lt R_r105)
  have K105 := K104.ext Eq105
  have O105 := O104.ext Eq105
  refine Go.of st105 ?_
  show Go p e s below _ _ _ _ T105 (mkF m 53 #[.val (.ref a1), .unset] [(.ref r105)])
  exact Go.retA X105 hx hlk B105 J105 e105 hret rfl rfl (hb hby d13_53) (by decide) (by decide) (fun vm_ hw_ => ⟨_, rfl, (fun y hy => Nat.le_trans hnb (N105 y hy)), keep_ext K105, sz_r105, Er105⟩)

set_option maxRecDepth 65536 in
set_option maxHeartbeats 40000000 in
theorem rmLC_2 (l : Launch) (Z : State) (a0 : Array Value) (hw : ∀ d ∈ tables_1, d.before a0 Z = true) (ws : List Jvm.Cond) (a1 e1 mr wE wL d : Addr) (kd : ClassId) (ms : List Addr) (h0 : Heap) (n0 : Nat) (O0 : Old Z n0 h0) (nb : Nat) (hb0 : n0 ≤ nb) (hnb : nb ≤ h0.size) (S_E : Sta Z Z.heap "java/util/ImmutableCollections" "EMPTY" "Ljava/lang/Object;" (.ref wE)) (S_L : Sta Z Z.heap "java/util/ImmutableCollections" "EMPTY_LIST" "Ljava/util/ImmutableCollections$ListN;" (.ref wL)) (M : Mr Z "[Ljava/lang/Object;" mr) (E1 : Exa Z h0 a1 "java/util/ArrayList") (F3 : Fld Z h0 a1 "java/util/ArrayList" "size" "I" (.int 2)) (F2 : Fld Z h0 a1 "java/util/ArrayList" "elementData" "[Ljava/lang/Object;" (.ref d)) (Ed : Exa Z h0 d "[Ljava/lang/Object;") (Vd : Arv Z h0 d kd (.object "java/lang/Object") 10 [(.ref e1), (.ref e1), .null, .null, .null, .null, .null, .null, .null, .null] .null) (Ee : Exa Z h0 e1 "com/example/dispatcher/dispatcher/web/FieldError") :
    Con l Z ms (⟨"java/util/ImmutableCollections", "listCopy", "(Ljava/util/Collection;)Ljava/util/List;"⟩ : MethodName) jdk_56_method_3_code 2 (some (.object "java/util/List")) ws ({ frames := 6, cells := 2, slots := 4, locals := 80 } : Room) #[(.ref a1)] h0 (fun v vm h L => ∃ r, v = some (.ref r) ∧ Fr nb L ∧ Ext h0 h ∧ h0.size ≤ r ∧ Exa Z h r "java/util/ImmutableCollections$List12") := by
  refine Con.mk (plainFor_of_name pn12) ?_
  intro p e s m below meth c s₁ Cc X0 e0 eb J0 B0 M0
  obtain ⟨hx, hZ, hown, hby, hml, hnm, hret, hlk⟩ := id Cc
  have N0 := Fr.nil h0.size
  have K0 := Keep.refl h0 []
  show Go p e s below _ _ _ _ s₁ (mkF m 0 #[.val (.ref a1), .unset] [])
  refine Go.of (fun _ hr => XS.aloadN X0.here hx rfl (hb hby d13_0) rfl rfl hr) ?_
  show Go p e s below _ _ _ _ s₁ (mkF m 1 #[.val (.ref a1), .unset] [(.ref a1)])
  obtain ⟨T101, X101, e101, st101⟩ := instNo X0 hx hZ hown (hw _ (List.mem_of_getElem? (i := 85) rfl)) e0 E1 (ns_no (hw _ (List.mem_of_getElem? (i := 86) rfl)) (hw _ (List.mem_of_getElem? (i := 188) rfl)) (NS.step (hw _ (List.mem_of_getElem? (i := 86) rfl)) (NS.step (hw _ (List.mem_of_getElem? (i := 87) rfl)) (NS.step (hw _ (List.mem_of_getElem? (i := 88) rfl)) (ns_root (hw _ (List.mem_of_getElem? (i := 89) rfl)) (hw _ (List.mem_of_getElem? (i := 188) rfl)) (by decide)) (by decide)) (by decide)) (by decide)) (by decide)) (g := (mkF m 1 #[.val (.ref a1), .unset] [(.ref a1)])) rfl rfl (hb hby d13_1)
  refine Go.of (fun _ hr => st101 _ hr) ?_
  show Go p e s below _ _ _ _ T101 (mkF m 4 #[.val (.ref a1), .unset] [(.int (0 : Int32))])
  refine Go.of (fun _ hr => XS.ifNo X101.here hx rfl (hb hby d13_4) rfl ((if0 _ _).trans (teq (by decide : ((0 : Int32) = (0 : Int32)))).2) hr) ?_
  show Go p e s below _ _ _ _ T101 (mkF m 7 #[.val (.ref a1), .unset] [])
  refine Go.of (fun _ hr => XS.aloadN X101.here hx rfl (hb hby d13_7) rfl rfl hr) ?_
  show Go p e s below _ _ _ _ T101 (mkF m 8 #[.val (.ref a1), .unset] [(.ref a1)])
  obtain ⟨T102, X102, e102, st102⟩ := instNo X101 hx hZ hown (hw _ (List.mem_of_getElem? (i := 90) rfl)) e101 E1 (ns_no (hw _ (List.mem_of_getElem? (i := 86) rfl)) (hw _ (List.mem_of_getElem? (i := 227) rfl)) (NS.step (hw _ (List.mem_of_getElem? (i := 86) rfl)) (NS.step (hw _ (List.mem_of_getElem? (i := 87) rfl)) (NS.step (hw _ (List.mem_of_getElem? (i := 88) rfl)) (ns_root (hw _ (List.mem_of_getElem? (i := 89) rfl)) (hw _ (List.mem_of_getElem? (i := 227) rfl)) (by decide)) (by decide)) (by decide)) (by decide)) (by decide)) (g := (mkF m 8 #[.val (.ref a1), .unset] [(.ref a1)])) rfl rfl (hb hby d13_8)
  refine Go.of (fun _ hr => st102 _ hr) ?_
  show Go p e s below _ _ _ _ T102 (mkF m 11 #[.val (.ref a1), .unset] [(.int (0 : Int32))])
  refine Go.of (fun _ hr => XS.ifYes X102.here hx rfl (pc0 := 11) (pc' := 31) rfl (hb hby d13_11) rfl ((if0 _ _).trans (teq (by decide : ((0 : Int32) = (0 : Int32)))).1) (by decide) (by decide) hr) ?_
  show Go p e s below _ _ _ _ T102 (mkF m 31 #[.val (.ref a1), .unset] [])
  refine Go.of (fun _ hr => XS.aloadN X102.here hx rfl (hb hby d13_31) rfl rfl hr) ?_
  show Go p e s below _ _ _ _ T102 (mkF m 32 #[.val (.ref a1), .unset] [(.ref a1)])
  obtain ⟨_, b103, T103, h103, L103, e103, Cc103, X103, B103, J103, g103, hQ103, st103⟩ := own_callF Cc B0 J0 X102 (y := (⟨"java/util/Collection", "isEmpty", "()Z"⟩ : MethodName)) (z := (⟨"java/util/ArrayList", "isEmpty", "()Z"⟩ : MethodName)) (hw _ (List.mem_of_getElem? (i := 91) rfl)) (hw _ (List.mem_of_getElem? (i := 92) rfl)) (hw _ (List.mem_of_getElem? (i := 93) rfl)) (by first | rfl | decide +kernel) (hw _ (List.mem_of_getElem? (i := 94) rfl)) (hw _ (List.mem_of_getElem? (i := 95) rfl)) (hw _ (List.mem_of_getElem? (i := 96) rfl)) (hw _ (List.mem_of_getElem? (i := 97) rfl)) (hw _ (List.mem_of_getElem? (i := 98) rfl)) (hw _ (List.mem_of_getElem? (i := 48) rfl)) (hw _ (List.mem_of_getElem? (i := 99) rfl)) (by decide) E1 (rm14 l Z a0 hw [] a1 (2 : Int32) _ h0 n0 O0 h0.size (own_ole O0) K0.1 F3) e102 (g := (mkF m 32 #[.val (.ref a1), .unset] [(.ref a1)])) rfl (by rw [hml]; rfl) (argsL := []) (rest := []) (lenOf pd16 rfl) rfl (W := 0) (by show 2 * 0 + _ ≤ _; exact Nat.le_of_eq rfl) (hb hby d13_32) (by decide) (by decide) (by decide) (by decide)
  obtain ⟨rfl, Nq103, hh103⟩ := hQ103
  have N103 := Fr.app N0 Nq103
  obtain ⟨hx, hZ, hown, hby, hml, hnm, hret, hlk⟩ := id Cc103
  rw [hh103] at e103 B103 J103
  refine Go.of st103 ?_
  show Go p e s below _ _ _ _ T103 (mkF m 37 #[.val (.ref a1), .unset] [(.int (0 : Int32))])
  refine Go.of (fun _ hr => XS.ifYes X103.here hx rfl (pc0 := 37) (pc' := 44) rfl (hb hby d13_37) rfl ((if0 _ _).trans (teq (by decide : ((0 : Int32) = (0 : Int32)))).1) (by decide) (by decide) hr) ?_
  show Go p e s below _ _ _ _ T103 (mkF m 44 #[.val (.ref a1), .unset] [])
  refine Go.of (fun _ hr => XS.aloadN X103.here hx rfl (hb hby d13_44) rfl rfl hr) ?_
  show Go p e s below _ _ _ _ T103 (mkF m 45 #[.val (.ref a1), .unset] [(.ref a1)])
  obtain ⟨_, b104, T104, h104, L104, e104, Cc104, X104, B104, J104, g104, hQ104, st104⟩ := own_callF Cc103 B103 J103 X103 (y := (⟨"java/util/Collection", "toArray", "()[Ljava/lang/Object;"⟩ : MethodName)) (z := (⟨"java/util/ArrayList", "toArray", "()[Ljava/lang/Object;"⟩ : MethodName)) (hw _ (List.mem_of_getElem? (i := 154) rfl)) (hw _ (List.mem_of_getElem? (i := 155) rfl)) (hw _ (List.mem_of_getElem? (i := 156) rfl)) (by first | rfl | decide +kernel) (hw _ (List.mem_of_getElem? (i := 157) rfl)) (hw _ (List.mem_of_getElem? (i := 158) rfl)) (hw _ (List.mem_of_getElem? (i := 159) rfl)) (hw _ (List.mem_of_getElem? (i := 160) rfl)) (hw _ (List.mem_of_getElem? (i := 98) rfl)) (hw _ (List.mem_of_getElem? (i := 48) rfl)) (hw _ (List.mem_of_getElem? (i := 161) rfl)) (by decide) E1 (rmTA_2 l Z a0 hw [] a1 d e1 mr _ _ h0 n0 O0 h0.size (own_ole O0) K0.1 M F2 F3 Ed Vd Ee) e103 (g := (mkF m 45 #[.val (.ref a1), .unset] [(.ref a1)])) rfl (by rw [hml]; rfl) (argsL := []) (rest := []) (lenOf pd7 rfl) rfl (W := 0) (by show 2 * 0 + _ ≤ _; exact Nat.le_of_eq rfl) (hb hby d13_45) (by decide) (by decide) (by decide) (by decide)
  obtain ⟨r104, kr104, rfl, Nq104, Eq104, R_r104, Vr104⟩ := hQ104
  have N104 := Fr.app N103 Nq104
  obtain ⟨hx, hZ, hown, hby, hml, hnm, hret, hlk⟩ := id Cc104
  have sz_r104 : h0.size ≤ r104 := Nat.le_trans K0.1 R_r104
  have fr_r104 : h0.size ≤ r104 := sz_r104
  have ne_a1_r104 : a1 ≠ r104 := Nat.ne_of_lt (Nat.lt_of_lt_of_le E1.lt R_r104)
  have ne_e1_r104 : e1 ≠ r104 := Nat.ne_of_lt (Nat.lt_of_lt_of_le Ee.lt R_r104)
  have ne_d_r104 : d ≠ r104 := Nat.ne_of_lt (Nat.lt_of_lt_of_le Ed.lt R_r104)
  have K104 := K0.ext Eq104
  have O104 := O0.ext Eq104
  refine Go.of st104 ?_
  show Go p e s below _ _ _ _ T104 (mkF m 50 #[.val (.ref a1), .unset] [(.ref r104)])
  have f106 := (Ee.ext Eq104)
  obtain ⟨_, b105, T105, h105, L105, e105, Cc105, X105, B105, J105, g105, hQ105, st105⟩ := own_callS Cc104 B104 J104 X104 (hw _ (List.mem_of_getElem? (i := 184) rfl)) (hw _ (List.mem_of_getElem? (i := 185) rfl)) (hw _ (List.mem_of_getElem? (i := 79) rfl)) (hw _ (List.mem_of_getElem? (i := 186) rfl)) (by decide) (rmOf_2 l Z a0 hw [] r104 e1 wE _ _ h104 n0 O104 h0.size (own_ole O0) K104.1 S_E Vr104 f106) e104 (g := (mkF m 50 #[.val (.ref a1), .unset] [(.ref r104)])) rfl (by rw [hml]; rfl) (argsL := [(.ref r104)]) (rest := []) (lenOf pd15 rfl) rfl (W := 0) (by show 2 * 0 + _ ≤ _; exact Nat.le_of_eq rfl) (hb hby d13_50) (by decide) (by decide) (by decide) (by decide)
  have f107 := (E1.ext Eq104)
  have f108 := (Ed.ext Eq104)
  obtain ⟨r105, rfl, Nq105, Eq105, R_r105, Er105⟩ := hQ105
  have N105 := Fr.app N104 Nq105
  obtain ⟨hx, hZ, hown, hby, hml, hnm, hret, hlk⟩ := id Cc105
  have sz_r105 : h0.size ≤ r105 := Nat.le_trans K104.1 R_r105
  have fr_r105 : h0.size ≤ r105 := sz_r105
  have ne_a1_r105 : a1 ≠ r105 := Nat.ne_of_lt (Nat.lt_of_lt_of_le f107.lt R_r105)
  have ne_e1_r105 : e1 ≠ r105 := Nat.ne_of_lt (Nat.lt_of_lt_of_le f106.lt R_r105)
  have ne_d_r105 : d ≠ r105 := Nat.ne_of_lt (Nat.lt_of_lt_of_le f108.lt R_r105)
  have ne_r104_r105 : r104 ≠ r105 := Nat.ne_of_lt (Nat.lt_of_lt_of_le Vr104.lt R_r105)
  have K105 := K104.ext Eq105
  have O105 := O104.ext Eq105
  refine Go.of st105 ?_
  show Go p e s below _ _ _ _ T105 (mkF m 53 #[.val (.ref a1), .unset] [(.ref r105)])
  exact Go.retA X105 hx hlk B105 J105 e105 hret rfl rfl (hb hby d13_53) (by decide) (by decide) (fun vm_ hw_ => ⟨_, rfl, (fun y hy => Nat.le_trans hnb (N105 y hy)), keep_ext K105, sz_r105, Er105⟩)

set_option maxRecDepth 65536 in
set_option maxHeartbeats 40000000 in
theorem rmLC_3 (l : Launch) (Z : State) (a0 : Array Value) (hw : ∀ d ∈ tables_1, d.before a0 Z = true) (ws : List Jvm.Cond) (a1 e1 mr wE wL d : Addr) (kd : ClassId) (ms : List Addr) (h0 : Heap) (n0 : Nat) (O0 : Old Z n0 h0) (nb : Nat) (hb0 : n0 ≤ nb) (hnb : nb ≤ h0.size) (S_E : Sta Z Z.heap "java/util/ImmutableCollections" "EMPTY" "Ljava/lang/Object;" (.ref wE)) (S_L : Sta Z Z.heap "java/util/ImmutableCollections" "EMPTY_LIST" "Ljava/util/ImmutableCollections$ListN;" (.ref wL)) (M : Mr Z "[Ljava/lang/Object;" mr) (E1 : Exa Z h0 a1 "java/util/ArrayList") (F3 : Fld Z h0 a1 "java/util/ArrayList" "size" "I" (.int 3)) (F2 : Fld Z h0 a1 "java/util/ArrayList" "elementData" "[Ljava/lang/Object;" (.ref d)) (Ed : Exa Z h0 d "[Ljava/lang/Object;") (Vd : Arv Z h0 d kd (.object "java/lang/Object") 10 [(.ref e1), (.ref e1), (.ref e1), .null, .null, .null, .null, .null, .null, .null] .null) (Ee : Exa Z h0 e1 "com/example/dispatcher/dispatcher/web/FieldError") :
    Con l Z ms (⟨"java/util/ImmutableCollections", "listCopy", "(Ljava/util/Collection;)Ljava/util/List;"⟩ : MethodName) jdk_56_method_3_code 2 (some (.object "java/util/List")) ws ({ frames := 7, cells := 3, slots := 8, locals := 90 } : Room) #[(.ref a1)] h0 (fun v vm h L => ∃ r el ke, v = some (.ref r) ∧ Fr nb L ∧ Ext h0 h ∧ h0.size ≤ r ∧ h0.size ≤ el ∧ Exa Z h r "java/util/ImmutableCollections$ListN" ∧ Fld Z h r "java/util/ImmutableCollections$ListN" "elements" "[Ljava/lang/Object;" (.ref el) ∧ Arv Z h el ke (.object "java/lang/Object") 3 [(.ref e1), (.ref e1), (.ref e1)] .null) := by
  refine Con.mk (plainFor_of_name pn12) ?_
  intro p e s m below meth c s₁ Cc X0 e0 eb J0 B0 M0
  obtain ⟨hx, hZ, hown, hby, hml, hnm, hret, hlk⟩ := id Cc
  have N0 := Fr.nil h0.size
  have K0 := Keep.refl h0 []
  show Go p e s below _ _ _ _ s₁ (mkF m 0 #[.val (.ref a1), .unset] [])
  refine Go.of (fun _ hr => XS.aloadN X0.here hx rfl (hb hby d13_0) rfl rfl hr) ?_
  show Go p e s below _ _ _ _ s₁ (mkF m 1 #[.val (.ref a1), .unset] [(.ref a1)])
  obtain ⟨T101, X101, e101, st101⟩ := instNo X0 hx hZ hown (hw _ (List.mem_of_getElem? (i := 85) rfl)) e0 E1 (ns_no (hw _ (List.mem_of_getElem? (i := 86) rfl)) (hw _ (List.mem_of_getElem? (i := 188) rfl)) (NS.step (hw _ (List.mem_of_getElem? (i := 86) rfl)) (NS.step (hw _ (List.mem_of_getElem? (i := 87) rfl)) (NS.step (hw _ (List.mem_of_getElem? (i := 88) rfl)) (ns_root (hw _ (List.mem_of_getElem? (i := 89) rfl)) (hw _ (List.mem_of_getElem? (i := 188) rfl)) (by decide)) (by decide)) (by decide)) (by decide)) (by decide)) (g := (mkF m 1 #[.val (.ref a1), .unset] [(.ref a1)])) rfl rfl (hb hby d13_1)
  refine Go.of (fun _ hr => st101 _ hr) ?_
  show Go p e s below _ _ _ _ T101 (mkF m 4 #[.val (.ref a1), .unset] [(.int (0 : Int32))])
  refine Go.of (fun _ hr => XS.ifNo X101.here hx rfl (hb hby d13_4) rfl ((if0 _ _).trans (teq (by decide : ((0 : Int32) = (0 : Int32)))).2) hr) ?_
  show Go p e s below _ _ _ _ T101 (mkF m 7 #[.val (.ref a1), .unset] [])
  refine Go.of (fun _ hr => XS.aloadN X101.here hx rfl (hb hby d13_7) rfl rfl hr) ?_
  show Go p e s below _ _ _ _ T101 (mkF m 8 #[.val (.ref a1), .unset] [(.ref a1)])
  obtain ⟨T102, X102, e102, st102⟩ := instNo X101 hx hZ hown (hw _ (List.mem_of_getElem? (i := 90) rfl)) e101 E1 (ns_no (hw _ (List.mem_of_getElem? (i := 86) rfl)) (hw _ (List.mem_of_getElem? (i := 227) rfl)) (NS.step (hw _ (List.mem_of_getElem? (i := 86) rfl)) (NS.step (hw _ (List.mem_of_getElem? (i := 87) rfl)) (NS.step (hw _ (List.mem_of_getElem? (i := 88) rfl)) (ns_root (hw _ (List.mem_of_getElem? (i := 89) rfl)) (hw _ (List.mem_of_getElem? (i := 227) rfl)) (by decide)) (by decide)) (by decide)) (by decide)) (by decide)) (g := (mkF m 8 #[.val (.ref a1), .unset] [(.ref a1)])) rfl rfl (hb hby d13_8)
  refine Go.of (fun _ hr => st102 _ hr) ?_
  show Go p e s below _ _ _ _ T102 (mkF m 11 #[.val (.ref a1), .unset] [(.int (0 : Int32))])
  refine Go.of (fun _ hr => XS.ifYes X102.here hx rfl (pc0 := 11) (pc' := 31) rfl (hb hby d13_11) rfl ((if0 _ _).trans (teq (by decide : ((0 : Int32) = (0 : Int32)))).1) (by decide) (by decide) hr) ?_
  show Go p e s below _ _ _ _ T102 (mkF m 31 #[.val (.ref a1), .unset] [])
  refine Go.of (fun _ hr => XS.aloadN X102.here hx rfl (hb hby d13_31) rfl rfl hr) ?_
  show Go p e s below _ _ _ _ T102 (mkF m 32 #[.val (.ref a1), .unset] [(.ref a1)])
  obtain ⟨_, b103, T103, h103, L103, e103, Cc103, X103, B103, J103, g103, hQ103, st103⟩ := own_callF Cc B0 J0 X102 (y := (⟨"java/util/Collection", "isEmpty", "()Z"⟩ : MethodName)) (z := (⟨"java/util/ArrayList", "isEmpty", "()Z"⟩ : MethodName)) (hw _ (List.mem_of_getElem? (i := 91) rfl)) (hw _ (List.mem_of_getElem? (i := 92) rfl)) (hw _ (List.mem_of_getElem? (i := 93) rfl)) (by first | rfl | decide +kernel) (hw _ (List.mem_of_getElem? (i := 94) rfl)) (hw _ (List.mem_of_getElem? (i := 95) rfl)) (hw _ (List.mem_of_getElem? (i := 96) rfl)) (hw _ (List.mem_of_getElem? (i := 97) rfl)) (hw _ (List.mem_of_getElem? (i := 98) rfl)) (hw _ (List.mem_of_getElem? (i := 48) rfl)) (hw _ (List.mem_of_getElem? (i := 99) rfl)) (by decide) E1 (rm14 l Z a0 hw [] a1 (3 : Int32) _ h0 n0 O0 h0.size (own_ole O0) K0.1 F3) e102 (g := (mkF m 32 #[.val (.ref a1), .unset] [(.ref a1)])) rfl (by rw [hml]; rfl) (argsL := []) (rest := []) (lenOf pd16 rfl) rfl (W := 0) (by show 2 * 0 + _ ≤ _; exact Nat.le_of_eq rfl) (hb hby d13_32) (by decide) (by decide) (by decide) (by decide)
  obtain ⟨rfl, Nq103, hh103⟩ := hQ103
  have N103 := Fr.app N0 Nq103
  obtain ⟨hx, hZ, hown, hby, hml, hnm, hret, hlk⟩ := id Cc103
  rw [hh103] at e103 B103 J103
  refine Go.of st103 ?_
  show Go p e s below _ _ _ _ T103 (mkF m 37 #[.val (.ref a1), .unset] [(.int (0 : Int32))])
  refine Go.of (fun _ hr => XS.ifYes X103.here hx rfl (pc0 := 37) (pc' := 44) rfl (hb hby d13_37) rfl ((if0 _ _).trans (teq (by decide : ((0 : Int32) = (0 : Int32)))).1) (by decide) (by decide) hr) ?_
  show Go p e s below _ _ _ _ T103 (mkF m 44 #[.val (.ref a1), .unset] [])
  refine Go.of (fun _ hr => XS.aloadN X103.here hx rfl (hb hby d13_44) rfl rfl hr) ?_
  show Go p e s below _ _ _ _ T103 (mkF m 45 #[.val (.ref a1), .unset] [(.ref a1)])
  obtain ⟨_, b104, T104, h104, L104, e104, Cc104, X104, B104, J104, g104, hQ104, st104⟩ := own_callF Cc103 B103 J103 X103 (y := (⟨"java/util/Collection", "toArray", "()[Ljava/lang/Object;"⟩ : MethodName)) (z := (⟨"java/util/ArrayList", "toArray", "()[Ljava/lang/Object;"⟩ : MethodName)) (hw _ (List.mem_of_getElem? (i := 154) rfl)) (hw _ (List.mem_of_getElem? (i := 155) rfl)) (hw _ (List.mem_of_getElem? (i := 156) rfl)) (by first | rfl | decide +kernel) (hw _ (List.mem_of_getElem? (i := 157) rfl)) (hw _ (List.mem_of_getElem? (i := 158) rfl)) (hw _ (List.mem_of_getElem? (i := 159) rfl)) (hw _ (List.mem_of_getElem? (i := 160) rfl)) (hw _ (List.mem_of_getElem? (i := 98) rfl)) (hw _ (List.mem_of_getElem? (i := 48) rfl)) (hw _ (List.mem_of_getElem? (i := 161) rfl)) (by decide) E1 (rmTA_3 l Z a0 hw [] a1 d e1 mr _ _ h0 n0 O0 h0.size (own_ole O0) K0.1 M F2 F3 Ed Vd Ee) e103 (g := (mkF m 45 #[.val (.ref a1), .unset] [(.ref a1)])) rfl (by rw [hml]; rfl) (argsL := []) (rest := []) (lenOf pd7 rfl) rfl (W := 0) (by show 2 * 0 + _ ≤ _; exact Nat.le_of_eq rfl) (hb hby d13_45) (by decide) (by decide) (by decide) (by decide)
  obtain ⟨r104, kr104, rfl, Nq104, Eq104, R_r104, Vr104⟩ := hQ104
  have N104 := Fr.app N103 Nq104
  obtain ⟨hx, hZ, hown, hby, hml, hnm, hret, hlk⟩ := id Cc104
  have sz_r104 : h0.size ≤ r104 := Nat.le_trans K0.1 R_r104
  have fr_r104 : h0.size ≤ r104 := sz_r104
  have ne_a1_r104 : a1 ≠ r104 := Nat.ne_of_lt (Nat.lt_of_lt_of_le E1.lt R_r104)
  have ne_e1_r104 : e1 ≠ r104 := Nat.ne_of_lt (Nat.lt_of_lt_of_le Ee.lt R_r104)
  have ne_d_r104 : d ≠ r104 := Nat.ne_of_lt (Nat.lt_of_lt_of_le Ed.lt R_r104)
  have K104 := K0.ext Eq104
  have O104 := O0.ext Eq104
  refine Go.of st104 ?_
  show Go p e s below _ _ _ _ T104 (mkF m 50 #[.val (.ref a1), .unset] [(.ref r104)])
  have f106 := (Ee.ext Eq104)
  obtain ⟨_, b105, T105, h105, L105, e105, Cc105, X105, B105, J105, g105, hQ105, st105⟩ := own_callS Cc104 B104 J104 X104 (hw _ (List.mem_of_getElem? (i := 184) rfl)) (hw _ (List.mem_of_getElem? (i := 185) rfl)) (hw _ (List.mem_of_getElem? (i := 79) rfl)) (hw _ (List.mem_of_getElem? (i := 186) rfl)) (by decide) (rmOf_3 l Z a0 hw [] r104 e1 wE _ _ h104 n0 O104 h0.size (own_ole O0) K104.1 S_E Vr104 f106) e104 (g := (mkF m 50 #[.val (.ref a1), .unset] [(.ref r104)])) rfl (by rw [hml]; rfl) (argsL := [(.ref r104)]) (rest := []) (lenOf pd15 rfl) rfl (W := 0) (by show 2 * 0 + _ ≤ _; exact Nat.le_of_eq rfl) (hb hby d13_50) (by decide) (by decide) (by decide) (by decide)
  have f107 := (E1.ext Eq104)
  have f108 := (Ed.ext Eq104)
  obtain ⟨r105, el105, ke105, rfl, Nq105, Eq105, R_r105, R_el105, Er105, Fe105, Ve105⟩ := hQ105
  have N105 := Fr.app N104 Nq105
  obtain ⟨hx, hZ, hown, hby, hml, hnm, hret, hlk⟩ := id Cc105
  have sz_r105 : h0.size ≤ r105 := Nat.le_trans K104.1 R_r105
  have fr_r105 : h0.size ≤ r105 := sz_r105
  have ne_a1_r105 : a1 ≠ r105 := Nat.ne_of_lt (Nat.lt_of_lt_of_le f107.lt R_r105)
  have ne_e1_r105 : e1 ≠ r105 := Nat.ne_of_lt (Nat.lt_of_lt_of_le f106.lt R_r105)
  have ne_d_r105 : d ≠ r105 := Nat.ne_of_lt (Nat.lt_of_lt_of_le f108.lt R_r105)
  have ne_r104_r105 : r104 ≠ r105 := Nat.ne_of_lt (Nat.lt_of_lt_of_le Vr104.lt R_r105)
  have sz_el105 : h0.size ≤ el105 := Nat.le_trans K104.1 R_el105
  have fr_el105 : h0.size ≤ el105 := sz_el105
  have ne_a1_el105 : a1 ≠ el105 := Nat.ne_of_lt (Nat.lt_of_lt_of_le f107.lt R_el105)
  have ne_e1_el105 : e1 ≠ el105 := Nat.ne_of_lt (Nat.lt_of_lt_of_le f106.lt R_el105)
  have ne_d_el105 : d ≠ el105 := Nat.ne_of_lt (Nat.lt_of_lt_of_le f108.lt R_el105)
  have ne_r104_el105 : r104 ≠ el105 := Nat.ne_of_lt (Nat.lt_of_lt_of_le Vr104.lt R_el105)
  have K105 := K104.ext Eq105
  have O105 := O104.ext Eq105
  refine Go.of st105 ?_
  show Go p e s below _ _ _ _ T105 (mkF m 53 #[.val (.ref a1), .unset] [(.ref r105)])
  exact Go.retA X105 hx hlk B105 J105 e105 hret rfl rfl (hb hby d13_53) (by decide) (by decide) (fun vm_ hw_ => ⟨_, _, _, rfl, (fun y hy => Nat.le_trans hnb (N105 y hy)), keep_ext K105, sz_r105, sz_el105, Er105, Fe105, Ve105⟩)

theorem d12_0 : decode jdk_40_method_48_code 0 = .ok (.aload_n 0, 1) := by decide +kernel
theorem d12_1 : decode jdk_40_method_48_code 1 = .ok (.invokestatic 112, 3) := by decide +kernel
theorem pd18 : parseMethodDescriptor "(Ljava/util/Collection;)Ljava/util/List;" = some ⟨[(.object "java/util/Collection")], some (.object "java/util/List")⟩ := by decide +kernel
theorem d12_4 : decode jdk_40_method_48_code 4 = .ok (.areturn, 1) := by decide +kernel
set_option maxRecDepth 65536 in
set_option maxHeartbeats 40000000 in
theorem rmCO_0 (l : Launch) (Z : State) (a0 : Array Value) (hw : ∀ d ∈ tables_1, d.before a0 Z = true) (ws : List Jvm.Cond) (a1 e1 mr wE wL d : Addr) (kd : ClassId) (ms : List Addr) (h0 : Heap) (n0 : Nat) (O0 : Old Z n0 h0) (nb : Nat) (hb0 : n0 ≤ nb) (hnb : nb ≤ h0.size) (S_E : Sta Z Z.heap "java/util/ImmutableCollections" "EMPTY" "Ljava/lang/Object;" (.ref wE)) (S_L : Sta Z Z.heap "java/util/ImmutableCollections" "EMPTY_LIST" "Ljava/util/ImmutableCollections$ListN;" (.ref wL)) (M : Mr Z "[Ljava/lang/Object;" mr) (E1 : Exa Z h0 a1 "java/util/ArrayList") (F3 : Fld Z h0 a1 "java/util/ArrayList" "size" "I" (.int 0)) :
    Con l Z ms (⟨"java/util/List", "copyOf", "(Ljava/util/Collection;)Ljava/util/List;"⟩ : MethodName) jdk_40_method_48_code 1 (some (.object "java/util/List")) ws ({ frames := 2, cells := 0, slots := 0, locals := 37 } : Room) #[(.ref a1)] h0 (fun v vm h L => v = some (.ref wL) ∧ Fr nb L ∧ h = h0) := by
  refine Con.mk (plainFor_of_name pn13) ?_
  intro p e s m below meth c s₁ Cc X0 e0 eb J0 B0 M0
  obtain ⟨hx, hZ, hown, hby, hml, hnm, hret, hlk⟩ := id Cc
  have N0 := Fr.nil h0.size
  have K0 := Keep.refl h0 []
  show Go p e s below _ _ _ _ s₁ (mkF m 0 #[.val (.ref a1)] [])
  refine Go.of (fun _ hr => XS.aloadN X0.here hx rfl (hb hby d12_0) rfl rfl hr) ?_
  show Go p e s below _ _ _ _ s₁ (mkF m 1 #[.val (.ref a1)] [(.ref a1)])
  obtain ⟨_, b101, T101, h101, L101, e101, Cc101, X101, B101, J101, g101, hQ101, st101⟩ := own_callS Cc B0 J0 X0 (hw _ (List.mem_of_getElem? (i := 81) rfl)) (hw _ (List.mem_of_getElem? (i := 82) rfl)) (hw _ (List.mem_of_getElem? (i := 83) rfl)) (hw _ (List.mem_of_getElem? (i := 84) rfl)) (by decide) (rmLC_0 l Z a0 hw [] a1 a1 mr wE wL a1 0 _ h0 n0 O0 h0.size (own_ole O0) K0.1 S_E S_L M E1 F3) e0 (g := (mkF m 1 #[.val (.ref a1)] [(.ref a1)])) rfl (by rw [hml]; rfl) (argsL := [(.ref a1)]) (rest := []) (lenOf pd18 rfl) rfl (W := 0) (by show 2 * 0 + _ ≤ _; exact Nat.le_of_eq rfl) (hb hby d12_1) (by decide) (by decide) (by decide) (by decide)
  obtain ⟨rfl, Nq101, hh101⟩ := hQ101
  have N101 := Fr.app N0 Nq101
  obtain ⟨hx, hZ, hown, hby, hml, hnm, hret, hlk⟩ := id Cc101
  rw [hh101] at e101 B101 J101
  refine Go.of st101 ?_
  show Go p e s below _ _ _ _ T101 (mkF m 4 #[.val (.ref a1)] [(.ref wL)])
  exact Go.retA X101 hx hlk B101 J101 e101 hret rfl rfl (hb hby d12_4) (by decide) (by decide) (fun vm_ hw_ => ⟨rfl, (fun y hy => Nat.le_trans hnb (N101 y hy)), rfl⟩)

set_option maxRecDepth 65536 in
set_option maxHeartbeats 40000000 in
theorem rmCO_1 (l : Launch) (Z : State) (a0 : Array Value) (hw : ∀ d ∈ tables_1, d.before a0 Z = true) (ws : List Jvm.Cond) (a1 e1 mr wE wL d : Addr) (kd : ClassId) (ms : List Addr) (h0 : Heap) (n0 : Nat) (O0 : Old Z n0 h0) (nb : Nat) (hb0 : n0 ≤ nb) (hnb : nb ≤ h0.size) (S_E : Sta Z Z.heap "java/util/ImmutableCollections" "EMPTY" "Ljava/lang/Object;" (.ref wE)) (S_L : Sta Z Z.heap "java/util/ImmutableCollections" "EMPTY_LIST" "Ljava/util/ImmutableCollections$ListN;" (.ref wL)) (M : Mr Z "[Ljava/lang/Object;" mr) (E1 : Exa Z h0 a1 "java/util/ArrayList") (F3 : Fld Z h0 a1 "java/util/ArrayList" "size" "I" (.int 1)) (F2 : Fld Z h0 a1 "java/util/ArrayList" "elementData" "[Ljava/lang/Object;" (.ref d)) (Ed : Exa Z h0 d "[Ljava/lang/Object;") (Vd : Arv Z h0 d kd (.object "java/lang/Object") 10 [(.ref e1), .null, .null, .null, .null, .null, .null, .null, .null, .null] .null) (Ee : Exa Z h0 e1 "com/example/dispatcher/dispatcher/web/FieldError") :
    Con l Z ms (⟨"java/util/List", "copyOf", "(Ljava/util/Collection;)Ljava/util/List;"⟩ : MethodName) jdk_40_method_48_code 1 (some (.object "java/util/List")) ws ({ frames := 7, cells := 2, slots := 3, locals := 93 } : Room) #[(.ref a1)] h0 (fun v vm h L => ∃ r, v = some (.ref r) ∧ Fr nb L ∧ Ext h0 h ∧ h0.size ≤ r ∧ Exa Z h r "java/util/ImmutableCollections$List12") := by
  refine Con.mk (plainFor_of_name pn13) ?_
  intro p e s m below meth c s₁ Cc X0 e0 eb J0 B0 M0
  obtain ⟨hx, hZ, hown, hby, hml, hnm, hret, hlk⟩ := id Cc
  have N0 := Fr.nil h0.size
  have K0 := Keep.refl h0 []
  show Go p e s below _ _ _ _ s₁ (mkF m 0 #[.val (.ref a1)] [])
  refine Go.of (fun _ hr => XS.aloadN X0.here hx rfl (hb hby d12_0) rfl rfl hr) ?_
  show Go p e s below _ _ _ _ s₁ (mkF m 1 #[.val (.ref a1)] [(.ref a1)])
  obtain ⟨_, b101, T101, h101, L101, e101, Cc101, X101, B101, J101, g101, hQ101, st101⟩ := own_callS Cc B0 J0 X0 (hw _ (List.mem_of_getElem? (i := 81) rfl)) (hw _ (List.mem_of_getElem? (i := 82) rfl)) (hw _ (List.mem_of_getElem? (i := 83) rfl)) (hw _ (List.mem_of_getElem? (i := 84) rfl)) (by decide) (rmLC_1 l Z a0 hw [] a1 e1 mr wE wL d _ _ h0 n0 O0 h0.size (own_ole O0) K0.1 S_E S_L M E1 F3 F2 Ed Vd Ee) e0 (g := (mkF m 1 #[.val (.ref a1)] [(.ref a1)])) rfl (by rw [hml]; rfl) (argsL := [(.ref a1)]) (rest := []) (lenOf pd18 rfl) rfl (W := 0) (by show 2 * 0 + _ ≤ _; exact Nat.le_of_eq rfl) (hb hby d12_1) (by decide) (by decide) (by decide) (by decide)
  obtain ⟨r101, rfl, Nq101, Eq101, R_r101, Er101⟩ := hQ101
  have N101 := Fr.app N0 Nq101
  obtain ⟨hx, hZ, hown, hby, hml, hnm, hret, hlk⟩ := id Cc101
  have sz_r101 : h0.size ≤ r101 := Nat.le_trans K0.1 R_r101
  have fr_r101 : h0.size ≤ r101 := sz_r101
  have ne_a1_r101 : a1 ≠ r101 := Nat.ne_of_lt (Nat.lt_of_lt_of_le E1.lt R_r101)
  have ne_e1_r101 : e1 ≠ r101 := Nat.ne_of_lt (Nat.lt_of_lt_of_le Ee.lt R_r101)
  have ne_d_r101 : d ≠ r101 := Nat.ne_of_lt (Nat.lt_of_lt_of_le Ed.lt R_r101)
  have K101 := K0.ext Eq101
  have O101 := O0.ext Eq101
  refine Go.of st101 ?_
  show Go p e s below _ _ _ _ T101 (mkF m 4 #[.val (.ref a1)] [(.ref r101)])
  exact Go.retA X101 hx hlk B101 J101 e101 hret rfl rfl (hb hby d12_4) (by decide) (by decide) (fun vm_ hw_ => ⟨_, rfl, (fun y hy => Nat.le_trans hnb (N101 y hy)), keep_ext K101, sz_r101, Er101⟩)

set_option maxRecDepth 65536 in
set_option maxHeartbeats 40000000 in
theorem rmCO_2 (l : Launch) (Z : State) (a0 : Array Value) (hw : ∀ d ∈ tables_1, d.before a0 Z = true) (ws : List Jvm.Cond) (a1 e1 mr wE wL d : Addr) (kd : ClassId) (ms : List Addr) (h0 : Heap) (n0 : Nat) (O0 : Old Z n0 h0) (nb : Nat) (hb0 : n0 ≤ nb) (hnb : nb ≤ h0.size) (S_E : Sta Z Z.heap "java/util/ImmutableCollections" "EMPTY" "Ljava/lang/Object;" (.ref wE)) (S_L : Sta Z Z.heap "java/util/ImmutableCollections" "EMPTY_LIST" "Ljava/util/ImmutableCollections$ListN;" (.ref wL)) (M : Mr Z "[Ljava/lang/Object;" mr) (E1 : Exa Z h0 a1 "java/util/ArrayList") (F3 : Fld Z h0 a1 "java/util/ArrayList" "size" "I" (.int 2)) (F2 : Fld Z h0 a1 "java/util/ArrayList" "elementData" "[Ljava/lang/Object;" (.ref d)) (Ed : Exa Z h0 d "[Ljava/lang/Object;") (Vd : Arv Z h0 d kd (.object "java/lang/Object") 10 [(.ref e1), (.ref e1), .null, .null, .null, .null, .null, .null, .null, .null] .null) (Ee : Exa Z h0 e1 "com/example/dispatcher/dispatcher/web/FieldError") :
    Con l Z ms (⟨"java/util/List", "copyOf", "(Ljava/util/Collection;)Ljava/util/List;"⟩ : MethodName) jdk_40_method_48_code 1 (some (.object "java/util/List")) ws ({ frames := 7, cells := 2, slots := 4, locals := 93 } : Room) #[(.ref a1)] h0 (fun v vm h L => ∃ r, v = some (.ref r) ∧ Fr nb L ∧ Ext h0 h ∧ h0.size ≤ r ∧ Exa Z h r "java/util/ImmutableCollections$List12") := by
  refine Con.mk (plainFor_of_name pn13) ?_
  intro p e s m below meth c s₁ Cc X0 e0 eb J0 B0 M0
  obtain ⟨hx, hZ, hown, hby, hml, hnm, hret, hlk⟩ := id Cc
  have N0 := Fr.nil h0.size
  have K0 := Keep.refl h0 []
  show Go p e s below _ _ _ _ s₁ (mkF m 0 #[.val (.ref a1)] [])
  refine Go.of (fun _ hr => XS.aloadN X0.here hx rfl (hb hby d12_0) rfl rfl hr) ?_
  show Go p e s below _ _ _ _ s₁ (mkF m 1 #[.val (.ref a1)] [(.ref a1)])
  obtain ⟨_, b101, T101, h101, L101, e101, Cc101, X101, B101, J101, g101, hQ101, st101⟩ := own_callS Cc B0 J0 X0 (hw _ (List.mem_of_getElem? (i := 81) rfl)) (hw _ (List.mem_of_getElem? (i := 82) rfl)) (hw _ (List.mem_of_getElem? (i := 83) rfl)) (hw _ (List.mem_of_getElem? (i := 84) rfl)) (by decide) (rmLC_2 l Z a0 hw [] a1 e1 mr wE wL d _ _ h0 n0 O0 h0.size (own_ole O0) K0.1 S_E S_L M E1 F3 F2 Ed Vd Ee) e0 (g := (mkF m 1 #[.val (.ref a1)] [(.ref a1)])) rfl (by rw [hml]; rfl) (argsL := [(.ref a1)]) (rest := []) (lenOf pd18 rfl) rfl (W := 0) (by show 2 * 0 + _ ≤ _; exact Nat.le_of_eq rfl) (hb hby d12_1) (by decide) (by decide) (by decide) (by decide)
  obtain ⟨r101, rfl, Nq101, Eq101, R_r101, Er101⟩ := hQ101
  have N101 := Fr.app N0 Nq101
  obtain ⟨hx, hZ, hown, hby, hml, hnm, hret, hlk⟩ := id Cc101
  have sz_r101 : h0.size ≤ r101 := Nat.le_trans K0.1 R_r101
  have fr_r101 : h0.size ≤ r101 := sz_r101
  have ne_a1_r101 : a1 ≠ r101 := Nat.ne_of_lt (Nat.lt_of_lt_of_le E1.lt R_r101)
  have ne_e1_r101 : e1 ≠ r101 := Nat.ne_of_lt (Nat.lt_of_lt_of_le Ee.lt R_r101)
  have ne_d_r101 : d ≠ r101 := Nat.ne_of_lt (Nat.lt_of_lt_of_le Ed.lt R_r101)
  have K101 := K0.ext Eq101
  have O101 := O0.ext Eq101
  refine Go.of st101 ?_
  show Go p e s below _ _ _ _ T101 (mkF m 4 #[.val (.ref a1)] [(.ref r101)])
  exact Go.retA X101 hx hlk B101 J101 e101 hret rfl rfl (hb hby d12_4) (by decide) (by decide) (fun vm_ hw_ => ⟨_, rfl, (fun y hy => Nat.le_trans hnb (N101 y hy)), keep_ext K101, sz_r101, Er101⟩)

set_option maxRecDepth 65536 in
set_option maxHeartbeats 40000000 in
theorem rmCO_3 (l : Launch) (Z : State) (a0 : Array Value) (hw : ∀ d ∈ tables_1, d.before a0 Z = true) (ws : List Jvm.Cond) (a1 e1 mr wE wL d : Addr) (kd : ClassId) (ms : List Addr) (h0 : Heap) (n0 : Nat) (O0 : Old Z n0 h0) (nb : Nat) (hb0 : n0 ≤ nb) (hnb : nb ≤ h0.size) (S_E : Sta Z Z.heap "java/util/ImmutableCollections" "EMPTY" "Ljava/lang/Object;" (.ref wE)) (S_L : Sta Z Z.heap "java/util/ImmutableCollections" "EMPTY_LIST" "Ljava/util/ImmutableCollections$ListN;" (.ref wL)) (M : Mr Z "[Ljava/lang/Object;" mr) (E1 : Exa Z h0 a1 "java/util/ArrayList") (F3 : Fld Z h0 a1 "java/util/ArrayList" "size" "I" (.int 3)) (F2 : Fld Z h0 a1 "java/util/ArrayList" "elementData" "[Ljava/lang/Object;" (.ref d)) (Ed : Exa Z h0 d "[Ljava/lang/Object;") (Vd : Arv Z h0 d kd (.object "java/lang/Object") 10 [(.ref e1), (.ref e1), (.ref e1), .null, .null, .null, .null, .null, .null, .null] .null) (Ee : Exa Z h0 e1 "com/example/dispatcher/dispatcher/web/FieldError") :
    Con l Z ms (⟨"java/util/List", "copyOf", "(Ljava/util/Collection;)Ljava/util/List;"⟩ : MethodName) jdk_40_method_48_code 1 (some (.object "java/util/List")) ws ({ frames := 8, cells := 3, slots := 8, locals := 103 } : Room) #[(.ref a1)] h0 (fun v vm h L => ∃ r el ke, v = some (.ref r) ∧ Fr nb L ∧ Ext h0 h ∧ h0.size ≤ r ∧ h0.size ≤ el ∧ Exa Z h r "java/util/ImmutableCollections$ListN" ∧ Fld Z h r "java/util/ImmutableCollections$ListN" "elements" "[Ljava/lang/Object;" (.ref el) ∧ Arv Z h el ke (.object "java/lang/Object") 3 [(.ref e1), (.ref e1), (.ref e1)] .null) := by
  refine Con.mk (plainFor_of_name pn13) ?_
  intro p e s m below meth c s₁ Cc X0 e0 eb J0 B0 M0
  obtain ⟨hx, hZ, hown, hby, hml, hnm, hret, hlk⟩ := id Cc
  have N0 := Fr.nil h0.size
  have K0 := Keep.refl h0 []
  show Go p e s below _ _ _ _ s₁ (mkF m 0 #[.val (.ref a1)] [])
  refine Go.of (fun _ hr => XS.aloadN X0.here hx rfl (hb hby d12_0) rfl rfl hr) ?_
  show Go p e s below _ _ _ _ s₁ (mkF m 1 #[.val (.ref a1)] [(.ref a1)])
  obtain ⟨_, b101, T101, h101, L101, e101, Cc101, X101, B101, J101, g101, hQ101, st101⟩ := own_callS Cc B0 J0 X0 (hw _ (List.mem_of_getElem? (i := 81) rfl)) (hw _ (List.mem_of_getElem? (i := 82) rfl)) (hw _ (List.mem_of_getElem? (i := 83) rfl)) (hw _ (List.mem_of_getElem? (i := 84) rfl)) (by decide) (rmLC_3 l Z a0 hw [] a1 e1 mr wE wL d _ _ h0 n0 O0 h0.size (own_ole O0) K0.1 S_E S_L M E1 F3 F2 Ed Vd Ee) e0 (g := (mkF m 1 #[.val (.ref a1)] [(.ref a1)])) rfl (by rw [hml]; rfl) (argsL := [(.ref a1)]) (rest := []) (lenOf pd18 rfl) rfl (W := 0) (by show 2 * 0 + _ ≤ _; exact Nat.le_of_eq rfl) (hb hby d12_1) (by decide) (by decide) (by decide) (by decide)
  obtain ⟨r101, el101, ke101, rfl, Nq101, Eq101, R_r101, R_el101, Er101, Fe101, Ve101⟩ := hQ101
  have N101 := Fr.app N0 Nq101
  obtain ⟨hx, hZ, hown, hby, hml, hnm, hret, hlk⟩ := id Cc101
  have sz_r101 : h0.size ≤ r101 := Nat.le_trans K0.1 R_r101
  have fr_r101 : h0.size ≤ r101 := sz_r101
  have ne_a1_r101 : a1 ≠ r101 := Nat.ne_of_lt (Nat.lt_of_lt_of_le E1.lt R_r101)
  have ne_e1_r101 : e1 ≠ r101 := Nat.ne_of_lt (Nat.lt_of_lt_of_le Ee.lt R_r101)
  have ne_d_r101 : d ≠ r101 := Nat.ne_of_lt (Nat.lt_of_lt_of_le Ed.lt R_r101)
  have sz_el101 : h0.size ≤ el101 := Nat.le_trans K0.1 R_el101
  have fr_el101 : h0.size ≤ el101 := sz_el101
  have ne_a1_el101 : a1 ≠ el101 := Nat.ne_of_lt (Nat.lt_of_lt_of_le E1.lt R_el101)
  have ne_e1_el101 : e1 ≠ el101 := Nat.ne_of_lt (Nat.lt_of_lt_of_le Ee.lt R_el101)
  have ne_d_el101 : d ≠ el101 := Nat.ne_of_lt (Nat.lt_of_lt_of_le Ed.lt R_el101)
  have K101 := K0.ext Eq101
  have O101 := O0.ext Eq101
  refine Go.of st101 ?_
  show Go p e s below _ _ _ _ T101 (mkF m 4 #[.val (.ref a1)] [(.ref r101)])
  exact Go.retA X101 hx hlk B101 J101 e101 hret rfl rfl (hb hby d12_4) (by decide) (by decide) (fun vm_ hw_ => ⟨_, _, _, rfl, (fun y hy => Nat.le_trans hnb (N101 y hy)), keep_ext K101, sz_r101, sz_el101, Er101, Fe101, Ve101⟩)

theorem pn14 : plainName "com/example/dispatcher/dispatcher/web/BindingResult" = true := by first | (simp [plainName, overriddenIn]; done) | decide +kernel
theorem d11_0 : decode prog_67_method_1_code 0 = .ok (.aload_n 0, 1) := by decide +kernel
theorem d11_1 : decode prog_67_method_1_code 1 = .ok (.invokespecial 1, 3) := by decide +kernel
theorem d11_4 : decode prog_67_method_1_code 4 = .ok (.aload_n 0, 1) := by decide +kernel
theorem d11_5 : decode prog_67_method_1_code 5 = .ok (.aload_n 1, 1) := by decide +kernel
theorem d11_6 : decode prog_67_method_1_code 6 = .ok (.invokestatic 7, 3) := by decide +kernel
theorem d11_9 : decode prog_67_method_1_code 9 = .ok (.putfield 13, 3) := by decide +kernel
theorem d11_12 : decode prog_67_method_1_code 12 = .ok (.return_, 1) := by decide +kernel
set_option maxRecDepth 65536 in
set_option maxHeartbeats 40000000 in
theorem rmB_0 (l : Launch) (Z : State) (a0 : Array Value) (hw : ∀ d ∈ tables_1, d.before a0 Z = true) (ws : List Jvm.Cond) (a1 a2 e1 mr wE wL d : Addr) (kd : ClassId) (u1 : Value) (ms : List Addr) (h0 : Heap) (n0 : Nat) (O0 : Old Z n0 h0) (nb : Nat) (hb0 : n0 ≤ nb) (hnb : nb ≤ h0.size) (fr_a1 : nb ≤ a1) (hm_a1 : True) (S_E : Sta Z Z.heap "java/util/ImmutableCollections" "EMPTY" "Ljava/lang/Object;" (.ref wE)) (S_L : Sta Z Z.heap "java/util/ImmutableCollections" "EMPTY_LIST" "Ljava/util/ImmutableCollections$ListN;" (.ref wL)) (M : Mr Z "[Ljava/lang/Object;" mr) (E1 : Exa Z h0 a1 "com/example/dispatcher/dispatcher/web/BindingResult") (F1 : Fld Z h0 a1 "com/example/dispatcher/dispatcher/web/BindingResult" "errors" "Ljava/util/List;" u1) (E2 : Exa Z h0 a2 "java/util/ArrayList") (F3 : Fld Z h0 a2 "java/util/ArrayList" "size" "I" (.int 0)) (ne21 : a2 ≠ a1) :
    Con l Z ms (⟨"com/example/dispatcher/dispatcher/web/BindingResult", "<init>", "(Ljava/util/List;)V"⟩ : MethodName) prog_67_method_1_code 2 none ws ({ frames := 3, cells := 0, slots := 0, locals := 50 } : Room) #[(.ref a1), (.ref a2)] h0 (fun v vm h L => v = none ∧ Fr nb L ∧ Keep h0 h [a1] ∧ Fld Z h a1 "com/example/dispatcher/dispatcher/web/BindingResult" "errors" "Ljava/util/List;" (.ref wL)) := by
  refine Con.mk (plainFor_of_name pn14) ?_
  intro p e s m below meth c s₁ Cc X0 e0 eb J0 B0 M0
  obtain ⟨hx, hZ, hown, hby, hml, hnm, hret, hlk⟩ := id Cc
  have N0 := Fr.nil nb
  have K0 := Keep.refl h0 [a1]
  show Go p e s below _ _ _ _ s₁ (mkF m 0 #[.val (.ref a1), .val (.ref a2)] [])
  refine Go.of (fun _ hr => XS.aloadN X0.here hx rfl (hb hby d11_0) rfl rfl hr) ?_
  show Go p e s below _ _ _ _ s₁ (mkF m 1 #[.val (.ref a1), .val (.ref a2)] [(.ref a1)])
  obtain ⟨T101, X101, e101, st101⟩ := initO X0 hx hZ hown (hw _ (List.mem_of_getElem? (i := 76) rfl)) (hw _ (List.mem_of_getElem? (i := 23) rfl)) (hw _ (List.mem_of_getElem? (i := 24) rfl)) e0 (g := (mkF m 1 #[.val (.ref a1), .val (.ref a2)] [(.ref a1)])) rfl (by rw [hml]; rfl) rfl (hb hby d11_1) (by decide) (W := 0) (by show 2 * 0 + _ ≤ _; exact Nat.le_of_eq rfl) (by decide)
  refine Go.of (fun _ hr => st101 _ hr) ?_
  show Go p e s below _ _ _ _ T101 (mkF m 4 #[.val (.ref a1), .val (.ref a2)] [])
  refine Go.of (fun _ hr => XS.aloadN X101.here hx rfl (hb hby d11_4) rfl rfl hr) ?_
  show Go p e s below _ _ _ _ T101 (mkF m 5 #[.val (.ref a1), .val (.ref a2)] [(.ref a1)])
  refine Go.of (fun _ hr => XS.aloadN X101.here hx rfl (hb hby d11_5) rfl rfl hr) ?_
  show Go p e s below _ _ _ _ T101 (mkF m 6 #[.val (.ref a1), .val (.ref a2)] [(.ref a2), (.ref a1)])
  obtain ⟨_, b102, T102, h102, L102, e102, Cc102, X102, B102, J102, g102, hQ102, st102⟩ := own_callS Cc B0 J0 X101 (hw _ (List.mem_of_getElem? (i := 77) rfl)) (hw _ (List.mem_of_getElem? (i := 78) rfl)) (hw _ (List.mem_of_getElem? (i := 79) rfl)) (hw _ (List.mem_of_getElem? (i := 80) rfl)) (by decide) (rmCO_0 l Z a0 hw [] a2 a2 mr wE wL a2 0 _ h0 n0 O0 h0.size (own_ole O0) K0.1 S_E S_L M E2 F3) e101 (g := (mkF m 6 #[.val (.ref a1), .val (.ref a2)] [(.ref a2), (.ref a1)])) rfl (by rw [hml]; rfl) (argsL := [(.ref a2)]) (rest := [(.ref a1)]) (lenOf pd18 rfl) rfl (W := 1) (by show 2 * 0 + _ ≤ _; exact Nat.le_of_eq rfl) (hb hby d11_6) (by decide) (by decide) (by decide) (by decide)
  obtain ⟨rfl, Nq102, hh102⟩ := hQ102
  have N102 := Fr.app N0 (show Fr nb _ from fun y hy => Nat.le_trans hnb (Nq102 y hy))
  have NS102 := Fr.app (Fr.nil _) Nq102
  obtain ⟨hx, hZ, hown, hby, hml, hnm, hret, hlk⟩ := id Cc102
  rw [hh102] at e102 B102 J102
  refine Go.of st102 ?_
  show Go p e s below _ _ _ _ T102 (mkF m 9 #[.val (.ref a1), .val (.ref a2)] [(.ref wL), (.ref a1)])
  obtain ⟨T103, h103, X103, e103, W103, st103⟩ := putF X102 hx hZ hown (host := "") (Or.inl (hw _ (List.mem_of_getElem? (i := 106) rfl))) Via.refl e102 F1 E1 (Or.inr ⟨(hw _ (List.mem_of_getElem? (i := 107) rfl)), rfl, hnm⟩) (hw _ (List.mem_of_getElem? (i := 71) rfl)) (ty := (.object "java/util/List")) (by decide) rfl rfl (g := (mkF m 9 #[.val (.ref a1), .val (.ref a2)] [(.ref wL), (.ref a1)])) rfl rfl (hb hby d11_9)
  have N103 := Fr.snoc X103 N102 fr_a1
  have J103 := J102.wr W103 trivial
  have B103 := B102.mono (Nat.le_of_eq W103.size.symm)
  have O103 := O0.wr W103 (Nat.le_trans hb0 fr_a1)
  have K103 := K0.wr W103 (Or.inl (List.mem_of_getElem? (i := 0) rfl))
  have Fw103 := F1.same W103
  refine Go.of (fun _ hr => st103 _ hr) ?_
  show Go p e s below _ _ _ _ T103 (mkF m 12 #[.val (.ref a1), .val (.ref a2)] [])
  exact Go.retV X103 hx hlk B103 J103 e103 hret (hb hby d11_12) (by decide) (by decide) (fun vm_ hw_ => ⟨rfl, N103, K103, Fw103⟩)

set_option maxRecDepth 65536 in
set_option maxHeartbeats 40000000 in
theorem rmB_1 (l : Launch) (Z : State) (a0 : Array Value) (hw : ∀ d ∈ tables_1, d.before a0 Z = true) (ws : List Jvm.Cond) (a1 a2 e1 mr wE wL d : Addr) (kd : ClassId) (u1 : Value) (ms : List Addr) (h0 : Heap) (n0 : Nat) (O0 : Old Z n0 h0) (nb : Nat) (hb0 : n0 ≤ nb) (hnb : nb ≤ h0.size) (fr_a1 : nb ≤ a1) (hm_a1 : True) (S_E : Sta Z Z.heap "java/util/ImmutableCollections" "EMPTY" "Ljava/lang/Object;" (.ref wE)) (S_L : Sta Z Z.heap "java/util/ImmutableCollections" "EMPTY_LIST" "Ljava/util/ImmutableCollections$ListN;" (.ref wL)) (M : Mr Z "[Ljava/lang/Object;" mr) (E1 : Exa Z h0 a1 "com/example/dispatcher/dispatcher/web/BindingResult") (F1 : Fld Z h0 a1 "com/example/dispatcher/dispatcher/web/BindingResult" "errors" "Ljava/util/List;" u1) (E2 : Exa Z h0 a2 "java/util/ArrayList") (F3 : Fld Z h0 a2 "java/util/ArrayList" "size" "I" (.int 1)) (ne21 : a2 ≠ a1) (F2 : Fld Z h0 a2 "java/util/ArrayList" "elementData" "[Ljava/lang/Object;" (.ref d)) (Ed : Exa Z h0 d "[Ljava/lang/Object;") (Vd : Arv Z h0 d kd (.object "java/lang/Object") 10 [(.ref e1), .null, .null, .null, .null, .null, .null, .null, .null, .null] .null) (Ee : Exa Z h0 e1 "com/example/dispatcher/dispatcher/web/FieldError") (ned : d ≠ a1) (nee : e1 ≠ a1) :
    Con l Z ms (⟨"com/example/dispatcher/dispatcher/web/BindingResult", "<init>", "(Ljava/util/List;)V"⟩ : MethodName) prog_67_method_1_code 2 none ws ({ frames := 8, cells := 2, slots := 3, locals := 106 } : Room) #[(.ref a1), (.ref a2)] h0 (fun v vm h L => v = none ∧ Fr nb L ∧ Keep h0 h [a1] ∧ ∃ r, h0.size ≤ r ∧ Exa Z h r "java/util/ImmutableCollections$List12" ∧ Fld Z h a1 "com/example/dispatcher/dispatcher/web/BindingResult" "errors" "Ljava/util/List;" (.ref r)) := by
  refine Con.mk (plainFor_of_name pn14) ?_
  intro p e s m below meth c s₁ Cc X0 e0 eb J0 B0 M0
  obtain ⟨hx, hZ, hown, hby, hml, hnm, hret, hlk⟩ := id Cc
  have N0 := Fr.nil nb
  have K0 := Keep.refl h0 [a1]
  show Go p e s below _ _ _ _ s₁ (mkF m 0 #[.val (.ref a1), .val (.ref a2)] [])
  refine Go.of (fun _ hr => XS.aloadN X0.here hx rfl (hb hby d11_0) rfl rfl hr) ?_
  show Go p e s below _ _ _ _ s₁ (mkF m 1 #[.val (.ref a1), .val (.ref a2)] [(.ref a1)])
  obtain ⟨T101, X101, e101, st101⟩ := initO X0 hx hZ hown (hw _ (List.mem_of_getElem? (i := 76) rfl)) (hw _ (List.mem_of_getElem? (i := 23) rfl)) (hw _ (List.mem_of_getElem? (i := 24) rfl)) e0 (g := (mkF m 1 #[.val (.ref a1), .val (.ref a2)] [(.ref a1)])) rfl (by rw [hml]; rfl) rfl (hb hby d11_1) (by decide) (W := 0) (by show 2 * 0 + _ ≤ _; exact Nat.le_of_eq rfl) (by decide)
  refine Go.of (fun _ hr => st101 _ hr) ?_
  show Go p e s below _ _ _ _ T101 (mkF m 4 #[.val (.ref a1), .val (.ref a2)] [])
  refine Go.of (fun _ hr => XS.aloadN X101.here hx rfl (hb hby d11_4) rfl rfl hr) ?_
  show Go p e s below _ _ _ _ T101 (mkF m 5 #[.val (.ref a1), .val (.ref a2)] [(.ref a1)])
  refine Go.of (fun _ hr => XS.aloadN X101.here hx rfl (hb hby d11_5) rfl rfl hr) ?_
  show Go p e s below _ _ _ _ T101 (mkF m 6 #[.val (.ref a1), .val (.ref a2)] [(.ref a2), (.ref a1)])
  obtain ⟨_, b102, T102, h102, L102, e102, Cc102, X102, B102, J102, g102, hQ102, st102⟩ := own_callS Cc B0 J0 X101 (hw _ (List.mem_of_getElem? (i := 77) rfl)) (hw _ (List.mem_of_getElem? (i := 78) rfl)) (hw _ (List.mem_of_getElem? (i := 79) rfl)) (hw _ (List.mem_of_getElem? (i := 80) rfl)) (by decide) (rmCO_1 l Z a0 hw [] a2 e1 mr wE wL d _ _ h0 n0 O0 h0.size (own_ole O0) K0.1 S_E S_L M E2 F3 F2 Ed Vd Ee) e101 (g := (mkF m 6 #[.val (.ref a1), .val (.ref a2)] [(.ref a2), (.ref a1)])) rfl (by rw [hml]; rfl) (argsL := [(.ref a2)]) (rest := [(.ref a1)]) (lenOf pd18 rfl) rfl (W := 1) (by show 2 * 0 + _ ≤ _; exact Nat.le_of_eq rfl) (hb hby d11_6) (by decide) (by decide) (by decide) (by decide)
  obtain ⟨r102, rfl, Nq102, Eq102, R_r102, Er102⟩ := hQ102
  have N102 := Fr.app N0 (show Fr nb _ from fun y hy => Nat.le_trans hnb (Nq102 y hy))
  have NS102 := Fr.app (Fr.nil _) Nq102
  obtain ⟨hx, hZ, hown, hby, hml, hnm, hret, hlk⟩ := id Cc102
  have sz_r102 : h0.size ≤ r102 := Nat.le_trans K0.1 R_r102
  have fr_r102 : nb ≤ r102 := Nat.le_trans hnb sz_r102
  have ne_a1_r102 : a1 ≠ r102 := Nat.ne_of_lt (Nat.lt_of_lt_of_le E1.lt R_r102)
  have ne_a2_r102 : a2 ≠ r102 := Nat.ne_of_lt (Nat.lt_of_lt_of_le E2.lt R_r102)
  have ne_e1_r102 : e1 ≠ r102 := Nat.ne_of_lt (Nat.lt_of_lt_of_le Ee.lt R_r102)
  have ne_d_r102 : d ≠ r102 := Nat.ne_of_lt (Nat.lt_of_lt_of_le Ed.lt R_r102)
  have K102 := K0.ext Eq102
  have O102 := O0.ext Eq102
  refine Go.of st102 ?_
  show Go p e s below _ _ _ _ T102 (mkF m 9 #[.val (.ref a1), .val (.ref a2)] [(.ref r102), (.ref a1)])
  have f104 := (F1.ext Eq102)
  have f105 := (E1.ext Eq102)
  obtain ⟨T103, h103, X103, e103, W103, st103⟩ := putF X102 hx hZ hown (host := "") (Or.inl (hw _ (List.mem_of_getElem? (i := 106) rfl))) Via.refl e102 f104 f105 (Or.inr ⟨(hw _ (List.mem_of_getElem? (i := 107) rfl)), rfl, hnm⟩) (hw _ (List.mem_of_getElem? (i := 71) rfl)) (ty := (.object "java/util/List")) (by decide) rfl rfl (g := (mkF m 9 #[.val (.ref a1), .val (.ref a2)] [(.ref r102), (.ref a1)])) rfl rfl (hb hby d11_9)
  have N103 := Fr.snoc X103 N102 fr_a1
  have J103 := J102.wr W103 trivial
  have B103 := B102.mono (Nat.le_of_eq W103.size.symm)
  have O103 := O102.wr W103 (Nat.le_trans hb0 fr_a1)
  have K103 := K102.wr W103 (Or.inl (List.mem_of_getElem? (i := 0) rfl))
  have Fw103 := f104.same W103
  refine Go.of (fun _ hr => st103 _ hr) ?_
  show Go p e s below _ _ _ _ T103 (mkF m 12 #[.val (.ref a1), .val (.ref a2)] [])
  have f106 := (Er102.wr W103)
  exact Go.retV X103 hx hlk B103 J103 e103 hret (hb hby d11_12) (by decide) (by decide) (fun vm_ hw_ => ⟨rfl, N103, K103, _, sz_r102, f106, Fw103⟩)

set_option maxRecDepth 65536 in
set_option maxHeartbeats 40000000 in
theorem rmB_2 (l : Launch) (Z : State) (a0 : Array Value) (hw : ∀ d ∈ tables_1, d.before a0 Z = true) (ws : List Jvm.Cond) (a1 a2 e1 mr wE wL d : Addr) (kd : ClassId) (u1 : Value) (ms : List Addr) (h0 : Heap) (n0 : Nat) (O0 : Old Z n0 h0) (nb : Nat) (hb0 : n0 ≤ nb) (hnb : nb ≤ h0.size) (fr_a1 : nb ≤ a1) (hm_a1 : True) (S_E : Sta Z Z.heap "java/util/ImmutableCollections" "EMPTY" "Ljava/lang/Object;" (.ref wE)) (S_L : Sta Z Z.heap "java/util/ImmutableCollections" "EMPTY_LIST" "Ljava/util/ImmutableCollections$ListN;" (.ref wL)) (M : Mr Z "[Ljava/lang/Object;" mr) (E1 : Exa Z h0 a1 "com/example/dispatcher/dispatcher/web/BindingResult") (F1 : Fld Z h0 a1 "com/example/dispatcher/dispatcher/web/BindingResult" "errors" "Ljava/util/List;" u1) (E2 : Exa Z h0 a2 "java/util/ArrayList") (F3 : Fld Z h0 a2 "java/util/ArrayList" "size" "I" (.int 2)) (ne21 : a2 ≠ a1) (F2 : Fld Z h0 a2 "java/util/ArrayList" "elementData" "[Ljava/lang/Object;" (.ref d)) (Ed : Exa Z h0 d "[Ljava/lang/Object;") (Vd : Arv Z h0 d kd (.object "java/lang/Object") 10 [(.ref e1), (.ref e1), .null, .null, .null, .null, .null, .null, .null, .null] .null) (Ee : Exa Z h0 e1 "com/example/dispatcher/dispatcher/web/FieldError") (ned : d ≠ a1) (nee : e1 ≠ a1) :
    Con l Z ms (⟨"com/example/dispatcher/dispatcher/web/BindingResult", "<init>", "(Ljava/util/List;)V"⟩ : MethodName) prog_67_method_1_code 2 none ws ({ frames := 8, cells := 2, slots := 4, locals := 106 } : Room) #[(.ref a1), (.ref a2)] h0 (fun v vm h L => v = none ∧ Fr nb L ∧ Keep h0 h [a1] ∧ ∃ r, h0.size ≤ r ∧ Exa Z h r "java/util/ImmutableCollections$List12" ∧ Fld Z h a1 "com/example/dispatcher/dispatcher/web/BindingResult" "errors" "Ljava/util/List;" (.ref r)) := by
  refine Con.mk (plainFor_of_name pn14) ?_
  intro p e s m below meth c s₁ Cc X0 e0 eb J0 B0 M0
  obtain ⟨hx, hZ, hown, hby, hml, hnm, hret, hlk⟩ := id Cc
  have N0 := Fr.nil nb
  have K0 := Keep.refl h0 [a1]
  show Go p e s below _ _ _ _ s₁ (mkF m 0 #[.val (.ref a1), .val (.ref a2)] [])
  refine Go.of (fun _ hr => XS.aloadN X0.here hx rfl (hb hby d11_0) rfl rfl hr) ?_
  show Go p e s below _ _ _ _ s₁ (mkF m 1 #[.val (.ref a1), .val (.ref a2)] [(.ref a1)])
  obtain ⟨T101, X101, e101, st101⟩ := initO X0 hx hZ hown (hw _ (List.mem_of_getElem? (i := 76) rfl)) (hw _ (List.mem_of_getElem? (i := 23) rfl)) (hw _ (List.mem_of_getElem? (i := 24) rfl)) e0 (g := (mkF m 1 #[.val (.ref a1), .val (.ref a2)] [(.ref a1)])) rfl (by rw [hml]; rfl) rfl (hb hby d11_1) (by decide) (W := 0) (by show 2 * 0 + _ ≤ _; exact Nat.le_of_eq rfl) (by decide)
  refine Go.of (fun _ hr => st101 _ hr) ?_
  show Go p e s below _ _ _ _ T101 (mkF m 4 #[.val (.ref a1), .val (.ref a2)] [])
  refine Go.of (fun _ hr => XS.aloadN X101.here hx rfl (hb hby d11_4) rfl rfl hr) ?_
  show Go p e s below _ _ _ _ T101 (mkF m 5 #[.val (.ref a1), .val (.ref a2)] [(.ref a1)])
  refine Go.of (fun _ hr => XS.aloadN X101.here hx rfl (hb hby d11_5) rfl rfl hr) ?_
  show Go p e s below _ _ _ _ T101 (mkF m 6 #[.val (.ref a1), .val (.ref a2)] [(.ref a2), (.ref a1)])
  obtain ⟨_, b102, T102, h102, L102, e102, Cc102, X102, B102, J102, g102, hQ102, st102⟩ := own_callS Cc B0 J0 X101 (hw _ (List.mem_of_getElem? (i := 77) rfl)) (hw _ (List.mem_of_getElem? (i := 78) rfl)) (hw _ (List.mem_of_getElem? (i := 79) rfl)) (hw _ (List.mem_of_getElem? (i := 80) rfl)) (by decide) (rmCO_2 l Z a0 hw [] a2 e1 mr wE wL d _ _ h0 n0 O0 h0.size (own_ole O0) K0.1 S_E S_L M E2 F3 F2 Ed Vd Ee) e101 (g := (mkF m 6 #[.val (.ref a1), .val (.ref a2)] [(.ref a2), (.ref a1)])) rfl (by rw [hml]; rfl) (argsL := [(.ref a2)]) (rest := [(.ref a1)]) (lenOf pd18 rfl) rfl (W := 1) (by show 2 * 0 + _ ≤ _; exact Nat.le_of_eq rfl) (hb hby d11_6) (by decide) (by decide) (by decide) (by decide)
  obtain ⟨r102, rfl, Nq102, Eq102, R_r102, Er102⟩ := hQ102
  have N102 := Fr.app N0 (show Fr nb _ from fun y hy => Nat.le_trans hnb (Nq102 y hy))
  have NS102 := Fr.app (Fr.nil _) Nq102
  obtain ⟨hx, hZ, hown, hby, hml, hnm, hret, hlk⟩ := id Cc102
  have sz_r102 : h0.size ≤ r102 := Nat.le_trans K0.1 R_r102
  have fr_r102 : nb ≤ r102 := Nat.le_trans hnb sz_r102
  have ne_a1_r102 : a1 ≠ r102 := Nat.ne_of_lt (Nat.lt_of_lt_of_le E1.lt R_r102)
  have ne_a2_r102 : a2 ≠ r102 := Nat.ne_of_lt (Nat.lt_of_lt_of_le E2.lt R_r102)
  have ne_e1_r102 : e1 ≠ r102 := Nat.ne_of_lt (Nat.lt_of_lt_of_le Ee.lt R_r102)
  have ne_d_r102 : d ≠ r102 := Nat.ne_of_lt (Nat.lt_of_lt_of_le Ed.lt R_r102)
  have K102 := K0.ext Eq102
  have O102 := O0.ext Eq102
  refine Go.of st102 ?_
  show Go p e s below _ _ _ _ T102 (mkF m 9 #[.val (.ref a1), .val (.ref a2)] [(.ref r102), (.ref a1)])
  have f104 := (F1.ext Eq102)
  have f105 := (E1.ext Eq102)
  obtain ⟨T103, h103, X103, e103, W103, st103⟩ := putF X102 hx hZ hown (host := "") (Or.inl (hw _ (List.mem_of_getElem? (i := 106) rfl))) Via.refl e102 f104 f105 (Or.inr ⟨(hw _ (List.mem_of_getElem? (i := 107) rfl)), rfl, hnm⟩) (hw _ (List.mem_of_getElem? (i := 71) rfl)) (ty := (.object "java/util/List")) (by decide) rfl rfl (g := (mkF m 9 #[.val (.ref a1), .val (.ref a2)] [(.ref r102), (.ref a1)])) rfl rfl (hb hby d11_9)
  have N103 := Fr.snoc X103 N102 fr_a1
  have J103 := J102.wr W103 trivial
  have B103 := B102.mono (Nat.le_of_eq W103.size.symm)
  have O103 := O102.wr W103 (Nat.le_trans hb0 fr_a1)
  have K103 := K102.wr W103 (Or.inl (List.mem_of_getElem? (i := 0) rfl))
  have Fw103 := f104.same W103
  refine Go.of (fun _ hr => st103 _ hr) ?_
  show Go p e s below _ _ _ _ T103 (mkF m 12 #[.val (.ref a1), .val (.ref a2)] [])
  have f106 := (Er102.wr W103)
  exact Go.retV X103 hx hlk B103 J103 e103 hret (hb hby d11_12) (by decide) (by decide) (fun vm_ hw_ => ⟨rfl, N103, K103, _, sz_r102, f106, Fw103⟩)

set_option maxRecDepth 65536 in
set_option maxHeartbeats 40000000 in
theorem rmB_3 (l : Launch) (Z : State) (a0 : Array Value) (hw : ∀ d ∈ tables_1, d.before a0 Z = true) (ws : List Jvm.Cond) (a1 a2 e1 mr wE wL d : Addr) (kd : ClassId) (u1 : Value) (ms : List Addr) (h0 : Heap) (n0 : Nat) (O0 : Old Z n0 h0) (nb : Nat) (hb0 : n0 ≤ nb) (hnb : nb ≤ h0.size) (fr_a1 : nb ≤ a1) (hm_a1 : True) (S_E : Sta Z Z.heap "java/util/ImmutableCollections" "EMPTY" "Ljava/lang/Object;" (.ref wE)) (S_L : Sta Z Z.heap "java/util/ImmutableCollections" "EMPTY_LIST" "Ljava/util/ImmutableCollections$ListN;" (.ref wL)) (M : Mr Z "[Ljava/lang/Object;" mr) (E1 : Exa Z h0 a1 "com/example/dispatcher/dispatcher/web/BindingResult") (F1 : Fld Z h0 a1 "com/example/dispatcher/dispatcher/web/BindingResult" "errors" "Ljava/util/List;" u1) (E2 : Exa Z h0 a2 "java/util/ArrayList") (F3 : Fld Z h0 a2 "java/util/ArrayList" "size" "I" (.int 3)) (ne21 : a2 ≠ a1) (F2 : Fld Z h0 a2 "java/util/ArrayList" "elementData" "[Ljava/lang/Object;" (.ref d)) (Ed : Exa Z h0 d "[Ljava/lang/Object;") (Vd : Arv Z h0 d kd (.object "java/lang/Object") 10 [(.ref e1), (.ref e1), (.ref e1), .null, .null, .null, .null, .null, .null, .null] .null) (Ee : Exa Z h0 e1 "com/example/dispatcher/dispatcher/web/FieldError") (ned : d ≠ a1) (nee : e1 ≠ a1) :
    Con l Z ms (⟨"com/example/dispatcher/dispatcher/web/BindingResult", "<init>", "(Ljava/util/List;)V"⟩ : MethodName) prog_67_method_1_code 2 none ws ({ frames := 9, cells := 3, slots := 8, locals := 116 } : Room) #[(.ref a1), (.ref a2)] h0 (fun v vm h L => v = none ∧ Fr nb L ∧ Keep h0 h [a1] ∧ ∃ r el ke, h0.size ≤ r ∧ h0.size ≤ el ∧ Exa Z h r "java/util/ImmutableCollections$ListN" ∧ Fld Z h r "java/util/ImmutableCollections$ListN" "elements" "[Ljava/lang/Object;" (.ref el) ∧ Arv Z h el ke (.object "java/lang/Object") 3 [(.ref e1), (.ref e1), (.ref e1)] .null ∧ Fld Z h a1 "com/example/dispatcher/dispatcher/web/BindingResult" "errors" "Ljava/util/List;" (.ref r)) := by
  refine Con.mk (plainFor_of_name pn14) ?_
  intro p e s m below meth c s₁ Cc X0 e0 eb J0 B0 M0
  obtain ⟨hx, hZ, hown, hby, hml, hnm, hret, hlk⟩ := id Cc
  have N0 := Fr.nil nb
  have K0 := Keep.refl h0 [a1]
  show Go p e s below _ _ _ _ s₁ (mkF m 0 #[.val (.ref a1), .val (.ref a2)] [])
  refine Go.of (fun _ hr => XS.aloadN X0.here hx rfl (hb hby d11_0) rfl rfl hr) ?_
  show Go p e s below _ _ _ _ s₁ (mkF m 1 #[.val (.ref a1), .val (.ref a2)] [(.ref a1)])
  obtain ⟨T101, X101, e101, st101⟩ := initO X0 hx hZ hown (hw _ (List.mem_of_getElem? (i := 76) rfl)) (hw _ (List.mem_of_getElem? (i := 23) rfl)) (hw _ (List.mem_of_getElem? (i := 24) rfl)) e0 (g := (mkF m 1 #[.val (.ref a1), .val (.ref a2)] [(.ref a1)])) rfl (by rw [hml]; rfl) rfl (hb hby d11_1) (by decide) (W := 0) (by show 2 * 0 + _ ≤ _; exact Nat.le_of_eq rfl) (by decide)
  refine Go.of (fun _ hr => st101 _ hr) ?_
  show Go p e s below _ _ _ _ T101 (mkF m 4 #[.val (.ref a1), .val (.ref a2)] [])
  refine Go.of (fun _ hr => XS.aloadN X101.here hx rfl (hb hby d11_4) rfl rfl hr) ?_
  show Go p e s below _ _ _ _ T101 (mkF m 5 #[.val (.ref a1), .val (.ref a2)] [(.ref a1)])
  refine Go.of (fun _ hr => XS.aloadN X101.here hx rfl (hb hby d11_5) rfl rfl hr) ?_
  show Go p e s below _ _ _ _ T101 (mkF m 6 #[.val (.ref a1), .val (.ref a2)] [(.ref a2), (.ref a1)])
  obtain ⟨_, b102, T102, h102, L102, e102, Cc102, X102, B102, J102, g102, hQ102, st102⟩ := own_callS Cc B0 J0 X101 (hw _ (List.mem_of_getElem? (i := 77) rfl)) (hw _ (List.mem_of_getElem? (i := 78) rfl)) (hw _ (List.mem_of_getElem? (i := 79) rfl)) (hw _ (List.mem_of_getElem? (i := 80) rfl)) (by decide) (rmCO_3 l Z a0 hw [] a2 e1 mr wE wL d _ _ h0 n0 O0 h0.size (own_ole O0) K0.1 S_E S_L M E2 F3 F2 Ed Vd Ee) e101 (g := (mkF m 6 #[.val (.ref a1), .val (.ref a2)] [(.ref a2), (.ref a1)])) rfl (by rw [hml]; rfl) (argsL := [(.ref a2)]) (rest := [(.ref a1)]) (lenOf pd18 rfl) rfl (W := 1) (by show 2 * 0 + _ ≤ _; exact Nat.le_of_eq rfl) (hb hby d11_6) (by decide) (by decide) (by decide) (by decide)
  obtain ⟨r102, el102, ke102, rfl, Nq102, Eq102, R_r102, R_el102, Er102, Fe102, Ve102⟩ := hQ102
  have N102 := Fr.app N0 (show Fr nb _ from fun y hy => Nat.le_trans hnb (Nq102 y hy))
  have NS102 := Fr.app (Fr.nil _) Nq102
  obtain ⟨hx, hZ, hown, hby, hml, hnm, hret, hlk⟩ := id Cc102
  have sz_r102 : h0.size ≤ r102 := Nat.le_trans K0.1 R_r102
  have fr_r102 : nb ≤ r102 := Nat.le_trans hnb sz_r102
  have ne_a1_r102 : a1 ≠ r102 := Nat.ne_of_lt (Nat.lt_of_lt_of_le E1.lt R_r102)
  have ne_a2_r102 : a2 ≠ r102 := Nat.ne_of_lt (Nat.lt_of_lt_of_le E2.lt R_r102)
  have ne_e1_r102 : e1 ≠ r102 := Nat.ne_of_lt (Nat.lt_of_lt_of_le Ee.lt R_r102)
  have ne_d_r102 : d ≠ r102 := Nat.ne_of_lt (Nat.lt_of_lt_of_le Ed.lt R_r102)
  have sz_el102 : h0.size ≤ el102 := Nat.le_trans K0.1 R_el102
  have fr_el102 : nb ≤ el102 := Nat.le_trans hnb sz_el102
  have ne_a1_el102 : a1 ≠ el102 := Nat.ne_of_lt (Nat.lt_of_lt_of_le E1.lt R_el102)
  have ne_a2_el102 : a2 ≠ el102 := Nat.ne_of_lt (Nat.lt_of_lt_of_le E2.lt R_el102)
  have ne_e1_el102 : e1 ≠ el102 := Nat.ne_of_lt (Nat.lt_of_lt_of_le Ee.lt R_el102)
  have ne_d_el102 : d ≠ el102 := Nat.ne_of_lt (Nat.lt_of_lt_of_le Ed.lt R_el102)
  have K102 := K0.ext Eq102
  have O102 := O0.ext Eq102
  refine Go.of st102 ?_
  show Go p e s below _ _ _ _ T102 (mkF m 9 #[.val (.ref a1), .val (.ref a2)] [(.ref r102), (.ref a1)])
  have f104 := (F1.ext Eq102)
  have f105 := (E1.ext Eq102)
  obtain ⟨T103, h103, X103, e103, W103, st103⟩ := putF X102 hx hZ hown (host := "") (Or.inl (hw _ (List.mem_of_getElem? (i := 106) rfl))) Via.refl e102 f104 f105 (Or.inr ⟨(hw _ (List.mem_of_getElem? (i := 107) rfl)), rfl, hnm⟩) (hw _ (List.mem_of_getElem? (i := 71) rfl)) (ty := (.object "java/util/List")) (by decide) rfl rfl (g := (mkF m 9 #[.val (.ref a1), .val (.ref a2)] [(.ref r102), (.ref a1)])) rfl rfl (hb hby d11_9)
  have N103 := Fr.snoc X103 N102 fr_a1
  have J103 := J102.wr W103 trivial
  have B103 := B102.mono (Nat.le_of_eq W103.size.symm)
  have O103 := O102.wr W103 (Nat.le_trans hb0 fr_a1)
  have K103 := K102.wr W103 (Or.inl (List.mem_of_getElem? (i := 0) rfl))
  have Fw103 := f104.same W103
  refine Go.of (fun _ hr => st103 _ hr) ?_
  show Go p e s below _ _ _ _ T103 (mkF m 12 #[.val (.ref a1), .val (.ref a2)] [])
  have f106 := (Er102.wr W103)
  have f107 := (Fe102.other W103 (Or.inl (Ne.symm ne_a1_r102)))
  have f108 := (Ve102.other W103 (Ne.symm ne_a1_el102))
  exact Go.retV X103 hx hlk B103 J103 e103 hret (hb hby d11_12) (by decide) (by decide) (fun vm_ hw_ => ⟨rfl, N103, K103, _, _, _, sz_r102, sz_el102, f106, f107, f108, Fw103⟩)

theorem d32_0 : decode jdk_44_method_4_code 0 = .ok (.iconst 0, 1) := by decide +kernel
theorem d32_1 : decode jdk_44_method_4_code 1 = .ok (.ireturn, 1) := by decide +kernel
set_option maxRecDepth 65536 in
set_option maxHeartbeats 40000000 in
theorem rm32 (l : Launch) (Z : State) (a0 : Array Value) (hw : ∀ d ∈ tables_1, d.before a0 Z = true) (ws : List Jvm.Cond) (a1 : Addr) (ms : List Addr) (h0 : Heap) (n0 : Nat) (O0 : Old Z n0 h0) (nb : Nat) (hb0 : n0 ≤ nb) (hnb : nb ≤ h0.size) :
    Con l Z ms (⟨"java/util/ImmutableCollections$List12", "isEmpty", "()Z"⟩ : MethodName) jdk_44_method_4_code 1 (some .boolean) ws ({ frames := 0, cells := 0, slots := 0, locals := 0 } : Room) #[(.ref a1)] h0 (fun v vm h L => v = some (.int 0) ∧ Fr nb L ∧ h = h0) := by
  refine Con.mk (plainFor_of_name pn10) ?_
  intro p e s m below meth c s₁ Cc X0 e0 eb J0 B0 M0
  obtain ⟨hx, hZ, hown, hby, hml, hnm, hret, hlk⟩ := id Cc
  have N0 := Fr.nil h0.size
  have K0 := Keep.refl h0 []
  show Go p e s below _ _ _ _ s₁ (mkF m 0 #[.val (.ref a1)] [])
  refine Go.of (fun _ hr => XS.iconst X0.here hx rfl (hb hby d32_0) hr) ?_
  show Go p e s below _ _ _ _ s₁ (mkF m 1 #[.val (.ref a1)] [(.int (0 : Int32))])
  exact Go.retN X0 hx hlk B0 J0 e0 (t := .boolean) (z' := (0 : Int32)) hret (by simp) (hb hby d32_1) rfl (by decide) (by decide) (fun vm_ hw_ => ⟨rfl, (fun y hy => Nat.le_trans hnb (N0 y hy)), rfl⟩)

theorem d17_0 : decode jdk_45_method_2_code 0 = .ok (.aload_n 0, 1) := by decide +kernel
theorem d17_1 : decode jdk_45_method_2_code 1 = .ok (.getfield 7, 3) := by decide +kernel
theorem d17_4 : decode jdk_45_method_2_code 4 = .ok (.arraylength, 1) := by decide +kernel
theorem d17_5 : decode jdk_45_method_2_code 5 = .ok (.ifCond .ne 7, 3) := by decide +kernel
theorem d17_8 : decode jdk_45_method_2_code 8 = .ok (.iconst 1, 1) := by decide +kernel
theorem d17_9 : decode jdk_45_method_2_code 9 = .ok (.goto 4, 3) := by decide +kernel
theorem d17_13 : decode jdk_45_method_2_code 13 = .ok (.ireturn, 1) := by decide +kernel
set_option maxRecDepth 65536 in
set_option maxHeartbeats 40000000 in
theorem rmIN_0 (l : Launch) (Z : State) (a0 : Array Value) (hw : ∀ d ∈ tables_1, d.before a0 Z = true) (ws : List Jvm.Cond) (a1 el e1 : Addr) (ke : ClassId) (ms : List Addr) (h0 : Heap) (n0 : Nat) (O0 : Old Z n0 h0) (nb : Nat) (hb0 : n0 ≤ nb) (hnb : nb ≤ h0.size) (F1 : Fld Z h0 a1 "java/util/ImmutableCollections$ListN" "elements" "[Ljava/lang/Object;" (.ref el)) (V1 : Arv Z h0 el ke (.object "java/lang/Object") 0 [] .null) :
    Con l Z ms (⟨"java/util/ImmutableCollections$ListN", "isEmpty", "()Z"⟩ : MethodName) jdk_45_method_2_code 1 (some .boolean) ws ({ frames := 0, cells := 0, slots := 0, locals := 0 } : Room) #[(.ref a1)] h0 (fun v vm h L => v = some (.int 1) ∧ Fr nb L ∧ h = h0) := by
  refine Con.mk (plainFor_of_name pn11) ?_
  intro p e s m below meth c s₁ Cc X0 e0 eb J0 B0 M0
  obtain ⟨hx, hZ, hown, hby, hml, hnm, hret, hlk⟩ := id Cc
  have N0 := Fr.nil h0.size
  have K0 := Keep.refl h0 []
  show Go p e s below _ _ _ _ s₁ (mkF m 0 #[.val (.ref a1)] [])
  refine Go.of (fun _ hr => XS.aloadN X0.here hx rfl (hb hby d17_0) rfl rfl hr) ?_
  show Go p e s below _ _ _ _ s₁ (mkF m 1 #[.val (.ref a1)] [(.ref a1)])
  obtain ⟨T101, X101, e101, st101⟩ := getF X0 hx hZ hown (host := "") (Or.inl (hw _ (List.mem_of_getElem? (i := 123) rfl))) Via.refl e0 F1 (g := (mkF m 1 #[.val (.ref a1)] [(.ref a1)])) rfl rfl (hb hby d17_1)
  refine Go.of (fun _ hr => st101 _ hr) ?_
  show Go p e s below _ _ _ _ T101 (mkF m 4 #[.val (.ref a1)] [(.ref el)])
  obtain ⟨cl102, Ar102, q102, S102, N102_, H102, G102⟩ := id V1
  refine Go.of (fun _ hr => X101.arraylength hx (by rw [e101]; exact Ar102.1) (State.isArrayOf_alike hZ.alike Ar102.2.1) (g := (mkF m 4 #[.val (.ref a1)] [(.ref el)])) rfl rfl (hb hby d17_4) _ hr) ?_
  rw [len_of S102 N102_]
  show Go p e s below _ _ _ _ T101 (mkF m 5 #[.val (.ref a1)] [(.int (0 : Int32))])
  refine Go.of (fun _ hr => XS.ifNo X101.here hx rfl (hb hby d17_5) rfl ((if0 _ _).trans (teq (by decide : ((0 : Int32) = (0 : Int32)))).2) hr) ?_
  show Go p e s below _ _ _ _ T101 (mkF m 8 #[.val (.ref a1)] [])
  refine Go.of (fun _ hr => XS.iconst X101.here hx rfl (hb hby d17_8) hr) ?_
  show Go p e s below _ _ _ _ T101 (mkF m 9 #[.val (.ref a1)] [(.int (1 : Int32))])
  refine Go.of (fun _ hr => XS.goto X101.here hx rfl (pc0 := 9) (pc' := 13) rfl (hb hby d17_9) (by decide) (by decide) hr) ?_
  show Go p e s below _ _ _ _ T101 (mkF m 13 #[.val (.ref a1)] [(.int (1 : Int32))])
  exact Go.retN X101 hx hlk B0 J0 e101 (t := .boolean) (z' := (1 : Int32)) hret (by simp) (hb hby d17_13) rfl (by decide) (by decide) (fun vm_ hw_ => ⟨rfl, (fun y hy => Nat.le_trans hnb (N0 y hy)), rfl⟩)

theorem d17_12 : decode jdk_45_method_2_code 12 = .ok (.iconst 0, 1) := by decide +kernel
set_option maxRecDepth 65536 in
set_option maxHeartbeats 40000000 in
theorem rmIN_3 (l : Launch) (Z : State) (a0 : Array Value) (hw : ∀ d ∈ tables_1, d.before a0 Z = true) (ws : List Jvm.Cond) (a1 el e1 : Addr) (ke : ClassId) (ms : List Addr) (h0 : Heap) (n0 : Nat) (O0 : Old Z n0 h0) (nb : Nat) (hb0 : n0 ≤ nb) (hnb : nb ≤ h0.size) (F1 : Fld Z h0 a1 "java/util/ImmutableCollections$ListN" "elements" "[Ljava/lang/Object;" (.ref el)) (V1 : Arv Z h0 el ke (.object "java/lang/Object") 3 [(.ref e1), (.ref e1), (.ref e1)] .null) :
    Con l Z ms (⟨"java/util/ImmutableCollections$ListN", "isEmpty", "()Z"⟩ : MethodName) jdk_45_method_2_code 1 (some .boolean) ws ({ frames := 0, cells := 0, slots := 0, locals := 0 } : Room) #[(.ref a1)] h0 (fun v vm h L => v = some (.int 0) ∧ Fr nb L ∧ h = h0) := by
  refine Con.mk (plainFor_of_name pn11) ?_
  intro p e s m below meth c s₁ Cc X0 e0 eb J0 B0 M0
  obtain ⟨hx, hZ, hown, hby, hml, hnm, hret, hlk⟩ := id Cc
  have N0 := Fr.nil h0.size
  have K0 := Keep.refl h0 []
  show Go p e s below _ _ _ _ s₁ (mkF m 0 #[.val (.ref a1)] [])
  refine Go.of (fun _ hr => XS.aloadN X0.here hx rfl (hb hby d17_0) rfl rfl hr) ?_
  show Go p e s below _ _ _ _ s₁ (mkF m 1 #[.val (.ref a1)] [(.ref a1)])
  obtain ⟨T101, X101, e101, st101⟩ := getF X0 hx hZ hown (host := "") (Or.inl (hw _ (List.mem_of_getElem? (i := 123) rfl))) Via.refl e0 F1 (g := (mkF m 1 #[.val (.ref a1)] [(.ref a1)])) rfl rfl (hb hby d17_1)
  refine Go.of (fun _ hr => st101 _ hr) ?_
  show Go p e s below _ _ _ _ T101 (mkF m 4 #[.val (.ref a1)] [(.ref el)])
  obtain ⟨cl102, Ar102, q102, S102, N102_, H102, G102⟩ := id V1
  refine Go.of (fun _ hr => X101.arraylength hx (by rw [e101]; exact Ar102.1) (State.isArrayOf_alike hZ.alike Ar102.2.1) (g := (mkF m 4 #[.val (.ref a1)] [(.ref el)])) rfl rfl (hb hby d17_4) _ hr) ?_
  rw [len_of S102 N102_]
  show Go p e s below _ _ _ _ T101 (mkF m 5 #[.val (.ref a1)] [(.int (3 : Int32))])
  refine Go.of (fun _ hr => XS.ifYes X101.here hx rfl (pc0 := 5) (pc' := 12) rfl (hb hby d17_5) rfl ((if0 _ _).trans (feq (by decide : ¬ ((3 : Int32) = (0 : Int32)))).2) (by decide) (by decide) hr) ?_
  show Go p e s below _ _ _ _ T101 (mkF m 12 #[.val (.ref a1)] [])
  refine Go.of (fun _ hr => XS.iconst X101.here hx rfl (hb hby d17_12) hr) ?_
  show Go p e s below _ _ _ _ T101 (mkF m 13 #[.val (.ref a1)] [(.int (0 : Int32))])
  exact Go.retN X101 hx hlk B0 J0 e101 (t := .boolean) (z' := (0 : Int32)) hret (by simp) (hb hby d17_13) rfl (by decide) (by decide) (fun vm_ hw_ => ⟨rfl, (fun y hy => Nat.le_trans hnb (N0 y hy)), rfl⟩)

theorem d16_0 : decode prog_67_method_3_code 0 = .ok (.aload_n 0, 1) := by decide +kernel
theorem d16_1 : decode prog_67_method_3_code 1 = .ok (.getfield 13, 3) := by decide +kernel
theorem d16_4 : decode prog_67_method_3_code 4 = .ok (.invokeinterface 27 1, 5) := by decide +kernel
theorem d16_9 : decode prog_67_method_3_code 9 = .ok (.ifCond .ne 7, 3) := by decide +kernel
theorem d16_16 : decode prog_67_method_3_code 16 = .ok (.iconst 0, 1) := by decide +kernel
theorem d16_17 : decode prog_67_method_3_code 17 = .ok (.ireturn, 1) := by decide +kernel
set_option maxRecDepth 65536 in
set_option maxHeartbeats 40000000 in
theorem rmH_0 (l : Launch) (Z : State) (a0 : Array Value) (hw : ∀ d ∈ tables_1, d.before a0 Z = true) (ws : List Jvm.Cond) (a1 r el e1 : Addr) (ke : ClassId) (ms : List Addr) (h0 : Heap) (n0 : Nat) (O0 : Old Z n0 h0) (nb : Nat) (hb0 : n0 ≤ nb) (hnb : nb ≤ h0.size) (F1 : Fld Z h0 a1 "com/example/dispatcher/dispatcher/web/BindingResult" "errors" "Ljava/util/List;" (.ref r)) (Er : Exa Z h0 r "java/util/ImmutableCollections$ListN") (F2 : Fld Z h0 r "java/util/ImmutableCollections$ListN" "elements" "[Ljava/lang/Object;" (.ref el)) (V1 : Arv Z h0 el ke (.object "java/lang/Object") 0 [] .null) :
    Con l Z ms (⟨"com/example/dispatcher/dispatcher/web/BindingResult", "hasErrors", "()Z"⟩ : MethodName) prog_67_method_3_code 1 (some .boolean) ws ({ frames := 1, cells := 0, slots := 0, locals := 12 } : Room) #[(.ref a1)] h0 (fun v vm h L => v = some (.int 0) ∧ Fr nb L ∧ h = h0) := by
  refine Con.mk (plainFor_of_name pn14) ?_
  intro p e s m below meth c s₁ Cc X0 e0 eb J0 B0 M0
  obtain ⟨hx, hZ, hown, hby, hml, hnm, hret, hlk⟩ := id Cc
  have N0 := Fr.nil h0.size
  have K0 := Keep.refl h0 []
  show Go p e s below _ _ _ _ s₁ (mkF m 0 #[.val (.ref a1)] [])
  refine Go.of (fun _ hr => XS.aloadN X0.here hx rfl (hb hby d16_0) rfl rfl hr) ?_
  show Go p e s below _ _ _ _ s₁ (mkF m 1 #[.val (.ref a1)] [(.ref a1)])
  obtain ⟨T101, X101, e101, st101⟩ := getF X0 hx hZ hown (host := "") (Or.inl (hw _ (List.mem_of_getElem? (i := 106) rfl))) Via.refl e0 F1 (g := (mkF m 1 #[.val (.ref a1)] [(.ref a1)])) rfl rfl (hb hby d16_1)
  refine Go.of (fun _ hr => st101 _ hr) ?_
  show Go p e s below _ _ _ _ T101 (mkF m 4 #[.val (.ref a1)] [(.ref r)])
  obtain ⟨_, b102, T102, h102, L102, e102, Cc102, X102, B102, J102, g102, hQ102, st102⟩ := own_callF Cc B0 J0 X101 (y := (⟨"java/util/List", "isEmpty", "()Z"⟩ : MethodName)) (z := (⟨"java/util/ImmutableCollections$ListN", "isEmpty", "()Z"⟩ : MethodName)) (hw _ (List.mem_of_getElem? (i := 113) rfl)) (hw _ (List.mem_of_getElem? (i := 114) rfl)) (hw _ (List.mem_of_getElem? (i := 115) rfl)) (by first | rfl | decide +kernel) (hw _ (List.mem_of_getElem? (i := 116) rfl)) (hw _ (List.mem_of_getElem? (i := 117) rfl)) (hw _ (List.mem_of_getElem? (i := 118) rfl)) (hw _ (List.mem_of_getElem? (i := 119) rfl)) (hw _ (List.mem_of_getElem? (i := 120) rfl)) (hw _ (List.mem_of_getElem? (i := 121) rfl)) (hw _ (List.mem_of_getElem? (i := 122) rfl)) (by decide) Er (rmIN_0 l Z a0 hw [] r el el _ _ h0 n0 O0 h0.size (own_ole O0) K0.1 F2 V1) e101 (g := (mkF m 4 #[.val (.ref a1)] [(.ref r)])) rfl (by rw [hml]; rfl) (argsL := []) (rest := []) (lenOf pd16 rfl) rfl (W := 0) (by show 2 * 0 + _ ≤ _; exact Nat.le_of_eq rfl) (hb hby d16_4) (by decide) (by decide) (by decide) (by decide)
  obtain ⟨rfl, Nq102, hh102⟩ := hQ102
  have N102 := Fr.app N0 Nq102
  obtain ⟨hx, hZ, hown, hby, hml, hnm, hret, hlk⟩ := id Cc102
  rw [hh102] at e102 B102 J102
  refine Go.of st102 ?_
  show Go p e s below _ _ _ _ T102 (mkF m 9 #[.val (.ref a1)] [(.int (1 : Int32))])
  refine Go.of (fun _ hr => XS.ifYes X102.here hx rfl (pc0 := 9) (pc' := 16) rfl (hb hby d16_9) rfl ((if0 _ _).trans (feq (by decide : ¬ ((1 : Int32) = (0 : Int32)))).2) (by decide) (by decide) hr) ?_
  show Go p e s below _ _ _ _ T102 (mkF m 16 #[.val (.ref a1)] [])
  refine Go.of (fun _ hr => XS.iconst X102.here hx rfl (hb hby d16_16) hr) ?_
  show Go p e s below _ _ _ _ T102 (mkF m 17 #[.val (.ref a1)] [(.int (0 : Int32))])
  exact Go.retN X102 hx hlk B102 J102 e102 (t := .boolean) (z' := (0 : Int32)) hret (by simp) (hb hby d16_17) rfl (by decide) (by decide) (fun vm_ hw_ => ⟨rfl, (fun y hy => Nat.le_trans hnb (N102 y hy)), rfl⟩)

theorem d16_12 : decode prog_67_method_3_code 12 = .ok (.iconst 1, 1) := by decide +kernel
theorem d16_13 : decode prog_67_method_3_code 13 = .ok (.goto 4, 3) := by decide +kernel
set_option maxRecDepth 65536 in
set_option maxHeartbeats 40000000 in
theorem rmH_1 (l : Launch) (Z : State) (a0 : Array Value) (hw : ∀ d ∈ tables_1, d.before a0 Z = true) (ws : List Jvm.Cond) (a1 r el e1 : Addr) (ke : ClassId) (ms : List Addr) (h0 : Heap) (n0 : Nat) (O0 : Old Z n0 h0) (nb : Nat) (hb0 : n0 ≤ nb) (hnb : nb ≤ h0.size) (F1 : Fld Z h0 a1 "com/example/dispatcher/dispatcher/web/BindingResult" "errors" "Ljava/util/List;" (.ref r)) (Er : Exa Z h0 r "java/util/ImmutableCollections$List12") :
    Con l Z ms (⟨"com/example/dispatcher/dispatcher/web/BindingResult", "hasErrors", "()Z"⟩ : MethodName) prog_67_method_3_code 1 (some .boolean) ws ({ frames := 1, cells := 0, slots := 0, locals := 12 } : Room) #[(.ref a1)] h0 (fun v vm h L => v = some (.int 1) ∧ Fr nb L ∧ h = h0) := by
  refine Con.mk (plainFor_of_name pn14) ?_
  intro p e s m below meth c s₁ Cc X0 e0 eb J0 B0 M0
  obtain ⟨hx, hZ, hown, hby, hml, hnm, hret, hlk⟩ := id Cc
  have N0 := Fr.nil h0.size
  have K0 := Keep.refl h0 []
  show Go p e s below _ _ _ _ s₁ (mkF m 0 #[.val (.ref a1)] [])
  refine Go.of (fun _ hr => XS.aloadN X0.here hx rfl (hb hby d16_0) rfl rfl hr) ?_
  show Go p e s below _ _ _ _ s₁ (mkF m 1 #[.val (.ref a1)] [(.ref a1)])
  obtain ⟨T101, X101, e101, st101⟩ := getF X0 hx hZ hown (host := "") (Or.inl (hw _ (List.mem_of_getElem? (i := 106) rfl))) Via.refl e0 F1 (g := (mkF m 1 #[.val (.ref a1)] [(.ref a1)])) rfl rfl (hb hby d16_1)
  refine Go.of (fun _ hr => st101 _ hr) ?_
  show Go p e s below _ _ _ _ T101 (mkF m 4 #[.val (.ref a1)] [(.ref r)])
  obtain ⟨_, b102, T102, h102, L102, e102, Cc102, X102, B102, J102, g102, hQ102, st102⟩ := own_callF Cc B0 J0 X101 (y := (⟨"java/util/List", "isEmpty", "()Z"⟩ : MethodName)) (z := (⟨"java/util/ImmutableCollections$List12", "isEmpty", "()Z"⟩ : MethodName)) (hw _ (List.mem_of_getElem? (i := 113) rfl)) (hw _ (List.mem_of_getElem? (i := 114) rfl)) (hw _ (List.mem_of_getElem? (i := 115) rfl)) (by first | rfl | decide +kernel) (hw _ (List.mem_of_getElem? (i := 216) rfl)) (hw _ (List.mem_of_getElem? (i := 217) rfl)) (hw _ (List.mem_of_getElem? (i := 218) rfl)) (hw _ (List.mem_of_getElem? (i := 219) rfl)) (hw _ (List.mem_of_getElem? (i := 220) rfl)) (hw _ (List.mem_of_getElem? (i := 189) rfl)) (hw _ (List.mem_of_getElem? (i := 221) rfl)) (by decide) Er (rm32 l Z a0 hw [] r _ h0 n0 O0 h0.size (own_ole O0) K0.1) e101 (g := (mkF m 4 #[.val (.ref a1)] [(.ref r)])) rfl (by rw [hml]; rfl) (argsL := []) (rest := []) (lenOf pd16 rfl) rfl (W := 0) (by show 2 * 0 + _ ≤ _; exact Nat.le_of_eq rfl) (hb hby d16_4) (by decide) (by decide) (by decide) (by decide)
  obtain ⟨rfl, Nq102, hh102⟩ := hQ102
  have N102 := Fr.app N0 Nq102
  obtain ⟨hx, hZ, hown, hby, hml, hnm, hret, hlk⟩ := id Cc102
  rw [hh102] at e102 B102 J102
  refine Go.of st102 ?_
  show Go p e s below _ _ _ _ T102 (mkF m 9 #[.val (.ref a1)] [(.int (0 : Int32))])
  refine Go.of (fun _ hr => XS.ifNo X102.here hx rfl (hb hby d16_9) rfl ((if0 _ _).trans (teq (by decide : ((0 : Int32) = (0 : Int32)))).2) hr) ?_
  show Go p e s below _ _ _ _ T102 (mkF m 12 #[.val (.ref a1)] [])
  refine Go.of (fun _ hr => XS.iconst X102.here hx rfl (hb hby d16_12) hr) ?_
  show Go p e s below _ _ _ _ T102 (mkF m 13 #[.val (.ref a1)] [(.int (1 : Int32))])
  refine Go.of (fun _ hr => XS.goto X102.here hx rfl (pc0 := 13) (pc' := 17) rfl (hb hby d16_13) (by decide) (by decide) hr) ?_
  show Go p e s below _ _ _ _ T102 (mkF m 17 #[.val (.ref a1)] [(.int (1 : Int32))])
  exact Go.retN X102 hx hlk B102 J102 e102 (t := .boolean) (z' := (1 : Int32)) hret (by simp) (hb hby d16_17) rfl (by decide) (by decide) (fun vm_ hw_ => ⟨rfl, (fun y hy => Nat.le_trans hnb (N102 y hy)), rfl⟩)

set_option maxRecDepth 65536 in
set_option maxHeartbeats 40000000 in
theorem rmH_3 (l : Launch) (Z : State) (a0 : Array Value) (hw : ∀ d ∈ tables_1, d.before a0 Z = true) (ws : List Jvm.Cond) (a1 r el e1 : Addr) (ke : ClassId) (ms : List Addr) (h0 : Heap) (n0 : Nat) (O0 : Old Z n0 h0) (nb : Nat) (hb0 : n0 ≤ nb) (hnb : nb ≤ h0.size) (F1 : Fld Z h0 a1 "com/example/dispatcher/dispatcher/web/BindingResult" "errors" "Ljava/util/List;" (.ref r)) (Er : Exa Z h0 r "java/util/ImmutableCollections$ListN") (F2 : Fld Z h0 r "java/util/ImmutableCollections$ListN" "elements" "[Ljava/lang/Object;" (.ref el)) (V1 : Arv Z h0 el ke (.object "java/lang/Object") 3 [(.ref e1), (.ref e1), (.ref e1)] .null) :
    Con l Z ms (⟨"com/example/dispatcher/dispatcher/web/BindingResult", "hasErrors", "()Z"⟩ : MethodName) prog_67_method_3_code 1 (some .boolean) ws ({ frames := 1, cells := 0, slots := 0, locals := 12 } : Room) #[(.ref a1)] h0 (fun v vm h L => v = some (.int 1) ∧ Fr nb L ∧ h = h0) := by
  refine Con.mk (plainFor_of_name pn14) ?_
  intro p e s m below meth c s₁ Cc X0 e0 eb J0 B0 M0
  obtain ⟨hx, hZ, hown, hby, hml, hnm, hret, hlk⟩ := id Cc
  have N0 := Fr.nil h0.size
  have K0 := Keep.refl h0 []
  show Go p e s below _ _ _ _ s₁ (mkF m 0 #[.val (.ref a1)] [])
  refine Go.of (fun _ hr => XS.aloadN X0.here hx rfl (hb hby d16_0) rfl rfl hr) ?_
  show Go p e s below _ _ _ _ s₁ (mkF m 1 #[.val (.ref a1)] [(.ref a1)])
  obtain ⟨T101, X101, e101, st101⟩ := getF X0 hx hZ hown (host := "") (Or.inl (hw _ (List.mem_of_getElem? (i := 106) rfl))) Via.refl e0 F1 (g := (mkF m 1 #[.val (.ref a1)] [(.ref a1)])) rfl rfl (hb hby d16_1)
  refine Go.of (fun _ hr => st101 _ hr) ?_
  show Go p e s below _ _ _ _ T101 (mkF m 4 #[.val (.ref a1)] [(.ref r)])
  obtain ⟨_, b102, T102, h102, L102, e102, Cc102, X102, B102, J102, g102, hQ102, st102⟩ := own_callF Cc B0 J0 X101 (y := (⟨"java/util/List", "isEmpty", "()Z"⟩ : MethodName)) (z := (⟨"java/util/ImmutableCollections$ListN", "isEmpty", "()Z"⟩ : MethodName)) (hw _ (List.mem_of_getElem? (i := 113) rfl)) (hw _ (List.mem_of_getElem? (i := 114) rfl)) (hw _ (List.mem_of_getElem? (i := 115) rfl)) (by first | rfl | decide +kernel) (hw _ (List.mem_of_getElem? (i := 116) rfl)) (hw _ (List.mem_of_getElem? (i := 117) rfl)) (hw _ (List.mem_of_getElem? (i := 118) rfl)) (hw _ (List.mem_of_getElem? (i := 119) rfl)) (hw _ (List.mem_of_getElem? (i := 120) rfl)) (hw _ (List.mem_of_getElem? (i := 121) rfl)) (hw _ (List.mem_of_getElem? (i := 122) rfl)) (by decide) Er (rmIN_3 l Z a0 hw [] r el e1 _ _ h0 n0 O0 h0.size (own_ole O0) K0.1 F2 V1) e101 (g := (mkF m 4 #[.val (.ref a1)] [(.ref r)])) rfl (by rw [hml]; rfl) (argsL := []) (rest := []) (lenOf pd16 rfl) rfl (W := 0) (by show 2 * 0 + _ ≤ _; exact Nat.le_of_eq rfl) (hb hby d16_4) (by decide) (by decide) (by decide) (by decide)
  obtain ⟨rfl, Nq102, hh102⟩ := hQ102
  have N102 := Fr.app N0 Nq102
  obtain ⟨hx, hZ, hown, hby, hml, hnm, hret, hlk⟩ := id Cc102
  rw [hh102] at e102 B102 J102
  refine Go.of st102 ?_
  show Go p e s below _ _ _ _ T102 (mkF m 9 #[.val (.ref a1)] [(.int (0 : Int32))])
  refine Go.of (fun _ hr => XS.ifNo X102.here hx rfl (hb hby d16_9) rfl ((if0 _ _).trans (teq (by decide : ((0 : Int32) = (0 : Int32)))).2) hr) ?_
  show Go p e s below _ _ _ _ T102 (mkF m 12 #[.val (.ref a1)] [])
  refine Go.of (fun _ hr => XS.iconst X102.here hx rfl (hb hby d16_12) hr) ?_
  show Go p e s below _ _ _ _ T102 (mkF m 13 #[.val (.ref a1)] [(.int (1 : Int32))])
  refine Go.of (fun _ hr => XS.goto X102.here hx rfl (pc0 := 13) (pc' := 17) rfl (hb hby d16_13) (by decide) (by decide) hr) ?_
  show Go p e s below _ _ _ _ T102 (mkF m 17 #[.val (.ref a1)] [(.int (1 : Int32))])
  exact Go.retN X102 hx hlk B102 J102 e102 (t := .boolean) (z' := (1 : Int32)) hret (by simp) (hb hby d16_17) rfl (by decide) (by decide) (fun vm_ hw_ => ⟨rfl, (fun y hy => Nat.le_trans hnb (N102 y hy)), rfl⟩)

theorem and3m (x : Int32) : x &&& (3 : Int32) = 0 ∨ x &&& (3 : Int32) = 1 ∨ x &&& (3 : Int32) = 2 ∨ x &&& (3 : Int32) = 3 := by
  have q := c_and x 3 (by decide)
  have a : (3 : Int32).toInt = 3 := by decide
  have b : (x &&& 3).toInt = 0 ∨ (x &&& 3).toInt = 1 ∨ (x &&& 3).toInt = 2 ∨ (x &&& 3).toInt = 3 := by omega
  rcases b with b | b | b | b
  · exact Or.inl (Int32.toInt_inj.mp b)
  · exact Or.inr (Or.inl (Int32.toInt_inj.mp b))
  · exact Or.inr (Or.inr (Or.inl (Int32.toInt_inj.mp b)))
  · exact Or.inr (Or.inr (Or.inr (Int32.toInt_inj.mp b)))

theorem pn15 : plainName "com/example/dispatcher/dispatcher/web/BindingResultHasErrorsPinLaw" = true := by first | (simp [plainName, overriddenIn]; done) | decide +kernel
theorem pd19 : parseMethodDescriptor "(C)Ljava/lang/String;" = some ⟨[.char], some (.object "java/lang/String")⟩ := by decide +kernel
theorem pd20 : parseMethodDescriptor "(Ljava/lang/String;Ljava/lang/String;)V" = some ⟨[(.object "java/lang/String"), (.object "java/lang/String")], none⟩ := by decide +kernel
theorem pd21 : parseMethodDescriptor "(Ljava/util/List;)V" = some ⟨[(.object "java/util/List")], none⟩ := by decide +kernel
theorem pd22 : parseMethodDescriptor "(Ljava/lang/Object;)Z" = some ⟨[(.object "java/lang/Object")], some .boolean⟩ := by decide +kernel
set_option maxRecDepth 65536 in
set_option maxHeartbeats 40000000 in
theorem rm0 (l : Launch) (Z : State) (a0 : Array Value) (hw : ∀ d ∈ tables_1, d.before a0 Z = true) (ws : List Jvm.Cond) (p1 p2 p3 : Int32) (zc : Int32) (mr wE wL wD elL : Addr) (kD kL : ClassId) (ms : List Addr) (h0 : Heap) (n0 : Nat) (O0 : Old Z n0 h0) (nb : Nat) (hb0 : n0 ≤ nb) (hnb : nb ≤ h0.size) (S_C : Sta Z Z.heap "java/lang/String" "COMPACT_STRINGS" "Z" (.int zc)) (hzc : ¬ zc = 0) (S_E : Sta Z Z.heap "java/util/ImmutableCollections" "EMPTY" "Ljava/lang/Object;" (.ref wE)) (S_L : Sta Z Z.heap "java/util/ImmutableCollections" "EMPTY_LIST" "Ljava/util/ImmutableCollections$ListN;" (.ref wL)) (M : Mr Z "[Ljava/lang/Object;" mr) (S_D : Sta Z Z.heap "java/util/ArrayList" "DEFAULTCAPACITY_EMPTY_ELEMENTDATA" "[Ljava/lang/Object;" (.ref wD)) (ED : Exa Z Z.heap wD "[Ljava/lang/Object;") (VD : Arv Z Z.heap wD kD (.object "java/lang/Object") 0 [] .null) (EL : Exa Z Z.heap wL "java/util/ImmutableCollections$ListN") (FLe : Fld Z Z.heap wL "java/util/ImmutableCollections$ListN" "elements" "[Ljava/lang/Object;" (.ref elL)) (VL : Arv Z Z.heap elL kL (.object "java/lang/Object") 0 [] .null) :
    Con l Z ms x code maxLocals ret ws room_1 #[(.int p1), (.int p2), (.int p3)] h0 (fun v vm h L => v = some (.int 1) ∧ Fr nb L) := by
  refine Con.mk (plainFor_of_name pn15) ?_
  intro p e s m below meth c s₁ Cc X0 e0 eb J0 B0 M0
  replace Cc : Cx Z p s m meth c "com/example/dispatcher/dispatcher/web/BindingResultHasErrorsPinLaw" code 10 "law" ret := Cc
  obtain ⟨hx, hZ, hown, hby, hml, hnm, hret, hlk⟩ := id Cc
  have N0 := Fr.nil h0.size
  have K0 := Keep.refl h0 []
  show Go p e s below _ _ _ _ s₁ (mkF m 0 #[.val (.int p1), .val (.int p2), .val (.int p3), .unset, .unset, .unset, .unset, .unset, .unset, .unset] [])
  have ED0 := ED.ext O0.2
  have VD0 := VD.ext O0.2
  have EL0 := EL.ext O0.2
  have FL0 := FLe.ext O0.2
  have VL0 := VL.ext O0.2
  refine Go.of (fun _ hr => XS.iloadN X0.here hx rfl (hb hby at_0) rfl  hr) ?_
  show Go p e s below _ _ _ _ s₁ (mkF m 1 #[.val (.int p1), .val (.int p2), .val (.int p3), .unset, .unset, .unset, .unset, .unset, .unset, .unset] [(.int p1)])
  refine Go.of (fun _ hr => XS.iconst X0.here hx rfl (hb hby at_1) hr) ?_
  show Go p e s below _ _ _ _ s₁ (mkF m 2 #[.val (.int p1), .val (.int p2), .val (.int p3), .unset, .unset, .unset, .unset, .unset, .unset, .unset] [(.int (3 : Int32)), (.int p1)])
  refine Go.of (fun _ hr => XS.iand X0.here hx rfl (hb hby at_2) rfl hr) ?_
  show Go p e s below _ _ _ _ s₁ (mkF m 3 #[.val (.int p1), .val (.int p2), .val (.int p3), .unset, .unset, .unset, .unset, .unset, .unset, .unset] [(.int (p1 &&& (3 : Int32)))])
  have h4 := and3 p1
  generalize (p1 &&& (3 : Int32)) = nn at h4 ⊢
  rcases h4 with rfl | rfl | rfl | rfl
  · show Go p e s below _ _ _ _ s₁ (mkF m 3 #[.val (.int p1), .val (.int p2), .val (.int p3), .unset, .unset, .unset, .unset, .unset, .unset, .unset] [(.int (0 : Int32))])
    refine Go.of (fun _ hr => XS.istoreN X0.here hx rfl (hb hby at_3) rfl (l' := #[.val (.int p1), .val (.int p2), .val (.int p3), .val (.int (0 : Int32)), .unset, .unset, .unset, .unset, .unset, .unset]) rfl hr) ?_
    show Go p e s below _ _ _ _ s₁ (mkF m 4 #[.val (.int p1), .val (.int p2), .val (.int p3), .val (.int (0 : Int32)), .unset, .unset, .unset, .unset, .unset, .unset] [])
    obtain ⟨T101, h101, X101, e101, E101, A101, D101, -, st101⟩ := newO X0 hx hZ hown (hw _ (List.mem_of_getElem? (i := 0) rfl)) (hw _ (List.mem_of_getElem? (i := 1) rfl)) (hw _ (List.mem_of_getElem? (i := 2) rfl)) e0 (g := (mkF m 4 #[.val (.int p1), .val (.int p2), .val (.int p3), .val (.int (0 : Int32)), .unset, .unset, .unset, .unset, .unset, .unset] [])) rfl (hb hby at_4) (by decide) (by decide)
    obtain ⟨o101, g101⟩ : ∃ z, z = h0.size := ⟨_, rfl⟩
    rw [← g101] at A101 D101 st101
    have ne_wD_o101 : wD ≠ o101 := Nat.ne_of_lt (Nat.lt_of_lt_of_le ED0.lt (Nat.le_of_eq g101.symm))
    have ne_wL_o101 : wL ≠ o101 := Nat.ne_of_lt (Nat.lt_of_lt_of_le EL0.lt (Nat.le_of_eq g101.symm))
    have ne_elL_o101 : elL ≠ o101 := Nat.ne_of_lt (Nat.lt_of_lt_of_le VL0.lt (Nat.le_of_eq g101.symm))
    have lt101 : o101 < h101.size := A101.lt
    have J101 := J0.add E101 g101 lt101
    have B101 := B0.mono E101.1
    have O101 := O0.ext E101
    have sz101 : h0.size ≤ o101 := Nat.le_trans K0.1 (Nat.le_of_eq g101.symm)
    have fr101 : h0.size ≤ o101 := sz101
    have K101 := K0.ext E101
    have F101_field : Fld Z h101 o101 "com/example/dispatcher/dispatcher/web/FieldError" "field" "Ljava/lang/String;" .null := D101 (Or.inr (hw _ (List.mem_of_getElem? (i := 42) rfl))) (ty := (.object "java/lang/String")) (by decide)
    have F101_message : Fld Z h101 o101 "com/example/dispatcher/dispatcher/web/FieldError" "message" "Ljava/lang/String;" .null := D101 (Or.inr (hw _ (List.mem_of_getElem? (i := 45) rfl))) (ty := (.object "java/lang/String")) (by decide)
    refine Go.of (fun _ hr => st101 _ hr) ?_
    show Go p e s below _ _ _ _ T101 (mkF m 7 #[.val (.int p1), .val (.int p2), .val (.int p3), .val (.int (0 : Int32)), .unset, .unset, .unset, .unset, .unset, .unset] [(.ref o101)])
    refine Go.of (fun _ hr => XS.dup X101.here hx rfl (hb hby at_7) rfl rfl hr) ?_
    show Go p e s below _ _ _ _ T101 (mkF m 8 #[.val (.int p1), .val (.int p2), .val (.int p3), .val (.int (0 : Int32)), .unset, .unset, .unset, .unset, .unset, .unset] [(.ref o101), (.ref o101)])
    refine Go.of (fun _ hr => XS.iloadN X101.here hx rfl (hb hby at_8) rfl  hr) ?_
    show Go p e s below _ _ _ _ T101 (mkF m 9 #[.val (.int p1), .val (.int p2), .val (.int p3), .val (.int (0 : Int32)), .unset, .unset, .unset, .unset, .unset, .unset] [(.int p2), (.ref o101), (.ref o101)])
    refine Go.of (fun _ hr => XS.sipush X101.here hx rfl (hb hby at_9) hr) ?_
    show Go p e s below _ _ _ _ T101 (mkF m 12 #[.val (.int p1), .val (.int p2), .val (.int p3), .val (.int (0 : Int32)), .unset, .unset, .unset, .unset, .unset, .unset] [(.int (255 : Int32)), (.int p2), (.ref o101), (.ref o101)])
    refine Go.of (fun _ hr => XS.iand X101.here hx rfl (hb hby at_12) rfl hr) ?_
    show Go p e s below _ _ _ _ T101 (mkF m 13 #[.val (.int p1), .val (.int p2), .val (.int p3), .val (.int (0 : Int32)), .unset, .unset, .unset, .unset, .unset, .unset] [(.int (p2 &&& (255 : Int32))), (.ref o101), (.ref o101)])
    refine Go.of (fun _ hr => XS.i2c X101.here hx rfl (hb hby at_13) rfl hr) ?_
    show Go p e s below _ _ _ _ T101 (mkF m 14 #[.val (.int p1), .val (.int p2), .val (.int p3), .val (.int (0 : Int32)), .unset, .unset, .unset, .unset, .unset, .unset] [(.int ((p2 &&& (255 : Int32)).toUInt32.toUInt16.toUInt32.toInt32)), (.ref o101), (.ref o101)])
    obtain ⟨_, b102, T102, h102, L102, e102, Cc102, X102, B102, J102, g102, hQ102, st102⟩ := own_callS Cc B101 J101 X101 (hw _ (List.mem_of_getElem? (i := 3) rfl)) (hw _ (List.mem_of_getElem? (i := 4) rfl)) (hw _ (List.mem_of_getElem? (i := 5) rfl)) (hw _ (List.mem_of_getElem? (i := 6) rfl)) (by decide) (rm1 l Z a0 hw [] ((p2 &&& (255 : Int32)).toUInt32.toUInt16.toUInt32.toInt32) zc _ h101 n0 O101 h0.size (own_ole O0) K101.1 (chr8 p2).2 S_C hzc) e101 (g := (mkF m 14 #[.val (.int p1), .val (.int p2), .val (.int p3), .val (.int (0 : Int32)), .unset, .unset, .unset, .unset, .unset, .unset] [(.int ((p2 &&& (255 : Int32)).toUInt32.toUInt16.toUInt32.toInt32)), (.ref o101), (.ref o101)])) rfl (by rw [hml]; rfl) (argsL := [(.int ((p2 &&& (255 : Int32)).toUInt32.toUInt16.toUInt32.toInt32))]) (rest := [(.ref o101), (.ref o101)]) (lenOf pd19 rfl) rfl (W := 2) (by show 2 * 0 + _ ≤ _; exact Nat.le_of_eq rfl) (hb hby at_14) (by decide) (by decide) (by decide) (by decide)
    have f103 := (ED0.ext E101)
    have f104 := (EL0.ext E101)
    have f105 := (VL0.ext E101)
    obtain ⟨r102, t102, kt102, rfl, Nq102, Eq102, R_r102, R_t102, Er102, Fv102, Fc102, Vt102⟩ := hQ102
    have N102 := Fr.app N0 Nq102
    obtain ⟨hx, hZ, hown, hby, hml, hnm, hret, hlk⟩ := id Cc102
    have sz_r102 : h0.size ≤ r102 := Nat.le_trans K101.1 R_r102
    have fr_r102 : h0.size ≤ r102 := sz_r102
    have ne_wD_r102 : wD ≠ r102 := Nat.ne_of_lt (Nat.lt_of_lt_of_le f103.lt R_r102)
    have ne_wL_r102 : wL ≠ r102 := Nat.ne_of_lt (Nat.lt_of_lt_of_le f104.lt R_r102)
    have ne_elL_r102 : elL ≠ r102 := Nat.ne_of_lt (Nat.lt_of_lt_of_le f105.lt R_r102)
    have ne_o101_r102 : o101 ≠ r102 := Nat.ne_of_lt (Nat.lt_of_lt_of_le A101.lt R_r102)
    have sz_t102 : h0.size ≤ t102 := Nat.le_trans K101.1 R_t102
    have fr_t102 : h0.size ≤ t102 := sz_t102
    have ne_wD_t102 : wD ≠ t102 := Nat.ne_of_lt (Nat.lt_of_lt_of_le f103.lt R_t102)
    have ne_wL_t102 : wL ≠ t102 := Nat.ne_of_lt (Nat.lt_of_lt_of_le f104.lt R_t102)
    have ne_elL_t102 : elL ≠ t102 := Nat.ne_of_lt (Nat.lt_of_lt_of_le f105.lt R_t102)
    have ne_o101_t102 : o101 ≠ t102 := Nat.ne_of_lt (Nat.lt_of_lt_of_le A101.lt R_t102)
    have K102 := K101.ext Eq102
    have O102 := O101.ext Eq102
    refine Go.of st102 ?_
    show Go p e s below _ _ _ _ T102 (mkF m 17 #[.val (.int p1), .val (.int p2), .val (.int p3), .val (.int (0 : Int32)), .unset, .unset, .unset, .unset, .unset, .unset] [(.ref r102), (.ref o101), (.ref o101)])
    refine Go.of (fun _ hr => XS.iloadN X102.here hx rfl (hb hby at_17) rfl  hr) ?_
    show Go p e s below _ _ _ _ T102 (mkF m 18 #[.val (.int p1), .val (.int p2), .val (.int p3), .val (.int (0 : Int32)), .unset, .unset, .unset, .unset, .unset, .unset] [(.int p3), (.ref r102), (.ref o101), (.ref o101)])
    refine Go.of (fun _ hr => XS.sipush X102.here hx rfl (hb hby at_18) hr) ?_
    show Go p e s below _ _ _ _ T102 (mkF m 21 #[.val (.int p1), .val (.int p2), .val (.int p3), .val (.int (0 : Int32)), .unset, .unset, .unset, .unset, .unset, .unset] [(.int (255 : Int32)), (.int p3), (.ref r102), (.ref o101), (.ref o101)])
    refine Go.of (fun _ hr => XS.iand X102.here hx rfl (hb hby at_21) rfl hr) ?_
    show Go p e s below _ _ _ _ T102 (mkF m 22 #[.val (.int p1), .val (.int p2), .val (.int p3), .val (.int (0 : Int32)), .unset, .unset, .unset, .unset, .unset, .unset] [(.int (p3 &&& (255 : Int32))), (.ref r102), (.ref o101), (.ref o101)])
    refine Go.of (fun _ hr => XS.i2c X102.here hx rfl (hb hby at_22) rfl hr) ?_
    show Go p e s below _ _ _ _ T102 (mkF m 23 #[.val (.int p1), .val (.int p2), .val (.int p3), .val (.int (0 : Int32)), .unset, .unset, .unset, .unset, .unset, .unset] [(.int ((p3 &&& (255 : Int32)).toUInt32.toUInt16.toUInt32.toInt32)), (.ref r102), (.ref o101), (.ref o101)])
    obtain ⟨_, b106, T106, h106, L106, e106, Cc106, X106, B106, J106, g106, hQ106, st106⟩ := own_callS Cc102 B102 J102 X102 (hw _ (List.mem_of_getElem? (i := 3) rfl)) (hw _ (List.mem_of_getElem? (i := 4) rfl)) (hw _ (List.mem_of_getElem? (i := 5) rfl)) (hw _ (List.mem_of_getElem? (i := 6) rfl)) (by decide) (rm1 l Z a0 hw [] ((p3 &&& (255 : Int32)).toUInt32.toUInt16.toUInt32.toInt32) zc _ h102 n0 O102 h0.size (own_ole O0) K102.1 (chr8 p3).2 S_C hzc) e102 (g := (mkF m 23 #[.val (.int p1), .val (.int p2), .val (.int p3), .val (.int (0 : Int32)), .unset, .unset, .unset, .unset, .unset, .unset] [(.int ((p3 &&& (255 : Int32)).toUInt32.toUInt16.toUInt32.toInt32)), (.ref r102), (.ref o101), (.ref o101)])) rfl (by rw [hml]; rfl) (argsL := [(.int ((p3 &&& (255 : Int32)).toUInt32.toUInt16.toUInt32.toInt32))]) (rest := [(.ref r102), (.ref o101), (.ref o101)]) (lenOf pd19 rfl) rfl (W := 3) (by show 2 * 0 + _ ≤ _; exact Nat.le_of_eq rfl) (hb hby at_23) (by decide) (by decide) (by decide) (by decide)
    have f107 := (f103.ext Eq102)
    have f108 := (f104.ext Eq102)
    have f109 := (f105.ext Eq102)
    have f110 := (A101.ext Eq102)
    obtain ⟨r106, t106, kt106, rfl, Nq106, Eq106, R_r106, R_t106, Er106, Fv106, Fc106, Vt106⟩ := hQ106
    have N106 := Fr.app N102 Nq106
    obtain ⟨hx, hZ, hown, hby, hml, hnm, hret, hlk⟩ := id Cc106
    have sz_r106 : h0.size ≤ r106 := Nat.le_trans K102.1 R_r106
    have fr_r106 : h0.size ≤ r106 := sz_r106
    have ne_wD_r106 : wD ≠ r106 := Nat.ne_of_lt (Nat.lt_of_lt_of_le f107.lt R_r106)
    have ne_wL_r106 : wL ≠ r106 := Nat.ne_of_lt (Nat.lt_of_lt_of_le f108.lt R_r106)
    have ne_elL_r106 : elL ≠ r106 := Nat.ne_of_lt (Nat.lt_of_lt_of_le f109.lt R_r106)
    have ne_o101_r106 : o101 ≠ r106 := Nat.ne_of_lt (Nat.lt_of_lt_of_le f110.lt R_r106)
    have ne_r102_r106 : r102 ≠ r106 := Nat.ne_of_lt (Nat.lt_of_lt_of_le Er102.lt R_r106)
    have ne_t102_r106 : t102 ≠ r106 := Nat.ne_of_lt (Nat.lt_of_lt_of_le Vt102.lt R_r106)
    have sz_t106 : h0.size ≤ t106 := Nat.le_trans K102.1 R_t106
    have fr_t106 : h0.size ≤ t106 := sz_t106
    have ne_wD_t106 : wD ≠ t106 := Nat.ne_of_lt (Nat.lt_of_lt_of_le f107.lt R_t106)
    have ne_wL_t106 : wL ≠ t106 := Nat.ne_of_lt (Nat.lt_of_lt_of_le f108.lt R_t106)
    have ne_elL_t106 : elL ≠ t106 := Nat.ne_of_lt (Nat.lt_of_lt_of_le f109.lt R_t106)
    have ne_o101_t106 : o101 ≠ t106 := Nat.ne_of_lt (Nat.lt_of_lt_of_le f110.lt R_t106)
    have ne_r102_t106 : r102 ≠ t106 := Nat.ne_of_lt (Nat.lt_of_lt_of_le Er102.lt R_t106)
    have ne_t102_t106 : t102 ≠ t106 := Nat.ne_of_lt (Nat.lt_of_lt_of_le Vt102.lt R_t106)
    have K106 := K102.ext Eq106
    have O106 := O102.ext Eq106
    refine Go.of st106 ?_
    show Go p e s below _ _ _ _ T106 (mkF m 26 #[.val (.int p1), .val (.int p2), .val (.int p3), .val (.int (0 : Int32)), .unset, .unset, .unset, .unset, .unset, .unset] [(.ref r106), (.ref r102), (.ref o101), (.ref o101)])
    have f112 := (f110.ext Eq106)
    have f113 := ((F101_field.ext Eq102).ext Eq106)
    have f114 := ((F101_message.ext Eq102).ext Eq106)
    have f115 := (Er102.ext Eq106)
    obtain ⟨_, b111, T111, h111, L111, e111, Cc111, X111, B111, J111, g111, hQ111, st111⟩ := own_callI Cc106 B106 J106 X106 rfl (hw _ (List.mem_of_getElem? (i := 29) rfl)) (hw _ (List.mem_of_getElem? (i := 30) rfl)) (hw _ (List.mem_of_getElem? (i := 2) rfl)) (hw _ (List.mem_of_getElem? (i := 31) rfl)) (by decide) (rm6 l Z a0 hw [] o101 r102 r106 _ _ _ h106 n0 O106 h0.size (own_ole O0) K106.1 fr101 trivial f112 f113 f114 f115 Er106) e106 (g := (mkF m 26 #[.val (.int p1), .val (.int p2), .val (.int p3), .val (.int (0 : Int32)), .unset, .unset, .unset, .unset, .unset, .unset] [(.ref r106), (.ref r102), (.ref o101), (.ref o101)])) rfl (by rw [hml]; rfl) (argsL := [(.ref r102), (.ref r106)]) (rest := [(.ref o101)]) (lenOf pd20 rfl) rfl (W := 1) (by show 2 * 0 + _ ≤ _; exact Nat.le_of_eq rfl) (hb hby at_26) (by decide) (by decide) (by decide) (by decide)
    obtain ⟨rfl, Nq111, Kq111⟩ := hQ111
    have N111 := Fr.app N106 Nq111
    obtain ⟨hx, hZ, hown, hby, hml, hnm, hret, hlk⟩ := id Cc111
    have K111 := K106.trans Kq111 (allS (Or.inr sz101) all0)
    have O111 := O106.keep Kq111 (allS (Nat.le_trans (own_ole O0) fr101) all0)
    refine Go.of st111 ?_
    show Go p e s below _ _ _ _ T111 (mkF m 29 #[.val (.int p1), .val (.int p2), .val (.int p3), .val (.int (0 : Int32)), .unset, .unset, .unset, .unset, .unset, .unset] [(.ref o101)])
    refine Go.of (fun _ hr => XS.astore X111.here hx rfl (hb hby at_29) rfl rfl (l' := #[.val (.int p1), .val (.int p2), .val (.int p3), .val (.int (0 : Int32)), .val (.ref o101), .unset, .unset, .unset, .unset, .unset]) rfl hr) ?_
    show Go p e s below _ _ _ _ T111 (mkF m 31 #[.val (.int p1), .val (.int p2), .val (.int p3), .val (.int (0 : Int32)), .val (.ref o101), .unset, .unset, .unset, .unset, .unset] [])
    obtain ⟨T116, h116, X116, e116, E116, A116, D116, -, st116⟩ := newO X111 hx hZ hown (hw _ (List.mem_of_getElem? (i := 46) rfl)) (hw _ (List.mem_of_getElem? (i := 47) rfl)) (hw _ (List.mem_of_getElem? (i := 48) rfl)) e111 (g := (mkF m 31 #[.val (.int p1), .val (.int p2), .val (.int p3), .val (.int (0 : Int32)), .val (.ref o101), .unset, .unset, .unset, .unset, .unset] [])) rfl (hb hby at_31) (by decide) (by decide)
    obtain ⟨o116, g116⟩ : ∃ z, z = h111.size := ⟨_, rfl⟩
    rw [← g116] at A116 D116 st116
    have f117 := ((f107.ext Eq106).keep Kq111)
    have ne_wD_o116 : wD ≠ o116 := Nat.ne_of_lt (Nat.lt_of_lt_of_le f117.lt (Nat.le_of_eq g116.symm))
    have f118 := ((f108.ext Eq106).keep Kq111)
    have ne_wL_o116 : wL ≠ o116 := Nat.ne_of_lt (Nat.lt_of_lt_of_le f118.lt (Nat.le_of_eq g116.symm))
    have f119 := ((f109.ext Eq106).keep Kq111 (ninS ne_elL_o101 nin0))
    have ne_elL_o116 : elL ≠ o116 := Nat.ne_of_lt (Nat.lt_of_lt_of_le f119.lt (Nat.le_of_eq g116.symm))
    have f120 := (f112.keep Kq111)
    have ne_o101_o116 : o101 ≠ o116 := Nat.ne_of_lt (Nat.lt_of_lt_of_le f120.lt (Nat.le_of_eq g116.symm))
    have f121 := (f115.keep Kq111)
    have ne_r102_o116 : r102 ≠ o116 := Nat.ne_of_lt (Nat.lt_of_lt_of_le f121.lt (Nat.le_of_eq g116.symm))
    have f122 := ((Vt102.ext Eq106).keep Kq111 (ninS (Ne.symm ne_o101_t102) nin0))
    have ne_t102_o116 : t102 ≠ o116 := Nat.ne_of_lt (Nat.lt_of_lt_of_le f122.lt (Nat.le_of_eq g116.symm))
    have f123 := (Er106.keep Kq111)
    have ne_r106_o116 : r106 ≠ o116 := Nat.ne_of_lt (Nat.lt_of_lt_of_le f123.lt (Nat.le_of_eq g116.symm))
    have f124 := (Vt106.keep Kq111 (ninS (Ne.symm ne_o101_t106) nin0))
    have ne_t106_o116 : t106 ≠ o116 := Nat.ne_of_lt (Nat.lt_of_lt_of_le f124.lt (Nat.le_of_eq g116.symm))
    have lt116 : o116 < h116.size := A116.lt
    have J116 := J111.add E116 g116 lt116
    have B116 := B111.mono E116.1
    have O116 := O111.ext E116
    have sz116 : h0.size ≤ o116 := Nat.le_trans K111.1 (Nat.le_of_eq g116.symm)
    have fr116 : h0.size ≤ o116 := sz116
    have K116 := K111.ext E116
    have F116_modCount : Fld Z h116 o116 "java/util/AbstractList" "modCount" "I" (.int (0 : Int32)) := D116 (Or.inl (hw _ (List.mem_of_getElem? (i := 66) rfl))) (ty := .int) (by decide)
    have F116_elementData : Fld Z h116 o116 "java/util/ArrayList" "elementData" "[Ljava/lang/Object;" .null := D116 (Or.inl (hw _ (List.mem_of_getElem? (i := 69) rfl))) (ty := (.array (.object "java/lang/Object"))) (by decide)
    have F116_size : Fld Z h116 o116 "java/util/ArrayList" "size" "I" (.int (0 : Int32)) := D116 (Or.inl (hw _ (List.mem_of_getElem? (i := 101) rfl))) (ty := .int) (by decide)
    refine Go.of (fun _ hr => st116 _ hr) ?_
    show Go p e s below _ _ _ _ T116 (mkF m 34 #[.val (.int p1), .val (.int p2), .val (.int p3), .val (.int (0 : Int32)), .val (.ref o101), .unset, .unset, .unset, .unset, .unset] [(.ref o116)])
    refine Go.of (fun _ hr => XS.dup X116.here hx rfl (hb hby at_34) rfl rfl hr) ?_
    show Go p e s below _ _ _ _ T116 (mkF m 35 #[.val (.int p1), .val (.int p2), .val (.int p3), .val (.int (0 : Int32)), .val (.ref o101), .unset, .unset, .unset, .unset, .unset] [(.ref o116), (.ref o116)])
    obtain ⟨_, b125, T125, h125, L125, e125, Cc125, X125, B125, J125, g125, hQ125, st125⟩ := own_callI Cc111 B116 J116 X116 rfl (hw _ (List.mem_of_getElem? (i := 49) rfl)) (hw _ (List.mem_of_getElem? (i := 50) rfl)) (hw _ (List.mem_of_getElem? (i := 48) rfl)) (hw _ (List.mem_of_getElem? (i := 51) rfl)) (by decide) (rm8 l Z a0 hw [] o116 wD _ _ _ h116 n0 O116 h0.size (own_ole O0) K116.1 fr116 trivial S_D A116 F116_modCount F116_elementData F116_size) e116 (g := (mkF m 35 #[.val (.int p1), .val (.int p2), .val (.int p3), .val (.int (0 : Int32)), .val (.ref o101), .unset, .unset, .unset, .unset, .unset] [(.ref o116), (.ref o116)])) rfl (by rw [hml]; rfl) (argsL := []) (rest := [(.ref o116)]) (lenOf pd4 rfl) rfl (W := 1) (by show 2 * 0 + _ ≤ _; exact Nat.le_of_eq rfl) (hb hby at_35) (by decide) (by decide) (by decide) (by decide)
    obtain ⟨rfl, Nq125, Kq125, Fa125, Fb125, Fc125⟩ := hQ125
    have N125 := Fr.app N111 Nq125
    obtain ⟨hx, hZ, hown, hby, hml, hnm, hret, hlk⟩ := id Cc125
    have K125 := K116.trans Kq125 (allS (Or.inr sz116) all0)
    have O125 := O116.keep Kq125 (allS (Nat.le_trans (own_ole O0) fr116) all0)
    refine Go.of st125 ?_
    show Go p e s below _ _ _ _ T125 (mkF m 38 #[.val (.int p1), .val (.int p2), .val (.int p3), .val (.int (0 : Int32)), .val (.ref o101), .unset, .unset, .unset, .unset, .unset] [(.ref o116)])
    refine Go.of (fun _ hr => XS.astore X125.here hx rfl (hb hby at_38) rfl rfl (l' := #[.val (.int p1), .val (.int p2), .val (.int p3), .val (.int (0 : Int32)), .val (.ref o101), .val (.ref o116), .unset, .unset, .unset, .unset]) rfl hr) ?_
    show Go p e s below _ _ _ _ T125 (mkF m 40 #[.val (.int p1), .val (.int p2), .val (.int p3), .val (.int (0 : Int32)), .val (.ref o101), .val (.ref o116), .unset, .unset, .unset, .unset] [])
    refine Go.of (fun _ hr => XS.iloadN X125.here hx rfl (hb hby at_40) rfl  hr) ?_
    show Go p e s below _ _ _ _ T125 (mkF m 41 #[.val (.int p1), .val (.int p2), .val (.int p3), .val (.int (0 : Int32)), .val (.ref o101), .val (.ref o116), .unset, .unset, .unset, .unset] [(.int (0 : Int32))])
    refine Go.of (fun _ hr => XS.iconst X125.here hx rfl (hb hby at_41) hr) ?_
    show Go p e s below _ _ _ _ T125 (mkF m 42 #[.val (.int p1), .val (.int p2), .val (.int p3), .val (.int (0 : Int32)), .val (.ref o101), .val (.ref o116), .unset, .unset, .unset, .unset] [(.int (1 : Int32)), (.int (0 : Int32))])
    refine Go.of (fun _ hr => XS.icmpYes X125.here hx rfl (pc0 := 42) (pc' := 53) rfl (hb hby at_42) rfl (tlt (by decide : ((0 : Int32) < (1 : Int32)))).1 (by decide) (by decide) hr) ?_
    show Go p e s below _ _ _ _ T125 (mkF m 53 #[.val (.int p1), .val (.int p2), .val (.int p3), .val (.int (0 : Int32)), .val (.ref o101), .val (.ref o116), .unset, .unset, .unset, .unset] [])
    refine Go.of (fun _ hr => XS.iloadN X125.here hx rfl (hb hby at_53) rfl  hr) ?_
    show Go p e s below _ _ _ _ T125 (mkF m 54 #[.val (.int p1), .val (.int p2), .val (.int p3), .val (.int (0 : Int32)), .val (.ref o101), .val (.ref o116), .unset, .unset, .unset, .unset] [(.int (0 : Int32))])
    refine Go.of (fun _ hr => XS.iconst X125.here hx rfl (hb hby at_54) hr) ?_
    show Go p e s below _ _ _ _ T125 (mkF m 55 #[.val (.int p1), .val (.int p2), .val (.int p3), .val (.int (0 : Int32)), .val (.ref o101), .val (.ref o116), .unset, .unset, .unset, .unset] [(.int (2 : Int32)), (.int (0 : Int32))])
    refine Go.of (fun _ hr => XS.icmpYes X125.here hx rfl (pc0 := 55) (pc' := 66) rfl (hb hby at_55) rfl (tlt (by decide : ((0 : Int32) < (2 : Int32)))).1 (by decide) (by decide) hr) ?_
    show Go p e s below _ _ _ _ T125 (mkF m 66 #[.val (.int p1), .val (.int p2), .val (.int p3), .val (.int (0 : Int32)), .val (.ref o101), .val (.ref o116), .unset, .unset, .unset, .unset] [])
    refine Go.of (fun _ hr => XS.iloadN X125.here hx rfl (hb hby at_66) rfl  hr) ?_
    show Go p e s below _ _ _ _ T125 (mkF m 67 #[.val (.int p1), .val (.int p2), .val (.int p3), .val (.int (0 : Int32)), .val (.ref o101), .val (.ref o116), .unset, .unset, .unset, .unset] [(.int (0 : Int32))])
    refine Go.of (fun _ hr => XS.iconst X125.here hx rfl (hb hby at_67) hr) ?_
    show Go p e s below _ _ _ _ T125 (mkF m 68 #[.val (.int p1), .val (.int p2), .val (.int p3), .val (.int (0 : Int32)), .val (.ref o101), .val (.ref o116), .unset, .unset, .unset, .unset] [(.int (3 : Int32)), (.int (0 : Int32))])
    refine Go.of (fun _ hr => XS.icmpYes X125.here hx rfl (pc0 := 68) (pc' := 79) rfl (hb hby at_68) rfl (tlt (by decide : ((0 : Int32) < (3 : Int32)))).1 (by decide) (by decide) hr) ?_
    show Go p e s below _ _ _ _ T125 (mkF m 79 #[.val (.int p1), .val (.int p2), .val (.int p3), .val (.int (0 : Int32)), .val (.ref o101), .val (.ref o116), .unset, .unset, .unset, .unset] [])
    obtain ⟨T126, h126, X126, e126, E126, A126, D126, -, st126⟩ := newO X125 hx hZ hown (hw _ (List.mem_of_getElem? (i := 70) rfl)) (hw _ (List.mem_of_getElem? (i := 71) rfl)) (hw _ (List.mem_of_getElem? (i := 72) rfl)) e125 (g := (mkF m 79 #[.val (.int p1), .val (.int p2), .val (.int p3), .val (.int (0 : Int32)), .val (.ref o101), .val (.ref o116), .unset, .unset, .unset, .unset] [])) rfl (hb hby at_79) (by decide) (by decide)
    obtain ⟨o126, g126⟩ : ∃ z, z = h125.size := ⟨_, rfl⟩
    rw [← g126] at A126 D126 st126
    have f127 := ((f117.ext E116).keep Kq125)
    have ne_wD_o126 : wD ≠ o126 := Nat.ne_of_lt (Nat.lt_of_lt_of_le f127.lt (Nat.le_of_eq g126.symm))
    have f128 := ((f118.ext E116).keep Kq125)
    have ne_wL_o126 : wL ≠ o126 := Nat.ne_of_lt (Nat.lt_of_lt_of_le f128.lt (Nat.le_of_eq g126.symm))
    have f129 := ((f119.ext E116).keep Kq125 (ninS ne_elL_o116 nin0))
    have ne_elL_o126 : elL ≠ o126 := Nat.ne_of_lt (Nat.lt_of_lt_of_le f129.lt (Nat.le_of_eq g126.symm))
    have f130 := ((f120.ext E116).keep Kq125)
    have ne_o101_o126 : o101 ≠ o126 := Nat.ne_of_lt (Nat.lt_of_lt_of_le f130.lt (Nat.le_of_eq g126.symm))
    have f131 := ((f121.ext E116).keep Kq125)
    have ne_r102_o126 : r102 ≠ o126 := Nat.ne_of_lt (Nat.lt_of_lt_of_le f131.lt (Nat.le_of_eq g126.symm))
    have f132 := ((f122.ext E116).keep Kq125 (ninS ne_t102_o116 nin0))
    have ne_t102_o126 : t102 ≠ o126 := Nat.ne_of_lt (Nat.lt_of_lt_of_le f132.lt (Nat.le_of_eq g126.symm))
    have f133 := ((f123.ext E116).keep Kq125)
    have ne_r106_o126 : r106 ≠ o126 := Nat.ne_of_lt (Nat.lt_of_lt_of_le f133.lt (Nat.le_of_eq g126.symm))
    have f134 := ((f124.ext E116).keep Kq125 (ninS ne_t106_o116 nin0))
    have ne_t106_o126 : t106 ≠ o126 := Nat.ne_of_lt (Nat.lt_of_lt_of_le f134.lt (Nat.le_of_eq g126.symm))
    have f135 := (A116.keep Kq125)
    have ne_o116_o126 : o116 ≠ o126 := Nat.ne_of_lt (Nat.lt_of_lt_of_le f135.lt (Nat.le_of_eq g126.symm))
    have lt126 : o126 < h126.size := A126.lt
    have J126 := J125.add E126 g126 lt126
    have B126 := B125.mono E126.1
    have O126 := O125.ext E126
    have sz126 : h0.size ≤ o126 := Nat.le_trans K125.1 (Nat.le_of_eq g126.symm)
    have fr126 : h0.size ≤ o126 := sz126
    have K126 := K125.ext E126
    have F126_errors : Fld Z h126 o126 "com/example/dispatcher/dispatcher/web/BindingResult" "errors" "Ljava/util/List;" .null := D126 (Or.inr (hw _ (List.mem_of_getElem? (i := 107) rfl))) (ty := (.object "java/util/List")) (by decide)
    refine Go.of (fun _ hr => st126 _ hr) ?_
    show Go p e s below _ _ _ _ T126 (mkF m 82 #[.val (.int p1), .val (.int p2), .val (.int p3), .val (.int (0 : Int32)), .val (.ref o101), .val (.ref o116), .unset, .unset, .unset, .unset] [(.ref o126)])
    refine Go.of (fun _ hr => XS.dup X126.here hx rfl (hb hby at_82) rfl rfl hr) ?_
    show Go p e s below _ _ _ _ T126 (mkF m 83 #[.val (.int p1), .val (.int p2), .val (.int p3), .val (.int (0 : Int32)), .val (.ref o101), .val (.ref o116), .unset, .unset, .unset, .unset] [(.ref o126), (.ref o126)])
    refine Go.of (fun _ hr => XS.aload X126.here hx rfl (hb hby at_83) rfl rfl hr) ?_
    show Go p e s below _ _ _ _ T126 (mkF m 85 #[.val (.int p1), .val (.int p2), .val (.int p3), .val (.int (0 : Int32)), .val (.ref o101), .val (.ref o116), .unset, .unset, .unset, .unset] [(.ref o116), (.ref o126), (.ref o126)])
    have f137 := (f135.ext E126)
    have f138 := (Fc125.ext E126)
    obtain ⟨_, b136, T136, h136, L136, e136, Cc136, X136, B136, J136, g136, hQ136, st136⟩ := own_callI Cc125 B126 J126 X126 rfl (hw _ (List.mem_of_getElem? (i := 73) rfl)) (hw _ (List.mem_of_getElem? (i := 74) rfl)) (hw _ (List.mem_of_getElem? (i := 72) rfl)) (hw _ (List.mem_of_getElem? (i := 75) rfl)) (by decide) (rmB_0 l Z a0 hw [] o126 o116 o116 mr wE wL o116 0 _ _ h126 n0 O126 h0.size (own_ole O0) K126.1 fr126 trivial S_E S_L M A126 F126_errors f137 f138 ne_o116_o126) e126 (g := (mkF m 85 #[.val (.int p1), .val (.int p2), .val (.int p3), .val (.int (0 : Int32)), .val (.ref o101), .val (.ref o116), .unset, .unset, .unset, .unset] [(.ref o116), (.ref o126), (.ref o126)])) rfl (by rw [hml]; rfl) (argsL := [(.ref o116)]) (rest := [(.ref o126)]) (lenOf pd21 rfl) rfl (W := 1) (by show 2 * 0 + _ ≤ _; exact Nat.le_of_eq rfl) (hb hby at_85) (by decide) (by decide) (by decide) (by decide)
    obtain ⟨rfl, Nq136, Kq136, Fr136⟩ := hQ136
    have N136 := Fr.app N125 Nq136
    obtain ⟨hx, hZ, hown, hby, hml, hnm, hret, hlk⟩ := id Cc136
    have K136 := K126.trans Kq136 (allS (Or.inr sz126) all0)
    have O136 := O126.keep Kq136 (allS (Nat.le_trans (own_ole O0) fr126) all0)
    refine Go.of st136 ?_
    show Go p e s below _ _ _ _ T136 (mkF m 88 #[.val (.int p1), .val (.int p2), .val (.int p3), .val (.int (0 : Int32)), .val (.ref o101), .val (.ref o116), .unset, .unset, .unset, .unset] [(.ref o126)])
    refine Go.of (fun _ hr => XS.astore X136.here hx rfl (hb hby at_88) rfl rfl (l' := #[.val (.int p1), .val (.int p2), .val (.int p3), .val (.int (0 : Int32)), .val (.ref o101), .val (.ref o116), .val (.ref o126), .unset, .unset, .unset]) rfl hr) ?_
    show Go p e s below _ _ _ _ T136 (mkF m 90 #[.val (.int p1), .val (.int p2), .val (.int p3), .val (.int (0 : Int32)), .val (.ref o101), .val (.ref o116), .val (.ref o126), .unset, .unset, .unset] [])
    refine Go.of (fun _ hr => XS.iloadN X136.here hx rfl (hb hby at_90) rfl  hr) ?_
    show Go p e s below _ _ _ _ T136 (mkF m 91 #[.val (.int p1), .val (.int p2), .val (.int p3), .val (.int (0 : Int32)), .val (.ref o101), .val (.ref o116), .val (.ref o126), .unset, .unset, .unset] [(.int (0 : Int32))])
    refine Go.of (fun _ hr => XS.ifYes X136.here hx rfl (pc0 := 91) (pc' := 98) rfl (hb hby at_91) rfl ((if0 _ _).trans (flt (by decide : ¬ ((0 : Int32) < (0 : Int32)))).2.2.2) (by decide) (by decide) hr) ?_
    show Go p e s below _ _ _ _ T136 (mkF m 98 #[.val (.int p1), .val (.int p2), .val (.int p3), .val (.int (0 : Int32)), .val (.ref o101), .val (.ref o116), .val (.ref o126), .unset, .unset, .unset] [])
    refine Go.of (fun _ hr => XS.iconst X136.here hx rfl (hb hby at_98) hr) ?_
    show Go p e s below _ _ _ _ T136 (mkF m 99 #[.val (.int p1), .val (.int p2), .val (.int p3), .val (.int (0 : Int32)), .val (.ref o101), .val (.ref o116), .val (.ref o126), .unset, .unset, .unset] [(.int (0 : Int32))])
    refine Go.of (fun _ hr => XS.istore X136.here hx rfl (hb hby at_99) rfl (l' := #[.val (.int p1), .val (.int p2), .val (.int p3), .val (.int (0 : Int32)), .val (.ref o101), .val (.ref o116), .val (.ref o126), .val (.int (0 : Int32)), .unset, .unset]) rfl hr) ?_
    show Go p e s below _ _ _ _ T136 (mkF m 101 #[.val (.int p1), .val (.int p2), .val (.int p3), .val (.int (0 : Int32)), .val (.ref o101), .val (.ref o116), .val (.ref o126), .val (.int (0 : Int32)), .unset, .unset] [])
    refine Go.of (fun _ hr => XS.aload X136.here hx rfl (hb hby at_101) rfl rfl hr) ?_
    show Go p e s below _ _ _ _ T136 (mkF m 103 #[.val (.int p1), .val (.int p2), .val (.int p3), .val (.int (0 : Int32)), .val (.ref o101), .val (.ref o116), .val (.ref o126), .val (.int (0 : Int32)), .unset, .unset] [(.ref o126)])
    have f140 := ((f128.ext E126).keep Kq136)
    have f141 := ((((((((FL0.ext E101).ext Eq102).ext Eq106).keep Kq111 (ninS ne_wL_o101 nin0)).ext E116).keep Kq125 (ninS ne_wL_o116 nin0)).ext E126).keep Kq136 (ninS ne_wL_o126 nin0))
    have f142 := ((f129.ext E126).keep Kq136 (ninS ne_elL_o126 nin0))
    have f143 := (A126.keep Kq136)
    obtain ⟨_, b139, T139, h139, L139, e139, Cc139, X139, B139, J139, g139, hQ139, st139⟩ := own_callV Cc136 B136 J136 X136 (hw _ (List.mem_of_getElem? (i := 108) rfl)) (hw _ (List.mem_of_getElem? (i := 109) rfl)) (notFace_of_selects (args := #[]) (mvT hZ (hw _ (List.mem_of_getElem? (i := 111) rfl)))) (hw _ (List.mem_of_getElem? (i := 111) rfl)) (hw _ (List.mem_of_getElem? (i := 110) rfl)) (hw _ (List.mem_of_getElem? (i := 72) rfl)) (hw _ (List.mem_of_getElem? (i := 112) rfl)) (by decide) f143 (rmH_0 l Z a0 hw [] o126 wL elL elL _ _ h136 n0 O136 h0.size (own_ole O0) K136.1 Fr136 f140 f141 f142) e136 (g := (mkF m 103 #[.val (.int p1), .val (.int p2), .val (.int p3), .val (.int (0 : Int32)), .val (.ref o101), .val (.ref o116), .val (.ref o126), .val (.int (0 : Int32)), .unset, .unset] [(.ref o126)])) rfl (by rw [hml]; rfl) (argsL := []) (rest := []) (lenOf pd16 rfl) rfl (W := 0) (by show 2 * 0 + _ ≤ _; exact Nat.le_of_eq rfl) (hb hby at_103) (by decide) (by decide) (by decide) (by decide)
    obtain ⟨rfl, Nq139, hh139⟩ := hQ139
    have N139 := Fr.app N136 Nq139
    obtain ⟨hx, hZ, hown, hby, hml, hnm, hret, hlk⟩ := id Cc139
    rw [hh139] at e139 B139 J139
    refine Go.of st139 ?_
    show Go p e s below _ _ _ _ T139 (mkF m 106 #[.val (.int p1), .val (.int p2), .val (.int p3), .val (.int (0 : Int32)), .val (.ref o101), .val (.ref o116), .val (.ref o126), .val (.int (0 : Int32)), .unset, .unset] [(.int (0 : Int32))])
    refine Go.of (fun _ hr => XS.istore X139.here hx rfl (hb hby at_106) rfl (l' := #[.val (.int p1), .val (.int p2), .val (.int p3), .val (.int (0 : Int32)), .val (.ref o101), .val (.ref o116), .val (.ref o126), .val (.int (0 : Int32)), .val (.int (0 : Int32)), .unset]) rfl hr) ?_
    show Go p e s below _ _ _ _ T139 (mkF m 108 #[.val (.int p1), .val (.int p2), .val (.int p3), .val (.int (0 : Int32)), .val (.ref o101), .val (.ref o116), .val (.ref o126), .val (.int (0 : Int32)), .val (.int (0 : Int32)), .unset] [])
    refine Go.of (fun _ hr => XS.aload X139.here hx rfl (hb hby at_108) rfl rfl hr) ?_
    show Go p e s below _ _ _ _ T139 (mkF m 110 #[.val (.int p1), .val (.int p2), .val (.int p3), .val (.int (0 : Int32)), .val (.ref o101), .val (.ref o116), .val (.ref o126), .val (.int (0 : Int32)), .val (.int (0 : Int32)), .unset] [(.ref o116)])
    refine Go.of (fun _ hr => XS.aload X139.here hx rfl (hb hby at_110) rfl rfl hr) ?_
    show Go p e s below _ _ _ _ T139 (mkF m 112 #[.val (.int p1), .val (.int p2), .val (.int p3), .val (.int (0 : Int32)), .val (.ref o101), .val (.ref o116), .val (.ref o126), .val (.int (0 : Int32)), .val (.int (0 : Int32)), .unset] [(.ref o101), (.ref o116)])
    have f145 := ((Fa125.ext E126).keep Kq136 (ninS ne_o116_o126 nin0))
    have f146 := ((Fb125.ext E126).keep Kq136 (ninS ne_o116_o126 nin0))
    have f147 := (f138.keep Kq136 (ninS ne_o116_o126 nin0))
    have f148 := (f137.keep Kq136)
    have f149 := ((((((((VD0.ext E101).ext Eq102).ext Eq106).keep Kq111 (ninS ne_wD_o101 nin0)).ext E116).keep Kq125 (ninS ne_wD_o116 nin0)).ext E126).keep Kq136 (ninS ne_wD_o126 nin0))
    have f150 := ((f130.ext E126).keep Kq136)
    obtain ⟨_, b144, T144, h144, L144, e144, Cc144, X144, B144, J144, g144, hQ144, st144⟩ := own_callV Cc139 B139 J139 X139 (hw _ (List.mem_of_getElem? (i := 125) rfl)) (hw _ (List.mem_of_getElem? (i := 126) rfl)) (notFace_of_selects (args := #[]) (mvT hZ (hw _ (List.mem_of_getElem? (i := 128) rfl)))) (hw _ (List.mem_of_getElem? (i := 128) rfl)) (hw _ (List.mem_of_getElem? (i := 127) rfl)) (hw _ (List.mem_of_getElem? (i := 48) rfl)) (hw _ (List.mem_of_getElem? (i := 129) rfl)) (by decide) f148 (rmA1_0 l Z a0 hw [] o116 o101 wD _ (0 : Int32) _ h136 n0 O136 h0.size (own_ole O0) K136.1 fr116 trivial S_D f148 f145 f146 f147 f149 ne_wD_o116 f150 ne_o101_o116) e139 (g := (mkF m 112 #[.val (.int p1), .val (.int p2), .val (.int p3), .val (.int (0 : Int32)), .val (.ref o101), .val (.ref o116), .val (.ref o126), .val (.int (0 : Int32)), .val (.int (0 : Int32)), .unset] [(.ref o101), (.ref o116)])) rfl (by rw [hml]; rfl) (argsL := [(.ref o101)]) (rest := []) (lenOf pd22 rfl) rfl (W := 0) (by show 2 * 0 + _ ≤ _; exact Nat.le_of_eq rfl) (hb hby at_112) (by decide) (by decide) (by decide) (by decide)
    have f151 := ((f127.ext E126).keep Kq136)
    have f152 := ((f131.ext E126).keep Kq136)
    have f153 := ((f132.ext E126).keep Kq136 (ninS ne_t102_o126 nin0))
    have f154 := ((f133.ext E126).keep Kq136)
    have f155 := ((f134.ext E126).keep Kq136 (ninS ne_t106_o126 nin0))
    obtain ⟨d144, kd144, rfl, Nq144, Kq144, R_d144, Fa144, Fb144, Fc144, Ed144, Vd144, Od144⟩ := hQ144
    have N144 := Fr.app N139 Nq144
    obtain ⟨hx, hZ, hown, hby, hml, hnm, hret, hlk⟩ := id Cc144
    have sz_d144 : h0.size ≤ d144 := Nat.le_trans K136.1 R_d144
    have fr_d144 : h0.size ≤ d144 := sz_d144
    have ne_wD_d144 : wD ≠ d144 := Nat.ne_of_lt (Nat.lt_of_lt_of_le f151.lt R_d144)
    have ne_wL_d144 : wL ≠ d144 := Nat.ne_of_lt (Nat.lt_of_lt_of_le f140.lt R_d144)
    have ne_elL_d144 : elL ≠ d144 := Nat.ne_of_lt (Nat.lt_of_lt_of_le f142.lt R_d144)
    have ne_o101_d144 : o101 ≠ d144 := Nat.ne_of_lt (Nat.lt_of_lt_of_le f150.lt R_d144)
    have ne_r102_d144 : r102 ≠ d144 := Nat.ne_of_lt (Nat.lt_of_lt_of_le f152.lt R_d144)
    have ne_t102_d144 : t102 ≠ d144 := Nat.ne_of_lt (Nat.lt_of_lt_of_le f153.lt R_d144)
    have ne_r106_d144 : r106 ≠ d144 := Nat.ne_of_lt (Nat.lt_of_lt_of_le f154.lt R_d144)
    have ne_t106_d144 : t106 ≠ d144 := Nat.ne_of_lt (Nat.lt_of_lt_of_le f155.lt R_d144)
    have ne_o116_d144 : o116 ≠ d144 := Nat.ne_of_lt (Nat.lt_of_lt_of_le f148.lt R_d144)
    have ne_o126_d144 : o126 ≠ d144 := Nat.ne_of_lt (Nat.lt_of_lt_of_le f143.lt R_d144)
    have K144 := K136.trans Kq144 (allS (Or.inr sz116) all0)
    have O144 := O136.keep Kq144 (allS (Nat.le_trans (own_ole O0) fr116) all0)
    refine Go.of st144 ?_
    show Go p e s below _ _ _ _ T144 (mkF m 115 #[.val (.int p1), .val (.int p2), .val (.int p3), .val (.int (0 : Int32)), .val (.ref o101), .val (.ref o116), .val (.ref o126), .val (.int (0 : Int32)), .val (.int (0 : Int32)), .unset] [(.int (1 : Int32))])
    refine Go.of (fun _ hr => XS.pop X144.here hx rfl (hb hby at_115) rfl rfl hr) ?_
    show Go p e s below _ _ _ _ T144 (mkF m 116 #[.val (.int p1), .val (.int p2), .val (.int p3), .val (.int (0 : Int32)), .val (.ref o101), .val (.ref o116), .val (.ref o126), .val (.int (0 : Int32)), .val (.int (0 : Int32)), .unset] [])
    refine Go.of (fun _ hr => XS.aload X144.here hx rfl (hb hby at_116) rfl rfl hr) ?_
    show Go p e s below _ _ _ _ T144 (mkF m 118 #[.val (.int p1), .val (.int p2), .val (.int p3), .val (.int (0 : Int32)), .val (.ref o101), .val (.ref o116), .val (.ref o126), .val (.int (0 : Int32)), .val (.int (0 : Int32)), .unset] [(.ref o126)])
    have f157 := (Fr136.keep Kq144 (ninS (Ne.symm ne_o116_o126) nin0))
    have f158 := (f140.keep Kq144)
    have f159 := (f141.keep Kq144 (ninS ne_wL_o116 nin0))
    have f160 := (f142.keep Kq144 (ninS ne_elL_o116 nin0))
    have f161 := (f143.keep Kq144)
    obtain ⟨_, b156, T156, h156, L156, e156, Cc156, X156, B156, J156, g156, hQ156, st156⟩ := own_callV Cc144 B144 J144 X144 (hw _ (List.mem_of_getElem? (i := 108) rfl)) (hw _ (List.mem_of_getElem? (i := 109) rfl)) (notFace_of_selects (args := #[]) (mvT hZ (hw _ (List.mem_of_getElem? (i := 111) rfl)))) (hw _ (List.mem_of_getElem? (i := 111) rfl)) (hw _ (List.mem_of_getElem? (i := 110) rfl)) (hw _ (List.mem_of_getElem? (i := 72) rfl)) (hw _ (List.mem_of_getElem? (i := 112) rfl)) (by decide) f161 (rmH_0 l Z a0 hw [] o126 wL elL elL _ _ h144 n0 O144 h0.size (own_ole O0) K144.1 f157 f158 f159 f160) e144 (g := (mkF m 118 #[.val (.int p1), .val (.int p2), .val (.int p3), .val (.int (0 : Int32)), .val (.ref o101), .val (.ref o116), .val (.ref o126), .val (.int (0 : Int32)), .val (.int (0 : Int32)), .unset] [(.ref o126)])) rfl (by rw [hml]; rfl) (argsL := []) (rest := []) (lenOf pd16 rfl) rfl (W := 0) (by show 2 * 0 + _ ≤ _; exact Nat.le_of_eq rfl) (hb hby at_118) (by decide) (by decide) (by decide) (by decide)
    obtain ⟨rfl, Nq156, hh156⟩ := hQ156
    have N156 := Fr.app N144 Nq156
    obtain ⟨hx, hZ, hown, hby, hml, hnm, hret, hlk⟩ := id Cc156
    rw [hh156] at e156 B156 J156
    refine Go.of st156 ?_
    show Go p e s below _ _ _ _ T156 (mkF m 121 #[.val (.int p1), .val (.int p2), .val (.int p3), .val (.int (0 : Int32)), .val (.ref o101), .val (.ref o116), .val (.ref o126), .val (.int (0 : Int32)), .val (.int (0 : Int32)), .unset] [(.int (0 : Int32))])
    refine Go.of (fun _ hr => XS.istore X156.here hx rfl (hb hby at_121) rfl (l' := #[.val (.int p1), .val (.int p2), .val (.int p3), .val (.int (0 : Int32)), .val (.ref o101), .val (.ref o116), .val (.ref o126), .val (.int (0 : Int32)), .val (.int (0 : Int32)), .val (.int (0 : Int32))]) rfl hr) ?_
    show Go p e s below _ _ _ _ T156 (mkF m 123 #[.val (.int p1), .val (.int p2), .val (.int p3), .val (.int (0 : Int32)), .val (.ref o101), .val (.ref o116), .val (.ref o126), .val (.int (0 : Int32)), .val (.int (0 : Int32)), .val (.int (0 : Int32))] [])
    refine Go.of (fun _ hr => XS.iload X156.here hx rfl (hb hby at_123) rfl  hr) ?_
    show Go p e s below _ _ _ _ T156 (mkF m 125 #[.val (.int p1), .val (.int p2), .val (.int p3), .val (.int (0 : Int32)), .val (.ref o101), .val (.ref o116), .val (.ref o126), .val (.int (0 : Int32)), .val (.int (0 : Int32)), .val (.int (0 : Int32))] [(.int (0 : Int32))])
    refine Go.of (fun _ hr => XS.iload X156.here hx rfl (hb hby at_125) rfl  hr) ?_
    show Go p e s below _ _ _ _ T156 (mkF m 127 #[.val (.int p1), .val (.int p2), .val (.int p3), .val (.int (0 : Int32)), .val (.ref o101), .val (.ref o116), .val (.ref o126), .val (.int (0 : Int32)), .val (.int (0 : Int32)), .val (.int (0 : Int32))] [(.int (0 : Int32)), (.int (0 : Int32))])
    refine Go.of (fun _ hr => XS.icmpNo X156.here hx rfl (hb hby at_127) rfl (teq (by decide : ((0 : Int32) = (0 : Int32)))).2 hr) ?_
    show Go p e s below _ _ _ _ T156 (mkF m 130 #[.val (.int p1), .val (.int p2), .val (.int p3), .val (.int (0 : Int32)), .val (.ref o101), .val (.ref o116), .val (.ref o126), .val (.int (0 : Int32)), .val (.int (0 : Int32)), .val (.int (0 : Int32))] [])
    refine Go.of (fun _ hr => XS.iload X156.here hx rfl (hb hby at_130) rfl  hr) ?_
    show Go p e s below _ _ _ _ T156 (mkF m 132 #[.val (.int p1), .val (.int p2), .val (.int p3), .val (.int (0 : Int32)), .val (.ref o101), .val (.ref o116), .val (.ref o126), .val (.int (0 : Int32)), .val (.int (0 : Int32)), .val (.int (0 : Int32))] [(.int (0 : Int32))])
    refine Go.of (fun _ hr => XS.iload X156.here hx rfl (hb hby at_132) rfl  hr) ?_
    show Go p e s below _ _ _ _ T156 (mkF m 134 #[.val (.int p1), .val (.int p2), .val (.int p3), .val (.int (0 : Int32)), .val (.ref o101), .val (.ref o116), .val (.ref o126), .val (.int (0 : Int32)), .val (.int (0 : Int32)), .val (.int (0 : Int32))] [(.int (0 : Int32)), (.int (0 : Int32))])
    refine Go.of (fun _ hr => XS.icmpNo X156.here hx rfl (hb hby at_134) rfl (teq (by decide : ((0 : Int32) = (0 : Int32)))).2 hr) ?_
    show Go p e s below _ _ _ _ T156 (mkF m 137 #[.val (.int p1), .val (.int p2), .val (.int p3), .val (.int (0 : Int32)), .val (.ref o101), .val (.ref o116), .val (.ref o126), .val (.int (0 : Int32)), .val (.int (0 : Int32)), .val (.int (0 : Int32))] [])
    refine Go.of (fun _ hr => XS.iconst X156.here hx rfl (hb hby at_137) hr) ?_
    show Go p e s below _ _ _ _ T156 (mkF m 138 #[.val (.int p1), .val (.int p2), .val (.int p3), .val (.int (0 : Int32)), .val (.ref o101), .val (.ref o116), .val (.ref o126), .val (.int (0 : Int32)), .val (.int (0 : Int32)), .val (.int (0 : Int32))] [(.int (1 : Int32))])
    refine Go.of (fun _ hr => XS.goto X156.here hx rfl (pc0 := 138) (pc' := 142) rfl (hb hby at_138) (by decide) (by decide) hr) ?_
    show Go p e s below _ _ _ _ T156 (mkF m 142 #[.val (.int p1), .val (.int p2), .val (.int p3), .val (.int (0 : Int32)), .val (.ref o101), .val (.ref o116), .val (.ref o126), .val (.int (0 : Int32)), .val (.int (0 : Int32)), .val (.int (0 : Int32))] [(.int (1 : Int32))])
    exact Go.retN X156 hx hlk B156 (J156.sub fun x hx => (List.mem_cons_of_mem _ (List.mem_cons_of_mem _ (List.mem_cons_of_mem _ hx)))) e156 (t := .boolean) (z' := (1 : Int32)) hret (by simp) (hb hby at_142) rfl (by decide) (by decide) (fun vm_ hw_ => ⟨rfl, (fun y hy => Nat.le_trans hnb (N156 y hy))⟩)
  · show Go p e s below _ _ _ _ s₁ (mkF m 3 #[.val (.int p1), .val (.int p2), .val (.int p3), .unset, .unset, .unset, .unset, .unset, .unset, .unset] [(.int (1 : Int32))])
    refine Go.of (fun _ hr => XS.istoreN X0.here hx rfl (hb hby at_3) rfl (l' := #[.val (.int p1), .val (.int p2), .val (.int p3), .val (.int (1 : Int32)), .unset, .unset, .unset, .unset, .unset, .unset]) rfl hr) ?_
    show Go p e s below _ _ _ _ s₁ (mkF m 4 #[.val (.int p1), .val (.int p2), .val (.int p3), .val (.int (1 : Int32)), .unset, .unset, .unset, .unset, .unset, .unset] [])
    obtain ⟨T162, h162, X162, e162, E162, A162, D162, -, st162⟩ := newO X0 hx hZ hown (hw _ (List.mem_of_getElem? (i := 0) rfl)) (hw _ (List.mem_of_getElem? (i := 1) rfl)) (hw _ (List.mem_of_getElem? (i := 2) rfl)) e0 (g := (mkF m 4 #[.val (.int p1), .val (.int p2), .val (.int p3), .val (.int (1 : Int32)), .unset, .unset, .unset, .unset, .unset, .unset] [])) rfl (hb hby at_4) (by decide) (by decide)
    obtain ⟨o162, g162⟩ : ∃ z, z = h0.size := ⟨_, rfl⟩
    rw [← g162] at A162 D162 st162
    have ne_wD_o162 : wD ≠ o162 := Nat.ne_of_lt (Nat.lt_of_lt_of_le ED0.lt (Nat.le_of_eq g162.symm))
    have ne_wL_o162 : wL ≠ o162 := Nat.ne_of_lt (Nat.lt_of_lt_of_le EL0.lt (Nat.le_of_eq g162.symm))
    have ne_elL_o162 : elL ≠ o162 := Nat.ne_of_lt (Nat.lt_of_lt_of_le VL0.lt (Nat.le_of_eq g162.symm))
    have lt162 : o162 < h162.size := A162.lt
    have J162 := J0.add E162 g162 lt162
    have B162 := B0.mono E162.1
    have O162 := O0.ext E162
    have sz162 : h0.size ≤ o162 := Nat.le_trans K0.1 (Nat.le_of_eq g162.symm)
    have fr162 : h0.size ≤ o162 := sz162
    have K162 := K0.ext E162
    have F162_field : Fld Z h162 o162 "com/example/dispatcher/dispatcher/web/FieldError" "field" "Ljava/lang/String;" .null := D162 (Or.inr (hw _ (List.mem_of_getElem? (i := 42) rfl))) (ty := (.object "java/lang/String")) (by decide)
    have F162_message : Fld Z h162 o162 "com/example/dispatcher/dispatcher/web/FieldError" "message" "Ljava/lang/String;" .null := D162 (Or.inr (hw _ (List.mem_of_getElem? (i := 45) rfl))) (ty := (.object "java/lang/String")) (by decide)
    refine Go.of (fun _ hr => st162 _ hr) ?_
    show Go p e s below _ _ _ _ T162 (mkF m 7 #[.val (.int p1), .val (.int p2), .val (.int p3), .val (.int (1 : Int32)), .unset, .unset, .unset, .unset, .unset, .unset] [(.ref o162)])
    refine Go.of (fun _ hr => XS.dup X162.here hx rfl (hb hby at_7) rfl rfl hr) ?_
    show Go p e s below _ _ _ _ T162 (mkF m 8 #[.val (.int p1), .val (.int p2), .val (.int p3), .val (.int (1 : Int32)), .unset, .unset, .unset, .unset, .unset, .unset] [(.ref o162), (.ref o162)])
    refine Go.of (fun _ hr => XS.iloadN X162.here hx rfl (hb hby at_8) rfl  hr) ?_
    show Go p e s below _ _ _ _ T162 (mkF m 9 #[.val (.int p1), .val (.int p2), .val (.int p3), .val (.int (1 : Int32)), .unset, .unset, .unset, .unset, .unset, .unset] [(.int p2), (.ref o162), (.ref o162)])
    refine Go.of (fun _ hr => XS.sipush X162.here hx rfl (hb hby at_9) hr) ?_
    show Go p e s below _ _ _ _ T162 (mkF m 12 #[.val (.int p1), .val (.int p2), .val (.int p3), .val (.int (1 : Int32)), .unset, .unset, .unset, .unset, .unset, .unset] [(.int (255 : Int32)), (.int p2), (.ref o162), (.ref o162)])
    refine Go.of (fun _ hr => XS.iand X162.here hx rfl (hb hby at_12) rfl hr) ?_
    show Go p e s below _ _ _ _ T162 (mkF m 13 #[.val (.int p1), .val (.int p2), .val (.int p3), .val (.int (1 : Int32)), .unset, .unset, .unset, .unset, .unset, .unset] [(.int (p2 &&& (255 : Int32))), (.ref o162), (.ref o162)])
    refine Go.of (fun _ hr => XS.i2c X162.here hx rfl (hb hby at_13) rfl hr) ?_
    show Go p e s below _ _ _ _ T162 (mkF m 14 #[.val (.int p1), .val (.int p2), .val (.int p3), .val (.int (1 : Int32)), .unset, .unset, .unset, .unset, .unset, .unset] [(.int ((p2 &&& (255 : Int32)).toUInt32.toUInt16.toUInt32.toInt32)), (.ref o162), (.ref o162)])
    obtain ⟨_, b163, T163, h163, L163, e163, Cc163, X163, B163, J163, g163, hQ163, st163⟩ := own_callS Cc B162 J162 X162 (hw _ (List.mem_of_getElem? (i := 3) rfl)) (hw _ (List.mem_of_getElem? (i := 4) rfl)) (hw _ (List.mem_of_getElem? (i := 5) rfl)) (hw _ (List.mem_of_getElem? (i := 6) rfl)) (by decide) (rm1 l Z a0 hw [] ((p2 &&& (255 : Int32)).toUInt32.toUInt16.toUInt32.toInt32) zc _ h162 n0 O162 h0.size (own_ole O0) K162.1 (chr8 p2).2 S_C hzc) e162 (g := (mkF m 14 #[.val (.int p1), .val (.int p2), .val (.int p3), .val (.int (1 : Int32)), .unset, .unset, .unset, .unset, .unset, .unset] [(.int ((p2 &&& (255 : Int32)).toUInt32.toUInt16.toUInt32.toInt32)), (.ref o162), (.ref o162)])) rfl (by rw [hml]; rfl) (argsL := [(.int ((p2 &&& (255 : Int32)).toUInt32.toUInt16.toUInt32.toInt32))]) (rest := [(.ref o162), (.ref o162)]) (lenOf pd19 rfl) rfl (W := 2) (by show 2 * 0 + _ ≤ _; exact Nat.le_of_eq rfl) (hb hby at_14) (by decide) (by decide) (by decide) (by decide)
    have f164 := (ED0.ext E162)
    have f165 := (EL0.ext E162)
    have f166 := (VL0.ext E162)
    obtain ⟨r163, t163, kt163, rfl, Nq163, Eq163, R_r163, R_t163, Er163, Fv163, Fc163, Vt163⟩ := hQ163
    have N163 := Fr.app N0 Nq163
    obtain ⟨hx, hZ, hown, hby, hml, hnm, hret, hlk⟩ := id Cc163
    have sz_r163 : h0.size ≤ r163 := Nat.le_trans K162.1 R_r163
    have fr_r163 : h0.size ≤ r163 := sz_r163
    have ne_wD_r163 : wD ≠ r163 := Nat.ne_of_lt (Nat.lt_of_lt_of_le f164.lt R_r163)
    have ne_wL_r163 : wL ≠ r163 := Nat.ne_of_lt (Nat.lt_of_lt_of_le f165.lt R_r163)
    have ne_elL_r163 : elL ≠ r163 := Nat.ne_of_lt (Nat.lt_of_lt_of_le f166.lt R_r163)
    have ne_o162_r163 : o162 ≠ r163 := Nat.ne_of_lt (Nat.lt_of_lt_of_le A162.lt R_r163)
    have sz_t163 : h0.size ≤ t163 := Nat.le_trans K162.1 R_t163
    have fr_t163 : h0.size ≤ t163 := sz_t163
    have ne_wD_t163 : wD ≠ t163 := Nat.ne_of_lt (Nat.lt_of_lt_of_le f164.lt R_t163)
    have ne_wL_t163 : wL ≠ t163 := Nat.ne_of_lt (Nat.lt_of_lt_of_le f165.lt R_t163)
    have ne_elL_t163 : elL ≠ t163 := Nat.ne_of_lt (Nat.lt_of_lt_of_le f166.lt R_t163)
    have ne_o162_t163 : o162 ≠ t163 := Nat.ne_of_lt (Nat.lt_of_lt_of_le A162.lt R_t163)
    have K163 := K162.ext Eq163
    have O163 := O162.ext Eq163
    refine Go.of st163 ?_
    show Go p e s below _ _ _ _ T163 (mkF m 17 #[.val (.int p1), .val (.int p2), .val (.int p3), .val (.int (1 : Int32)), .unset, .unset, .unset, .unset, .unset, .unset] [(.ref r163), (.ref o162), (.ref o162)])
    refine Go.of (fun _ hr => XS.iloadN X163.here hx rfl (hb hby at_17) rfl  hr) ?_
    show Go p e s below _ _ _ _ T163 (mkF m 18 #[.val (.int p1), .val (.int p2), .val (.int p3), .val (.int (1 : Int32)), .unset, .unset, .unset, .unset, .unset, .unset] [(.int p3), (.ref r163), (.ref o162), (.ref o162)])
    refine Go.of (fun _ hr => XS.sipush X163.here hx rfl (hb hby at_18) hr) ?_
    show Go p e s below _ _ _ _ T163 (mkF m 21 #[.val (.int p1), .val (.int p2), .val (.int p3), .val (.int (1 : Int32)), .unset, .unset, .unset, .unset, .unset, .unset] [(.int (255 : Int32)), (.int p3), (.ref r163), (.ref o162), (.ref o162)])
    refine Go.of (fun _ hr => XS.iand X163.here hx rfl (hb hby at_21) rfl hr) ?_
    show Go p e s below _ _ _ _ T163 (mkF m 22 #[.val (.int p1), .val (.int p2), .val (.int p3), .val (.int (1 : Int32)), .unset, .unset, .unset, .unset, .unset, .unset] [(.int (p3 &&& (255 : Int32))), (.ref r163), (.ref o162), (.ref o162)])
    refine Go.of (fun _ hr => XS.i2c X163.here hx rfl (hb hby at_22) rfl hr) ?_
    show Go p e s below _ _ _ _ T163 (mkF m 23 #[.val (.int p1), .val (.int p2), .val (.int p3), .val (.int (1 : Int32)), .unset, .unset, .unset, .unset, .unset, .unset] [(.int ((p3 &&& (255 : Int32)).toUInt32.toUInt16.toUInt32.toInt32)), (.ref r163), (.ref o162), (.ref o162)])
    obtain ⟨_, b167, T167, h167, L167, e167, Cc167, X167, B167, J167, g167, hQ167, st167⟩ := own_callS Cc163 B163 J163 X163 (hw _ (List.mem_of_getElem? (i := 3) rfl)) (hw _ (List.mem_of_getElem? (i := 4) rfl)) (hw _ (List.mem_of_getElem? (i := 5) rfl)) (hw _ (List.mem_of_getElem? (i := 6) rfl)) (by decide) (rm1 l Z a0 hw [] ((p3 &&& (255 : Int32)).toUInt32.toUInt16.toUInt32.toInt32) zc _ h163 n0 O163 h0.size (own_ole O0) K163.1 (chr8 p3).2 S_C hzc) e163 (g := (mkF m 23 #[.val (.int p1), .val (.int p2), .val (.int p3), .val (.int (1 : Int32)), .unset, .unset, .unset, .unset, .unset, .unset] [(.int ((p3 &&& (255 : Int32)).toUInt32.toUInt16.toUInt32.toInt32)), (.ref r163), (.ref o162), (.ref o162)])) rfl (by rw [hml]; rfl) (argsL := [(.int ((p3 &&& (255 : Int32)).toUInt32.toUInt16.toUInt32.toInt32))]) (rest := [(.ref r163), (.ref o162), (.ref o162)]) (lenOf pd19 rfl) rfl (W := 3) (by show 2 * 0 + _ ≤ _; exact Nat.le_of_eq rfl) (hb hby at_23) (by decide) (by decide) (by decide) (by decide)
    have f168 := (f164.ext Eq163)
    have f169 := (f165.ext Eq163)
    have f170 := (f166.ext Eq163)
    have f171 := (A162.ext Eq163)
    obtain ⟨r167, t167, kt167, rfl, Nq167, Eq167, R_r167, R_t167, Er167, Fv167, Fc167, Vt167⟩ := hQ167
    have N167 := Fr.app N163 Nq167
    obtain ⟨hx, hZ, hown, hby, hml, hnm, hret, hlk⟩ := id Cc167
    have sz_r167 : h0.size ≤ r167 := Nat.le_trans K163.1 R_r167
    have fr_r167 : h0.size ≤ r167 := sz_r167
    have ne_wD_r167 : wD ≠ r167 := Nat.ne_of_lt (Nat.lt_of_lt_of_le f168.lt R_r167)
    have ne_wL_r167 : wL ≠ r167 := Nat.ne_of_lt (Nat.lt_of_lt_of_le f169.lt R_r167)
    have ne_elL_r167 : elL ≠ r167 := Nat.ne_of_lt (Nat.lt_of_lt_of_le f170.lt R_r167)
    have ne_o162_r167 : o162 ≠ r167 := Nat.ne_of_lt (Nat.lt_of_lt_of_le f171.lt R_r167)
    have ne_r163_r167 : r163 ≠ r167 := Nat.ne_of_lt (Nat.lt_of_lt_of_le Er163.lt R_r167)
    have ne_t163_r167 : t163 ≠ r167 := Nat.ne_of_lt (Nat.lt_of_lt_of_le Vt163.lt R_r167)
    have sz_t167 : h0.size ≤ t167 := Nat.le_trans K163.1 R_t167
    have fr_t167 : h0.size ≤ t167 := sz_t167
    have ne_wD_t167 : wD ≠ t167 := Nat.ne_of_lt (Nat.lt_of_lt_of_le f168.lt R_t167)
    have ne_wL_t167 : wL ≠ t167 := Nat.ne_of_lt (Nat.lt_of_lt_of_le f169.lt R_t167)
    have ne_elL_t167 : elL ≠ t167 := Nat.ne_of_lt (Nat.lt_of_lt_of_le f170.lt R_t167)
    have ne_o162_t167 : o162 ≠ t167 := Nat.ne_of_lt (Nat.lt_of_lt_of_le f171.lt R_t167)
    have ne_r163_t167 : r163 ≠ t167 := Nat.ne_of_lt (Nat.lt_of_lt_of_le Er163.lt R_t167)
    have ne_t163_t167 : t163 ≠ t167 := Nat.ne_of_lt (Nat.lt_of_lt_of_le Vt163.lt R_t167)
    have K167 := K163.ext Eq167
    have O167 := O163.ext Eq167
    refine Go.of st167 ?_
    show Go p e s below _ _ _ _ T167 (mkF m 26 #[.val (.int p1), .val (.int p2), .val (.int p3), .val (.int (1 : Int32)), .unset, .unset, .unset, .unset, .unset, .unset] [(.ref r167), (.ref r163), (.ref o162), (.ref o162)])
    have f173 := (f171.ext Eq167)
    have f174 := ((F162_field.ext Eq163).ext Eq167)
    have f175 := ((F162_message.ext Eq163).ext Eq167)
    have f176 := (Er163.ext Eq167)
    obtain ⟨_, b172, T172, h172, L172, e172, Cc172, X172, B172, J172, g172, hQ172, st172⟩ := own_callI Cc167 B167 J167 X167 rfl (hw _ (List.mem_of_getElem? (i := 29) rfl)) (hw _ (List.mem_of_getElem? (i := 30) rfl)) (hw _ (List.mem_of_getElem? (i := 2) rfl)) (hw _ (List.mem_of_getElem? (i := 31) rfl)) (by decide) (rm6 l Z a0 hw [] o162 r163 r167 _ _ _ h167 n0 O167 h0.size (own_ole O0) K167.1 fr162 trivial f173 f174 f175 f176 Er167) e167 (g := (mkF m 26 #[.val (.int p1), .val (.int p2), .val (.int p3), .val (.int (1 : Int32)), .unset, .unset, .unset, .unset, .unset, .unset] [(.ref r167), (.ref r163), (.ref o162), (.ref o162)])) rfl (by rw [hml]; rfl) (argsL := [(.ref r163), (.ref r167)]) (rest := [(.ref o162)]) (lenOf pd20 rfl) rfl (W := 1) (by show 2 * 0 + _ ≤ _; exact Nat.le_of_eq rfl) (hb hby at_26) (by decide) (by decide) (by decide) (by decide)
    obtain ⟨rfl, Nq172, Kq172⟩ := hQ172
    have N172 := Fr.app N167 Nq172
    obtain ⟨hx, hZ, hown, hby, hml, hnm, hret, hlk⟩ := id Cc172
    have K172 := K167.trans Kq172 (allS (Or.inr sz162) all0)
    have O172 := O167.keep Kq172 (allS (Nat.le_trans (own_ole O0) fr162) all0)
    refine Go.of st172 ?_
    show Go p e s below _ _ _ _ T172 (mkF m 29 #[.val (.int p1), .val (.int p2), .val (.int p3), .val (.int (1 : Int32)), .unset, .unset, .unset, .unset, .unset, .unset] [(.ref o162)])
    refine Go.of (fun _ hr => XS.astore X172.here hx rfl (hb hby at_29) rfl rfl (l' := #[.val (.int p1), .val (.int p2), .val (.int p3), .val (.int (1 : Int32)), .val (.ref o162), .unset, .unset, .unset, .unset, .unset]) rfl hr) ?_
    show Go p e s below _ _ _ _ T172 (mkF m 31 #[.val (.int p1), .val (.int p2), .val (.int p3), .val (.int (1 : Int32)), .val (.ref o162), .unset, .unset, .unset, .unset, .unset] [])
    obtain ⟨T177, h177, X177, e177, E177, A177, D177, -, st177⟩ := newO X172 hx hZ hown (hw _ (List.mem_of_getElem? (i := 46) rfl)) (hw _ (List.mem_of_getElem? (i := 47) rfl)) (hw _ (List.mem_of_getElem? (i := 48) rfl)) e172 (g := (mkF m 31 #[.val (.int p1), .val (.int p2), .val (.int p3), .val (.int (1 : Int32)), .val (.ref o162), .unset, .unset, .unset, .unset, .unset] [])) rfl (hb hby at_31) (by decide) (by decide)
    obtain ⟨o177, g177⟩ : ∃ z, z = h172.size := ⟨_, rfl⟩
    rw [← g177] at A177 D177 st177
    have f178 := ((f168.ext Eq167).keep Kq172)
    have ne_wD_o177 : wD ≠ o177 := Nat.ne_of_lt (Nat.lt_of_lt_of_le f178.lt (Nat.le_of_eq g177.symm))
    have f179 := ((f169.ext Eq167).keep Kq172)
    have ne_wL_o177 : wL ≠ o177 := Nat.ne_of_lt (Nat.lt_of_lt_of_le f179.lt (Nat.le_of_eq g177.symm))
    have f180 := ((f170.ext Eq167).keep Kq172 (ninS ne_elL_o162 nin0))
    have ne_elL_o177 : elL ≠ o177 := Nat.ne_of_lt (Nat.lt_of_lt_of_le f180.lt (Nat.le_of_eq g177.symm))
    have f181 := (f173.keep Kq172)
    have ne_o162_o177 : o162 ≠ o177 := Nat.ne_of_lt (Nat.lt_of_lt_of_le f181.lt (Nat.le_of_eq g177.symm))
    have f182 := (f176.keep Kq172)
    have ne_r163_o177 : r163 ≠ o177 := Nat.ne_of_lt (Nat.lt_of_lt_of_le f182.lt (Nat.le_of_eq g177.symm))
    have f183 := ((Vt163.ext Eq167).keep Kq172 (ninS (Ne.symm ne_o162_t163) nin0))
    have ne_t163_o177 : t163 ≠ o177 := Nat.ne_of_lt (Nat.lt_of_lt_of_le f183.lt (Nat.le_of_eq g177.symm))
    have f184 := (Er167.keep Kq172)
    have ne_r167_o177 : r167 ≠ o177 := Nat.ne_of_lt (Nat.lt_of_lt_of_le f184.lt (Nat.le_of_eq g177.symm))
    have f185 := (Vt167.keep Kq172 (ninS (Ne.symm ne_o162_t167) nin0))
    have ne_t167_o177 : t167 ≠ o177 := Nat.ne_of_lt (Nat.lt_of_lt_of_le f185.lt (Nat.le_of_eq g177.symm))
    have lt177 : o177 < h177.size := A177.lt
    have J177 := J172.add E177 g177 lt177
    have B177 := B172.mono E177.1
    have O177 := O172.ext E177
    have sz177 : h0.size ≤ o177 := Nat.le_trans K172.1 (Nat.le_of_eq g177.symm)
    have fr177 : h0.size ≤ o177 := sz177
    have K177 := K172.ext E177
    have F177_modCount : Fld Z h177 o177 "java/util/AbstractList" "modCount" "I" (.int (0 : Int32)) := D177 (Or.inl (hw _ (List.mem_of_getElem? (i := 66) rfl))) (ty := .int) (by decide)
    have F177_elementData : Fld Z h177 o177 "java/util/ArrayList" "elementData" "[Ljava/lang/Object;" .null := D177 (Or.inl (hw _ (List.mem_of_getElem? (i := 69) rfl))) (ty := (.array (.object "java/lang/Object"))) (by decide)
    have F177_size : Fld Z h177 o177 "java/util/ArrayList" "size" "I" (.int (0 : Int32)) := D177 (Or.inl (hw _ (List.mem_of_getElem? (i := 101) rfl))) (ty := .int) (by decide)
    refine Go.of (fun _ hr => st177 _ hr) ?_
    show Go p e s below _ _ _ _ T177 (mkF m 34 #[.val (.int p1), .val (.int p2), .val (.int p3), .val (.int (1 : Int32)), .val (.ref o162), .unset, .unset, .unset, .unset, .unset] [(.ref o177)])
    refine Go.of (fun _ hr => XS.dup X177.here hx rfl (hb hby at_34) rfl rfl hr) ?_
    show Go p e s below _ _ _ _ T177 (mkF m 35 #[.val (.int p1), .val (.int p2), .val (.int p3), .val (.int (1 : Int32)), .val (.ref o162), .unset, .unset, .unset, .unset, .unset] [(.ref o177), (.ref o177)])
    obtain ⟨_, b186, T186, h186, L186, e186, Cc186, X186, B186, J186, g186, hQ186, st186⟩ := own_callI Cc172 B177 J177 X177 rfl (hw _ (List.mem_of_getElem? (i := 49) rfl)) (hw _ (List.mem_of_getElem? (i := 50) rfl)) (hw _ (List.mem_of_getElem? (i := 48) rfl)) (hw _ (List.mem_of_getElem? (i := 51) rfl)) (by decide) (rm8 l Z a0 hw [] o177 wD _ _ _ h177 n0 O177 h0.size (own_ole O0) K177.1 fr177 trivial S_D A177 F177_modCount F177_elementData F177_size) e177 (g := (mkF m 35 #[.val (.int p1), .val (.int p2), .val (.int p3), .val (.int (1 : Int32)), .val (.ref o162), .unset, .unset, .unset, .unset, .unset] [(.ref o177), (.ref o177)])) rfl (by rw [hml]; rfl) (argsL := []) (rest := [(.ref o177)]) (lenOf pd4 rfl) rfl (W := 1) (by show 2 * 0 + _ ≤ _; exact Nat.le_of_eq rfl) (hb hby at_35) (by decide) (by decide) (by decide) (by decide)
    obtain ⟨rfl, Nq186, Kq186, Fa186, Fb186, Fc186⟩ := hQ186
    have N186 := Fr.app N172 Nq186
    obtain ⟨hx, hZ, hown, hby, hml, hnm, hret, hlk⟩ := id Cc186
    have K186 := K177.trans Kq186 (allS (Or.inr sz177) all0)
    have O186 := O177.keep Kq186 (allS (Nat.le_trans (own_ole O0) fr177) all0)
    refine Go.of st186 ?_
    show Go p e s below _ _ _ _ T186 (mkF m 38 #[.val (.int p1), .val (.int p2), .val (.int p3), .val (.int (1 : Int32)), .val (.ref o162), .unset, .unset, .unset, .unset, .unset] [(.ref o177)])
    refine Go.of (fun _ hr => XS.astore X186.here hx rfl (hb hby at_38) rfl rfl (l' := #[.val (.int p1), .val (.int p2), .val (.int p3), .val (.int (1 : Int32)), .val (.ref o162), .val (.ref o177), .unset, .unset, .unset, .unset]) rfl hr) ?_
    show Go p e s below _ _ _ _ T186 (mkF m 40 #[.val (.int p1), .val (.int p2), .val (.int p3), .val (.int (1 : Int32)), .val (.ref o162), .val (.ref o177), .unset, .unset, .unset, .unset] [])
    refine Go.of (fun _ hr => XS.iloadN X186.here hx rfl (hb hby at_40) rfl  hr) ?_
    show Go p e s below _ _ _ _ T186 (mkF m 41 #[.val (.int p1), .val (.int p2), .val (.int p3), .val (.int (1 : Int32)), .val (.ref o162), .val (.ref o177), .unset, .unset, .unset, .unset] [(.int (1 : Int32))])
    refine Go.of (fun _ hr => XS.iconst X186.here hx rfl (hb hby at_41) hr) ?_
    show Go p e s below _ _ _ _ T186 (mkF m 42 #[.val (.int p1), .val (.int p2), .val (.int p3), .val (.int (1 : Int32)), .val (.ref o162), .val (.ref o177), .unset, .unset, .unset, .unset] [(.int (1 : Int32)), (.int (1 : Int32))])
    refine Go.of (fun _ hr => XS.icmpNo X186.here hx rfl (hb hby at_42) rfl (flt (by decide : ¬ ((1 : Int32) < (1 : Int32)))).1 hr) ?_
    show Go p e s below _ _ _ _ T186 (mkF m 45 #[.val (.int p1), .val (.int p2), .val (.int p3), .val (.int (1 : Int32)), .val (.ref o162), .val (.ref o177), .unset, .unset, .unset, .unset] [])
    refine Go.of (fun _ hr => XS.aload X186.here hx rfl (hb hby at_45) rfl rfl hr) ?_
    show Go p e s below _ _ _ _ T186 (mkF m 47 #[.val (.int p1), .val (.int p2), .val (.int p3), .val (.int (1 : Int32)), .val (.ref o162), .val (.ref o177), .unset, .unset, .unset, .unset] [(.ref o177)])
    refine Go.of (fun _ hr => XS.aload X186.here hx rfl (hb hby at_47) rfl rfl hr) ?_
    show Go p e s below _ _ _ _ T186 (mkF m 49 #[.val (.int p1), .val (.int p2), .val (.int p3), .val (.int (1 : Int32)), .val (.ref o162), .val (.ref o177), .unset, .unset, .unset, .unset] [(.ref o162), (.ref o177)])
    have f188 := (A177.keep Kq186)
    have f189 := ((((((VD0.ext E162).ext Eq163).ext Eq167).keep Kq172 (ninS ne_wD_o162 nin0)).ext E177).keep Kq186 (ninS ne_wD_o177 nin0))
    have f190 := ((f181.ext E177).keep Kq186)
    obtain ⟨_, b187, T187, h187, L187, e187, Cc187, X187, B187, J187, g187, hQ187, st187⟩ := own_callV Cc186 B186 J186 X186 (hw _ (List.mem_of_getElem? (i := 125) rfl)) (hw _ (List.mem_of_getElem? (i := 126) rfl)) (notFace_of_selects (args := #[]) (mvT hZ (hw _ (List.mem_of_getElem? (i := 128) rfl)))) (hw _ (List.mem_of_getElem? (i := 128) rfl)) (hw _ (List.mem_of_getElem? (i := 127) rfl)) (hw _ (List.mem_of_getElem? (i := 48) rfl)) (hw _ (List.mem_of_getElem? (i := 129) rfl)) (by decide) f188 (rmA1_0 l Z a0 hw [] o177 o162 wD _ (0 : Int32) _ h186 n0 O186 h0.size (own_ole O0) K186.1 fr177 trivial S_D f188 Fa186 Fb186 Fc186 f189 ne_wD_o177 f190 ne_o162_o177) e186 (g := (mkF m 49 #[.val (.int p1), .val (.int p2), .val (.int p3), .val (.int (1 : Int32)), .val (.ref o162), .val (.ref o177), .unset, .unset, .unset, .unset] [(.ref o162), (.ref o177)])) rfl (by rw [hml]; rfl) (argsL := [(.ref o162)]) (rest := []) (lenOf pd22 rfl) rfl (W := 0) (by show 2 * 0 + _ ≤ _; exact Nat.le_of_eq rfl) (hb hby at_49) (by decide) (by decide) (by decide) (by decide)
    have f191 := ((f178.ext E177).keep Kq186)
    have f192 := ((f179.ext E177).keep Kq186)
    have f193 := ((f180.ext E177).keep Kq186 (ninS ne_elL_o177 nin0))
    have f194 := ((f182.ext E177).keep Kq186)
    have f195 := ((f183.ext E177).keep Kq186 (ninS ne_t163_o177 nin0))
    have f196 := ((f184.ext E177).keep Kq186)
    have f197 := ((f185.ext E177).keep Kq186 (ninS ne_t167_o177 nin0))
    obtain ⟨d187, kd187, rfl, Nq187, Kq187, R_d187, Fa187, Fb187, Fc187, Ed187, Vd187, Od187⟩ := hQ187
    have N187 := Fr.app N186 Nq187
    obtain ⟨hx, hZ, hown, hby, hml, hnm, hret, hlk⟩ := id Cc187
    have sz_d187 : h0.size ≤ d187 := Nat.le_trans K186.1 R_d187
    have fr_d187 : h0.size ≤ d187 := sz_d187
    have ne_wD_d187 : wD ≠ d187 := Nat.ne_of_lt (Nat.lt_of_lt_of_le f191.lt R_d187)
    have ne_wL_d187 : wL ≠ d187 := Nat.ne_of_lt (Nat.lt_of_lt_of_le f192.lt R_d187)
    have ne_elL_d187 : elL ≠ d187 := Nat.ne_of_lt (Nat.lt_of_lt_of_le f193.lt R_d187)
    have ne_o162_d187 : o162 ≠ d187 := Nat.ne_of_lt (Nat.lt_of_lt_of_le f190.lt R_d187)
    have ne_r163_d187 : r163 ≠ d187 := Nat.ne_of_lt (Nat.lt_of_lt_of_le f194.lt R_d187)
    have ne_t163_d187 : t163 ≠ d187 := Nat.ne_of_lt (Nat.lt_of_lt_of_le f195.lt R_d187)
    have ne_r167_d187 : r167 ≠ d187 := Nat.ne_of_lt (Nat.lt_of_lt_of_le f196.lt R_d187)
    have ne_t167_d187 : t167 ≠ d187 := Nat.ne_of_lt (Nat.lt_of_lt_of_le f197.lt R_d187)
    have ne_o177_d187 : o177 ≠ d187 := Nat.ne_of_lt (Nat.lt_of_lt_of_le f188.lt R_d187)
    have K187 := K186.trans Kq187 (allS (Or.inr sz177) all0)
    have O187 := O186.keep Kq187 (allS (Nat.le_trans (own_ole O0) fr177) all0)
    refine Go.of st187 ?_
    show Go p e s below _ _ _ _ T187 (mkF m 52 #[.val (.int p1), .val (.int p2), .val (.int p3), .val (.int (1 : Int32)), .val (.ref o162), .val (.ref o177), .unset, .unset, .unset, .unset] [(.int (1 : Int32))])
    refine Go.of (fun _ hr => XS.pop X187.here hx rfl (hb hby at_52) rfl rfl hr) ?_
    show Go p e s below _ _ _ _ T187 (mkF m 53 #[.val (.int p1), .val (.int p2), .val (.int p3), .val (.int (1 : Int32)), .val (.ref o162), .val (.ref o177), .unset, .unset, .unset, .unset] [])
    refine Go.of (fun _ hr => XS.iloadN X187.here hx rfl (hb hby at_53) rfl  hr) ?_
    show Go p e s below _ _ _ _ T187 (mkF m 54 #[.val (.int p1), .val (.int p2), .val (.int p3), .val (.int (1 : Int32)), .val (.ref o162), .val (.ref o177), .unset, .unset, .unset, .unset] [(.int (1 : Int32))])
    refine Go.of (fun _ hr => XS.iconst X187.here hx rfl (hb hby at_54) hr) ?_
    show Go p e s below _ _ _ _ T187 (mkF m 55 #[.val (.int p1), .val (.int p2), .val (.int p3), .val (.int (1 : Int32)), .val (.ref o162), .val (.ref o177), .unset, .unset, .unset, .unset] [(.int (2 : Int32)), (.int (1 : Int32))])
    refine Go.of (fun _ hr => XS.icmpYes X187.here hx rfl (pc0 := 55) (pc' := 66) rfl (hb hby at_55) rfl (tlt (by decide : ((1 : Int32) < (2 : Int32)))).1 (by decide) (by decide) hr) ?_
    show Go p e s below _ _ _ _ T187 (mkF m 66 #[.val (.int p1), .val (.int p2), .val (.int p3), .val (.int (1 : Int32)), .val (.ref o162), .val (.ref o177), .unset, .unset, .unset, .unset] [])
    refine Go.of (fun _ hr => XS.iloadN X187.here hx rfl (hb hby at_66) rfl  hr) ?_
    show Go p e s below _ _ _ _ T187 (mkF m 67 #[.val (.int p1), .val (.int p2), .val (.int p3), .val (.int (1 : Int32)), .val (.ref o162), .val (.ref o177), .unset, .unset, .unset, .unset] [(.int (1 : Int32))])
    refine Go.of (fun _ hr => XS.iconst X187.here hx rfl (hb hby at_67) hr) ?_
    show Go p e s below _ _ _ _ T187 (mkF m 68 #[.val (.int p1), .val (.int p2), .val (.int p3), .val (.int (1 : Int32)), .val (.ref o162), .val (.ref o177), .unset, .unset, .unset, .unset] [(.int (3 : Int32)), (.int (1 : Int32))])
    refine Go.of (fun _ hr => XS.icmpYes X187.here hx rfl (pc0 := 68) (pc' := 79) rfl (hb hby at_68) rfl (tlt (by decide : ((1 : Int32) < (3 : Int32)))).1 (by decide) (by decide) hr) ?_
    show Go p e s below _ _ _ _ T187 (mkF m 79 #[.val (.int p1), .val (.int p2), .val (.int p3), .val (.int (1 : Int32)), .val (.ref o162), .val (.ref o177), .unset, .unset, .unset, .unset] [])
    obtain ⟨T198, h198, X198, e198, E198, A198, D198, -, st198⟩ := newO X187 hx hZ hown (hw _ (List.mem_of_getElem? (i := 70) rfl)) (hw _ (List.mem_of_getElem? (i := 71) rfl)) (hw _ (List.mem_of_getElem? (i := 72) rfl)) e187 (g := (mkF m 79 #[.val (.int p1), .val (.int p2), .val (.int p3), .val (.int (1 : Int32)), .val (.ref o162), .val (.ref o177), .unset, .unset, .unset, .unset] [])) rfl (hb hby at_79) (by decide) (by decide)
    obtain ⟨o198, g198⟩ : ∃ z, z = h187.size := ⟨_, rfl⟩
    rw [← g198] at A198 D198 st198
    have f199 := (f191.keep Kq187)
    have ne_wD_o198 : wD ≠ o198 := Nat.ne_of_lt (Nat.lt_of_lt_of_le f199.lt (Nat.le_of_eq g198.symm))
    have f200 := (f192.keep Kq187)
    have ne_wL_o198 : wL ≠ o198 := Nat.ne_of_lt (Nat.lt_of_lt_of_le f200.lt (Nat.le_of_eq g198.symm))
    have f201 := (f193.keep Kq187 (ninS ne_elL_o177 nin0))
    have ne_elL_o198 : elL ≠ o198 := Nat.ne_of_lt (Nat.lt_of_lt_of_le f201.lt (Nat.le_of_eq g198.symm))
    have f202 := (f190.keep Kq187)
    have ne_o162_o198 : o162 ≠ o198 := Nat.ne_of_lt (Nat.lt_of_lt_of_le f202.lt (Nat.le_of_eq g198.symm))
    have f203 := (f194.keep Kq187)
    have ne_r163_o198 : r163 ≠ o198 := Nat.ne_of_lt (Nat.lt_of_lt_of_le f203.lt (Nat.le_of_eq g198.symm))
    have f204 := (f195.keep Kq187 (ninS ne_t163_o177 nin0))
    have ne_t163_o198 : t163 ≠ o198 := Nat.ne_of_lt (Nat.lt_of_lt_of_le f204.lt (Nat.le_of_eq g198.symm))
    have f205 := (f196.keep Kq187)
    have ne_r167_o198 : r167 ≠ o198 := Nat.ne_of_lt (Nat.lt_of_lt_of_le f205.lt (Nat.le_of_eq g198.symm))
    have f206 := (f197.keep Kq187 (ninS ne_t167_o177 nin0))
    have ne_t167_o198 : t167 ≠ o198 := Nat.ne_of_lt (Nat.lt_of_lt_of_le f206.lt (Nat.le_of_eq g198.symm))
    have f207 := (f188.keep Kq187)
    have ne_o177_o198 : o177 ≠ o198 := Nat.ne_of_lt (Nat.lt_of_lt_of_le f207.lt (Nat.le_of_eq g198.symm))
    have ne_d187_o198 : d187 ≠ o198 := Nat.ne_of_lt (Nat.lt_of_lt_of_le Ed187.lt (Nat.le_of_eq g198.symm))
    have lt198 : o198 < h198.size := A198.lt
    have J198 := J187.add E198 g198 lt198
    have B198 := B187.mono E198.1
    have O198 := O187.ext E198
    have sz198 : h0.size ≤ o198 := Nat.le_trans K187.1 (Nat.le_of_eq g198.symm)
    have fr198 : h0.size ≤ o198 := sz198
    have K198 := K187.ext E198
    have F198_errors : Fld Z h198 o198 "com/example/dispatcher/dispatcher/web/BindingResult" "errors" "Ljava/util/List;" .null := D198 (Or.inr (hw _ (List.mem_of_getElem? (i := 107) rfl))) (ty := (.object "java/util/List")) (by decide)
    refine Go.of (fun _ hr => st198 _ hr) ?_
    show Go p e s below _ _ _ _ T198 (mkF m 82 #[.val (.int p1), .val (.int p2), .val (.int p3), .val (.int (1 : Int32)), .val (.ref o162), .val (.ref o177), .unset, .unset, .unset, .unset] [(.ref o198)])
    refine Go.of (fun _ hr => XS.dup X198.here hx rfl (hb hby at_82) rfl rfl hr) ?_
    show Go p e s below _ _ _ _ T198 (mkF m 83 #[.val (.int p1), .val (.int p2), .val (.int p3), .val (.int (1 : Int32)), .val (.ref o162), .val (.ref o177), .unset, .unset, .unset, .unset] [(.ref o198), (.ref o198)])
    refine Go.of (fun _ hr => XS.aload X198.here hx rfl (hb hby at_83) rfl rfl hr) ?_
    show Go p e s below _ _ _ _ T198 (mkF m 85 #[.val (.int p1), .val (.int p2), .val (.int p3), .val (.int (1 : Int32)), .val (.ref o162), .val (.ref o177), .unset, .unset, .unset, .unset] [(.ref o177), (.ref o198), (.ref o198)])
    have f209 := (f207.ext E198)
    have f210 := (Fc187.ext E198)
    have f211 := (Fb187.ext E198)
    have f212 := (Ed187.ext E198)
    have f213 := (Vd187.ext E198)
    have f214 := (f202.ext E198)
    obtain ⟨_, b208, T208, h208, L208, e208, Cc208, X208, B208, J208, g208, hQ208, st208⟩ := own_callI Cc187 B198 J198 X198 rfl (hw _ (List.mem_of_getElem? (i := 73) rfl)) (hw _ (List.mem_of_getElem? (i := 74) rfl)) (hw _ (List.mem_of_getElem? (i := 72) rfl)) (hw _ (List.mem_of_getElem? (i := 75) rfl)) (by decide) (rmB_1 l Z a0 hw [] o198 o177 o162 mr wE wL d187 _ _ _ h198 n0 O198 h0.size (own_ole O0) K198.1 fr198 trivial S_E S_L M A198 F198_errors f209 f210 ne_o177_o198 f211 f212 f213 f214 ne_d187_o198 ne_o162_o198) e198 (g := (mkF m 85 #[.val (.int p1), .val (.int p2), .val (.int p3), .val (.int (1 : Int32)), .val (.ref o162), .val (.ref o177), .unset, .unset, .unset, .unset] [(.ref o177), (.ref o198), (.ref o198)])) rfl (by rw [hml]; rfl) (argsL := [(.ref o177)]) (rest := [(.ref o198)]) (lenOf pd21 rfl) rfl (W := 1) (by show 2 * 0 + _ ≤ _; exact Nat.le_of_eq rfl) (hb hby at_85) (by decide) (by decide) (by decide) (by decide)
    have f215 := (f199.ext E198)
    have f216 := (f200.ext E198)
    have f217 := (f201.ext E198)
    have f218 := (f203.ext E198)
    have f219 := (f204.ext E198)
    have f220 := (f205.ext E198)
    have f221 := (f206.ext E198)
    obtain ⟨rfl, Nq208, Kq208, r208, R_r208, Er208, Fr208⟩ := hQ208
    have N208 := Fr.app N187 Nq208
    obtain ⟨hx, hZ, hown, hby, hml, hnm, hret, hlk⟩ := id Cc208
    have sz_r208 : h0.size ≤ r208 := Nat.le_trans K198.1 R_r208
    have fr_r208 : h0.size ≤ r208 := sz_r208
    have ne_wD_r208 : wD ≠ r208 := Nat.ne_of_lt (Nat.lt_of_lt_of_le f215.lt R_r208)
    have ne_wL_r208 : wL ≠ r208 := Nat.ne_of_lt (Nat.lt_of_lt_of_le f216.lt R_r208)
    have ne_elL_r208 : elL ≠ r208 := Nat.ne_of_lt (Nat.lt_of_lt_of_le f217.lt R_r208)
    have ne_o162_r208 : o162 ≠ r208 := Nat.ne_of_lt (Nat.lt_of_lt_of_le f214.lt R_r208)
    have ne_r163_r208 : r163 ≠ r208 := Nat.ne_of_lt (Nat.lt_of_lt_of_le f218.lt R_r208)
    have ne_t163_r208 : t163 ≠ r208 := Nat.ne_of_lt (Nat.lt_of_lt_of_le f219.lt R_r208)
    have ne_r167_r208 : r167 ≠ r208 := Nat.ne_of_lt (Nat.lt_of_lt_of_le f220.lt R_r208)
    have ne_t167_r208 : t167 ≠ r208 := Nat.ne_of_lt (Nat.lt_of_lt_of_le f221.lt R_r208)
    have ne_o177_r208 : o177 ≠ r208 := Nat.ne_of_lt (Nat.lt_of_lt_of_le f209.lt R_r208)
    have ne_d187_r208 : d187 ≠ r208 := Nat.ne_of_lt (Nat.lt_of_lt_of_le f212.lt R_r208)
    have ne_o198_r208 : o198 ≠ r208 := Nat.ne_of_lt (Nat.lt_of_lt_of_le A198.lt R_r208)
    have K208 := K198.trans Kq208 (allS (Or.inr sz198) all0)
    have O208 := O198.keep Kq208 (allS (Nat.le_trans (own_ole O0) fr198) all0)
    refine Go.of st208 ?_
    show Go p e s below _ _ _ _ T208 (mkF m 88 #[.val (.int p1), .val (.int p2), .val (.int p3), .val (.int (1 : Int32)), .val (.ref o162), .val (.ref o177), .unset, .unset, .unset, .unset] [(.ref o198)])
    refine Go.of (fun _ hr => XS.astore X208.here hx rfl (hb hby at_88) rfl rfl (l' := #[.val (.int p1), .val (.int p2), .val (.int p3), .val (.int (1 : Int32)), .val (.ref o162), .val (.ref o177), .val (.ref o198), .unset, .unset, .unset]) rfl hr) ?_
    show Go p e s below _ _ _ _ T208 (mkF m 90 #[.val (.int p1), .val (.int p2), .val (.int p3), .val (.int (1 : Int32)), .val (.ref o162), .val (.ref o177), .val (.ref o198), .unset, .unset, .unset] [])
    refine Go.of (fun _ hr => XS.iloadN X208.here hx rfl (hb hby at_90) rfl  hr) ?_
    show Go p e s below _ _ _ _ T208 (mkF m 91 #[.val (.int p1), .val (.int p2), .val (.int p3), .val (.int (1 : Int32)), .val (.ref o162), .val (.ref o177), .val (.ref o198), .unset, .unset, .unset] [(.int (1 : Int32))])
    refine Go.of (fun _ hr => XS.ifNo X208.here hx rfl (hb hby at_91) rfl ((if0 _ _).trans (tlt (by decide : ((0 : Int32) < (1 : Int32)))).2.2.2) hr) ?_
    show Go p e s below _ _ _ _ T208 (mkF m 94 #[.val (.int p1), .val (.int p2), .val (.int p3), .val (.int (1 : Int32)), .val (.ref o162), .val (.ref o177), .val (.ref o198), .unset, .unset, .unset] [])
    refine Go.of (fun _ hr => XS.iconst X208.here hx rfl (hb hby at_94) hr) ?_
    show Go p e s below _ _ _ _ T208 (mkF m 95 #[.val (.int p1), .val (.int p2), .val (.int p3), .val (.int (1 : Int32)), .val (.ref o162), .val (.ref o177), .val (.ref o198), .unset, .unset, .unset] [(.int (1 : Int32))])
    refine Go.of (fun _ hr => XS.goto X208.here hx rfl (pc0 := 95) (pc' := 99) rfl (hb hby at_95) (by decide) (by decide) hr) ?_
    show Go p e s below _ _ _ _ T208 (mkF m 99 #[.val (.int p1), .val (.int p2), .val (.int p3), .val (.int (1 : Int32)), .val (.ref o162), .val (.ref o177), .val (.ref o198), .unset, .unset, .unset] [(.int (1 : Int32))])
    refine Go.of (fun _ hr => XS.istore X208.here hx rfl (hb hby at_99) rfl (l' := #[.val (.int p1), .val (.int p2), .val (.int p3), .val (.int (1 : Int32)), .val (.ref o162), .val (.ref o177), .val (.ref o198), .val (.int (1 : Int32)), .unset, .unset]) rfl hr) ?_
    show Go p e s below _ _ _ _ T208 (mkF m 101 #[.val (.int p1), .val (.int p2), .val (.int p3), .val (.int (1 : Int32)), .val (.ref o162), .val (.ref o177), .val (.ref o198), .val (.int (1 : Int32)), .unset, .unset] [])
    refine Go.of (fun _ hr => XS.aload X208.here hx rfl (hb hby at_101) rfl rfl hr) ?_
    show Go p e s below _ _ _ _ T208 (mkF m 103 #[.val (.int p1), .val (.int p2), .val (.int p3), .val (.int (1 : Int32)), .val (.ref o162), .val (.ref o177), .val (.ref o198), .val (.int (1 : Int32)), .unset, .unset] [(.ref o198)])
    have f223 := (A198.keep Kq208)
    obtain ⟨_, b222, T222, h222, L222, e222, Cc222, X222, B222, J222, g222, hQ222, st222⟩ := own_callV Cc208 B208 J208 X208 (hw _ (List.mem_of_getElem? (i := 108) rfl)) (hw _ (List.mem_of_getElem? (i := 109) rfl)) (notFace_of_selects (args := #[]) (mvT hZ (hw _ (List.mem_of_getElem? (i := 111) rfl)))) (hw _ (List.mem_of_getElem? (i := 111) rfl)) (hw _ (List.mem_of_getElem? (i := 110) rfl)) (hw _ (List.mem_of_getElem? (i := 72) rfl)) (hw _ (List.mem_of_getElem? (i := 112) rfl)) (by decide) f223 (rmH_1 l Z a0 hw [] o198 r208 r208 r208 0 _ h208 n0 O208 h0.size (own_ole O0) K208.1 Fr208 Er208) e208 (g := (mkF m 103 #[.val (.int p1), .val (.int p2), .val (.int p3), .val (.int (1 : Int32)), .val (.ref o162), .val (.ref o177), .val (.ref o198), .val (.int (1 : Int32)), .unset, .unset] [(.ref o198)])) rfl (by rw [hml]; rfl) (argsL := []) (rest := []) (lenOf pd16 rfl) rfl (W := 0) (by show 2 * 0 + _ ≤ _; exact Nat.le_of_eq rfl) (hb hby at_103) (by decide) (by decide) (by decide) (by decide)
    obtain ⟨rfl, Nq222, hh222⟩ := hQ222
    have N222 := Fr.app N208 Nq222
    obtain ⟨hx, hZ, hown, hby, hml, hnm, hret, hlk⟩ := id Cc222
    rw [hh222] at e222 B222 J222
    refine Go.of st222 ?_
    show Go p e s below _ _ _ _ T222 (mkF m 106 #[.val (.int p1), .val (.int p2), .val (.int p3), .val (.int (1 : Int32)), .val (.ref o162), .val (.ref o177), .val (.ref o198), .val (.int (1 : Int32)), .unset, .unset] [(.int (1 : Int32))])
    refine Go.of (fun _ hr => XS.istore X222.here hx rfl (hb hby at_106) rfl (l' := #[.val (.int p1), .val (.int p2), .val (.int p3), .val (.int (1 : Int32)), .val (.ref o162), .val (.ref o177), .val (.ref o198), .val (.int (1 : Int32)), .val (.int (1 : Int32)), .unset]) rfl hr) ?_
    show Go p e s below _ _ _ _ T222 (mkF m 108 #[.val (.int p1), .val (.int p2), .val (.int p3), .val (.int (1 : Int32)), .val (.ref o162), .val (.ref o177), .val (.ref o198), .val (.int (1 : Int32)), .val (.int (1 : Int32)), .unset] [])
    refine Go.of (fun _ hr => XS.aload X222.here hx rfl (hb hby at_108) rfl rfl hr) ?_
    show Go p e s below _ _ _ _ T222 (mkF m 110 #[.val (.int p1), .val (.int p2), .val (.int p3), .val (.int (1 : Int32)), .val (.ref o162), .val (.ref o177), .val (.ref o198), .val (.int (1 : Int32)), .val (.int (1 : Int32)), .unset] [(.ref o177)])
    refine Go.of (fun _ hr => XS.aload X222.here hx rfl (hb hby at_110) rfl rfl hr) ?_
    show Go p e s below _ _ _ _ T222 (mkF m 112 #[.val (.int p1), .val (.int p2), .val (.int p3), .val (.int (1 : Int32)), .val (.ref o162), .val (.ref o177), .val (.ref o198), .val (.int (1 : Int32)), .val (.int (1 : Int32)), .unset] [(.ref o162), (.ref o177)])
    have f225 := ((Fa187.ext E198).keep Kq208 (ninS ne_o177_o198 nin0))
    have f226 := (f211.keep Kq208 (ninS ne_o177_o198 nin0))
    have f227 := (f210.keep Kq208 (ninS ne_o177_o198 nin0))
    have f228 := (f209.keep Kq208)
    have f229 := (f212.keep Kq208)
    have f230 := (f213.keep Kq208 (ninS ne_d187_o198 nin0))
    have f231 := (f214.keep Kq208)
    obtain ⟨_, b224, T224, h224, L224, e224, Cc224, X224, B224, J224, g224, hQ224, st224⟩ := own_callV Cc222 B222 J222 X222 (hw _ (List.mem_of_getElem? (i := 125) rfl)) (hw _ (List.mem_of_getElem? (i := 126) rfl)) (notFace_of_selects (args := #[]) (mvT hZ (hw _ (List.mem_of_getElem? (i := 128) rfl)))) (hw _ (List.mem_of_getElem? (i := 128) rfl)) (hw _ (List.mem_of_getElem? (i := 127) rfl)) (hw _ (List.mem_of_getElem? (i := 48) rfl)) (hw _ (List.mem_of_getElem? (i := 129) rfl)) (by decide) f228 (rmA1_1 l Z a0 hw [] o177 o162 d187 _ (1 : Int32) _ h208 n0 O208 h0.size (own_ole O0) K208.1 fr177 trivial fr_d187 trivial f228 f225 f226 f227 f229 f230 Od187 (Ne.symm ne_o177_d187) ne_o162_d187 f231 ne_o162_o177) e222 (g := (mkF m 112 #[.val (.int p1), .val (.int p2), .val (.int p3), .val (.int (1 : Int32)), .val (.ref o162), .val (.ref o177), .val (.ref o198), .val (.int (1 : Int32)), .val (.int (1 : Int32)), .unset] [(.ref o162), (.ref o177)])) rfl (by rw [hml]; rfl) (argsL := [(.ref o162)]) (rest := []) (lenOf pd22 rfl) rfl (W := 0) (by show 2 * 0 + _ ≤ _; exact Nat.le_of_eq rfl) (hb hby at_112) (by decide) (by decide) (by decide) (by decide)
    obtain ⟨rfl, Nq224, Kq224, Fa224, Fb224, Fc224, Ed224, Vd224⟩ := hQ224
    have N224 := Fr.app N222 Nq224
    obtain ⟨hx, hZ, hown, hby, hml, hnm, hret, hlk⟩ := id Cc224
    have K224 := K208.trans Kq224 (allS (Or.inr sz177) (allS (Or.inr sz_d187) all0))
    have O224 := O208.keep Kq224 (allS (Nat.le_trans (own_ole O0) fr177) (allS (Nat.le_trans (own_ole O0) fr_d187) all0))
    refine Go.of st224 ?_
    show Go p e s below _ _ _ _ T224 (mkF m 115 #[.val (.int p1), .val (.int p2), .val (.int p3), .val (.int (1 : Int32)), .val (.ref o162), .val (.ref o177), .val (.ref o198), .val (.int (1 : Int32)), .val (.int (1 : Int32)), .unset] [(.int (1 : Int32))])
    refine Go.of (fun _ hr => XS.pop X224.here hx rfl (hb hby at_115) rfl rfl hr) ?_
    show Go p e s below _ _ _ _ T224 (mkF m 116 #[.val (.int p1), .val (.int p2), .val (.int p3), .val (.int (1 : Int32)), .val (.ref o162), .val (.ref o177), .val (.ref o198), .val (.int (1 : Int32)), .val (.int (1 : Int32)), .unset] [])
    refine Go.of (fun _ hr => XS.aload X224.here hx rfl (hb hby at_116) rfl rfl hr) ?_
    show Go p e s below _ _ _ _ T224 (mkF m 118 #[.val (.int p1), .val (.int p2), .val (.int p3), .val (.int (1 : Int32)), .val (.ref o162), .val (.ref o177), .val (.ref o198), .val (.int (1 : Int32)), .val (.int (1 : Int32)), .unset] [(.ref o198)])
    have f233 := (Fr208.keep Kq224 (ninS (Ne.symm ne_o177_o198) (ninS (Ne.symm ne_d187_o198) nin0)))
    have f234 := (Er208.keep Kq224)
    have f235 := (f223.keep Kq224)
    obtain ⟨_, b232, T232, h232, L232, e232, Cc232, X232, B232, J232, g232, hQ232, st232⟩ := own_callV Cc224 B224 J224 X224 (hw _ (List.mem_of_getElem? (i := 108) rfl)) (hw _ (List.mem_of_getElem? (i := 109) rfl)) (notFace_of_selects (args := #[]) (mvT hZ (hw _ (List.mem_of_getElem? (i := 111) rfl)))) (hw _ (List.mem_of_getElem? (i := 111) rfl)) (hw _ (List.mem_of_getElem? (i := 110) rfl)) (hw _ (List.mem_of_getElem? (i := 72) rfl)) (hw _ (List.mem_of_getElem? (i := 112) rfl)) (by decide) f235 (rmH_1 l Z a0 hw [] o198 r208 r208 r208 0 _ h224 n0 O224 h0.size (own_ole O0) K224.1 f233 f234) e224 (g := (mkF m 118 #[.val (.int p1), .val (.int p2), .val (.int p3), .val (.int (1 : Int32)), .val (.ref o162), .val (.ref o177), .val (.ref o198), .val (.int (1 : Int32)), .val (.int (1 : Int32)), .unset] [(.ref o198)])) rfl (by rw [hml]; rfl) (argsL := []) (rest := []) (lenOf pd16 rfl) rfl (W := 0) (by show 2 * 0 + _ ≤ _; exact Nat.le_of_eq rfl) (hb hby at_118) (by decide) (by decide) (by decide) (by decide)
    obtain ⟨rfl, Nq232, hh232⟩ := hQ232
    have N232 := Fr.app N224 Nq232
    obtain ⟨hx, hZ, hown, hby, hml, hnm, hret, hlk⟩ := id Cc232
    rw [hh232] at e232 B232 J232
    refine Go.of st232 ?_
    show Go p e s below _ _ _ _ T232 (mkF m 121 #[.val (.int p1), .val (.int p2), .val (.int p3), .val (.int (1 : Int32)), .val (.ref o162), .val (.ref o177), .val (.ref o198), .val (.int (1 : Int32)), .val (.int (1 : Int32)), .unset] [(.int (1 : Int32))])
    refine Go.of (fun _ hr => XS.istore X232.here hx rfl (hb hby at_121) rfl (l' := #[.val (.int p1), .val (.int p2), .val (.int p3), .val (.int (1 : Int32)), .val (.ref o162), .val (.ref o177), .val (.ref o198), .val (.int (1 : Int32)), .val (.int (1 : Int32)), .val (.int (1 : Int32))]) rfl hr) ?_
    show Go p e s below _ _ _ _ T232 (mkF m 123 #[.val (.int p1), .val (.int p2), .val (.int p3), .val (.int (1 : Int32)), .val (.ref o162), .val (.ref o177), .val (.ref o198), .val (.int (1 : Int32)), .val (.int (1 : Int32)), .val (.int (1 : Int32))] [])
    refine Go.of (fun _ hr => XS.iload X232.here hx rfl (hb hby at_123) rfl  hr) ?_
    show Go p e s below _ _ _ _ T232 (mkF m 125 #[.val (.int p1), .val (.int p2), .val (.int p3), .val (.int (1 : Int32)), .val (.ref o162), .val (.ref o177), .val (.ref o198), .val (.int (1 : Int32)), .val (.int (1 : Int32)), .val (.int (1 : Int32))] [(.int (1 : Int32))])
    refine Go.of (fun _ hr => XS.iload X232.here hx rfl (hb hby at_125) rfl  hr) ?_
    show Go p e s below _ _ _ _ T232 (mkF m 127 #[.val (.int p1), .val (.int p2), .val (.int p3), .val (.int (1 : Int32)), .val (.ref o162), .val (.ref o177), .val (.ref o198), .val (.int (1 : Int32)), .val (.int (1 : Int32)), .val (.int (1 : Int32))] [(.int (1 : Int32)), (.int (1 : Int32))])
    refine Go.of (fun _ hr => XS.icmpNo X232.here hx rfl (hb hby at_127) rfl (teq (by decide : ((1 : Int32) = (1 : Int32)))).2 hr) ?_
    show Go p e s below _ _ _ _ T232 (mkF m 130 #[.val (.int p1), .val (.int p2), .val (.int p3), .val (.int (1 : Int32)), .val (.ref o162), .val (.ref o177), .val (.ref o198), .val (.int (1 : Int32)), .val (.int (1 : Int32)), .val (.int (1 : Int32))] [])
    refine Go.of (fun _ hr => XS.iload X232.here hx rfl (hb hby at_130) rfl  hr) ?_
    show Go p e s below _ _ _ _ T232 (mkF m 132 #[.val (.int p1), .val (.int p2), .val (.int p3), .val (.int (1 : Int32)), .val (.ref o162), .val (.ref o177), .val (.ref o198), .val (.int (1 : Int32)), .val (.int (1 : Int32)), .val (.int (1 : Int32))] [(.int (1 : Int32))])
    refine Go.of (fun _ hr => XS.iload X232.here hx rfl (hb hby at_132) rfl  hr) ?_
    show Go p e s below _ _ _ _ T232 (mkF m 134 #[.val (.int p1), .val (.int p2), .val (.int p3), .val (.int (1 : Int32)), .val (.ref o162), .val (.ref o177), .val (.ref o198), .val (.int (1 : Int32)), .val (.int (1 : Int32)), .val (.int (1 : Int32))] [(.int (1 : Int32)), (.int (1 : Int32))])
    refine Go.of (fun _ hr => XS.icmpNo X232.here hx rfl (hb hby at_134) rfl (teq (by decide : ((1 : Int32) = (1 : Int32)))).2 hr) ?_
    show Go p e s below _ _ _ _ T232 (mkF m 137 #[.val (.int p1), .val (.int p2), .val (.int p3), .val (.int (1 : Int32)), .val (.ref o162), .val (.ref o177), .val (.ref o198), .val (.int (1 : Int32)), .val (.int (1 : Int32)), .val (.int (1 : Int32))] [])
    refine Go.of (fun _ hr => XS.iconst X232.here hx rfl (hb hby at_137) hr) ?_
    show Go p e s below _ _ _ _ T232 (mkF m 138 #[.val (.int p1), .val (.int p2), .val (.int p3), .val (.int (1 : Int32)), .val (.ref o162), .val (.ref o177), .val (.ref o198), .val (.int (1 : Int32)), .val (.int (1 : Int32)), .val (.int (1 : Int32))] [(.int (1 : Int32))])
    refine Go.of (fun _ hr => XS.goto X232.here hx rfl (pc0 := 138) (pc' := 142) rfl (hb hby at_138) (by decide) (by decide) hr) ?_
    show Go p e s below _ _ _ _ T232 (mkF m 142 #[.val (.int p1), .val (.int p2), .val (.int p3), .val (.int (1 : Int32)), .val (.ref o162), .val (.ref o177), .val (.ref o198), .val (.int (1 : Int32)), .val (.int (1 : Int32)), .val (.int (1 : Int32))] [(.int (1 : Int32))])
    exact Go.retN X232 hx hlk B232 (J232.sub fun x hx => (List.mem_cons_of_mem _ (List.mem_cons_of_mem _ (List.mem_cons_of_mem _ hx)))) e232 (t := .boolean) (z' := (1 : Int32)) hret (by simp) (hb hby at_142) rfl (by decide) (by decide) (fun vm_ hw_ => ⟨rfl, (fun y hy => Nat.le_trans hnb (N232 y hy))⟩)
  · show Go p e s below _ _ _ _ s₁ (mkF m 3 #[.val (.int p1), .val (.int p2), .val (.int p3), .unset, .unset, .unset, .unset, .unset, .unset, .unset] [(.int (2 : Int32))])
    refine Go.of (fun _ hr => XS.istoreN X0.here hx rfl (hb hby at_3) rfl (l' := #[.val (.int p1), .val (.int p2), .val (.int p3), .val (.int (2 : Int32)), .unset, .unset, .unset, .unset, .unset, .unset]) rfl hr) ?_
    show Go p e s below _ _ _ _ s₁ (mkF m 4 #[.val (.int p1), .val (.int p2), .val (.int p3), .val (.int (2 : Int32)), .unset, .unset, .unset, .unset, .unset, .unset] [])
    obtain ⟨T236, h236, X236, e236, E236, A236, D236, -, st236⟩ := newO X0 hx hZ hown (hw _ (List.mem_of_getElem? (i := 0) rfl)) (hw _ (List.mem_of_getElem? (i := 1) rfl)) (hw _ (List.mem_of_getElem? (i := 2) rfl)) e0 (g := (mkF m 4 #[.val (.int p1), .val (.int p2), .val (.int p3), .val (.int (2 : Int32)), .unset, .unset, .unset, .unset, .unset, .unset] [])) rfl (hb hby at_4) (by decide) (by decide)
    obtain ⟨o236, g236⟩ : ∃ z, z = h0.size := ⟨_, rfl⟩
    rw [← g236] at A236 D236 st236
    have ne_wD_o236 : wD ≠ o236 := Nat.ne_of_lt (Nat.lt_of_lt_of_le ED0.lt (Nat.le_of_eq g236.symm))
    have ne_wL_o236 : wL ≠ o236 := Nat.ne_of_lt (Nat.lt_of_lt_of_le EL0.lt (Nat.le_of_eq g236.symm))
    have ne_elL_o236 : elL ≠ o236 := Nat.ne_of_lt (Nat.lt_of_lt_of_le VL0.lt (Nat.le_of_eq g236.symm))
    have lt236 : o236 < h236.size := A236.lt
    have J236 := J0.add E236 g236 lt236
    have B236 := B0.mono E236.1
    have O236 := O0.ext E236
    have sz236 : h0.size ≤ o236 := Nat.le_trans K0.1 (Nat.le_of_eq g236.symm)
    have fr236 : h0.size ≤ o236 := sz236
    have K236 := K0.ext E236
    have F236_field : Fld Z h236 o236 "com/example/dispatcher/dispatcher/web/FieldError" "field" "Ljava/lang/String;" .null := D236 (Or.inr (hw _ (List.mem_of_getElem? (i := 42) rfl))) (ty := (.object "java/lang/String")) (by decide)
    have F236_message : Fld Z h236 o236 "com/example/dispatcher/dispatcher/web/FieldError" "message" "Ljava/lang/String;" .null := D236 (Or.inr (hw _ (List.mem_of_getElem? (i := 45) rfl))) (ty := (.object "java/lang/String")) (by decide)
    refine Go.of (fun _ hr => st236 _ hr) ?_
    show Go p e s below _ _ _ _ T236 (mkF m 7 #[.val (.int p1), .val (.int p2), .val (.int p3), .val (.int (2 : Int32)), .unset, .unset, .unset, .unset, .unset, .unset] [(.ref o236)])
    refine Go.of (fun _ hr => XS.dup X236.here hx rfl (hb hby at_7) rfl rfl hr) ?_
    show Go p e s below _ _ _ _ T236 (mkF m 8 #[.val (.int p1), .val (.int p2), .val (.int p3), .val (.int (2 : Int32)), .unset, .unset, .unset, .unset, .unset, .unset] [(.ref o236), (.ref o236)])
    refine Go.of (fun _ hr => XS.iloadN X236.here hx rfl (hb hby at_8) rfl  hr) ?_
    show Go p e s below _ _ _ _ T236 (mkF m 9 #[.val (.int p1), .val (.int p2), .val (.int p3), .val (.int (2 : Int32)), .unset, .unset, .unset, .unset, .unset, .unset] [(.int p2), (.ref o236), (.ref o236)])
    refine Go.of (fun _ hr => XS.sipush X236.here hx rfl (hb hby at_9) hr) ?_
    show Go p e s below _ _ _ _ T236 (mkF m 12 #[.val (.int p1), .val (.int p2), .val (.int p3), .val (.int (2 : Int32)), .unset, .unset, .unset, .unset, .unset, .unset] [(.int (255 : Int32)), (.int p2), (.ref o236), (.ref o236)])
    refine Go.of (fun _ hr => XS.iand X236.here hx rfl (hb hby at_12) rfl hr) ?_
    show Go p e s below _ _ _ _ T236 (mkF m 13 #[.val (.int p1), .val (.int p2), .val (.int p3), .val (.int (2 : Int32)), .unset, .unset, .unset, .unset, .unset, .unset] [(.int (p2 &&& (255 : Int32))), (.ref o236), (.ref o236)])
    refine Go.of (fun _ hr => XS.i2c X236.here hx rfl (hb hby at_13) rfl hr) ?_
    show Go p e s below _ _ _ _ T236 (mkF m 14 #[.val (.int p1), .val (.int p2), .val (.int p3), .val (.int (2 : Int32)), .unset, .unset, .unset, .unset, .unset, .unset] [(.int ((p2 &&& (255 : Int32)).toUInt32.toUInt16.toUInt32.toInt32)), (.ref o236), (.ref o236)])
    obtain ⟨_, b237, T237, h237, L237, e237, Cc237, X237, B237, J237, g237, hQ237, st237⟩ := own_callS Cc B236 J236 X236 (hw _ (List.mem_of_getElem? (i := 3) rfl)) (hw _ (List.mem_of_getElem? (i := 4) rfl)) (hw _ (List.mem_of_getElem? (i := 5) rfl)) (hw _ (List.mem_of_getElem? (i := 6) rfl)) (by decide) (rm1 l Z a0 hw [] ((p2 &&& (255 : Int32)).toUInt32.toUInt16.toUInt32.toInt32) zc _ h236 n0 O236 h0.size (own_ole O0) K236.1 (chr8 p2).2 S_C hzc) e236 (g := (mkF m 14 #[.val (.int p1), .val (.int p2), .val (.int p3), .val (.int (2 : Int32)), .unset, .unset, .unset, .unset, .unset, .unset] [(.int ((p2 &&& (255 : Int32)).toUInt32.toUInt16.toUInt32.toInt32)), (.ref o236), (.ref o236)])) rfl (by rw [hml]; rfl) (argsL := [(.int ((p2 &&& (255 : Int32)).toUInt32.toUInt16.toUInt32.toInt32))]) (rest := [(.ref o236), (.ref o236)]) (lenOf pd19 rfl) rfl (W := 2) (by show 2 * 0 + _ ≤ _; exact Nat.le_of_eq rfl) (hb hby at_14) (by decide) (by decide) (by decide) (by decide)
    have f238 := (ED0.ext E236)
    have f239 := (EL0.ext E236)
    have f240 := (VL0.ext E236)
    obtain ⟨r237, t237, kt237, rfl, Nq237, Eq237, R_r237, R_t237, Er237, Fv237, Fc237, Vt237⟩ := hQ237
    have N237 := Fr.app N0 Nq237
    obtain ⟨hx, hZ, hown, hby, hml, hnm, hret, hlk⟩ := id Cc237
    have sz_r237 : h0.size ≤ r237 := Nat.le_trans K236.1 R_r237
    have fr_r237 : h0.size ≤ r237 := sz_r237
    have ne_wD_r237 : wD ≠ r237 := Nat.ne_of_lt (Nat.lt_of_lt_of_le f238.lt R_r237)
    have ne_wL_r237 : wL ≠ r237 := Nat.ne_of_lt (Nat.lt_of_lt_of_le f239.lt R_r237)
    have ne_elL_r237 : elL ≠ r237 := Nat.ne_of_lt (Nat.lt_of_lt_of_le f240.lt R_r237)
    have ne_o236_r237 : o236 ≠ r237 := Nat.ne_of_lt (Nat.lt_of_lt_of_le A236.lt R_r237)
    have sz_t237 : h0.size ≤ t237 := Nat.le_trans K236.1 R_t237
    have fr_t237 : h0.size ≤ t237 := sz_t237
    have ne_wD_t237 : wD ≠ t237 := Nat.ne_of_lt (Nat.lt_of_lt_of_le f238.lt R_t237)
    have ne_wL_t237 : wL ≠ t237 := Nat.ne_of_lt (Nat.lt_of_lt_of_le f239.lt R_t237)
    have ne_elL_t237 : elL ≠ t237 := Nat.ne_of_lt (Nat.lt_of_lt_of_le f240.lt R_t237)
    have ne_o236_t237 : o236 ≠ t237 := Nat.ne_of_lt (Nat.lt_of_lt_of_le A236.lt R_t237)
    have K237 := K236.ext Eq237
    have O237 := O236.ext Eq237
    refine Go.of st237 ?_
    show Go p e s below _ _ _ _ T237 (mkF m 17 #[.val (.int p1), .val (.int p2), .val (.int p3), .val (.int (2 : Int32)), .unset, .unset, .unset, .unset, .unset, .unset] [(.ref r237), (.ref o236), (.ref o236)])
    refine Go.of (fun _ hr => XS.iloadN X237.here hx rfl (hb hby at_17) rfl  hr) ?_
    show Go p e s below _ _ _ _ T237 (mkF m 18 #[.val (.int p1), .val (.int p2), .val (.int p3), .val (.int (2 : Int32)), .unset, .unset, .unset, .unset, .unset, .unset] [(.int p3), (.ref r237), (.ref o236), (.ref o236)])
    refine Go.of (fun _ hr => XS.sipush X237.here hx rfl (hb hby at_18) hr) ?_
    show Go p e s below _ _ _ _ T237 (mkF m 21 #[.val (.int p1), .val (.int p2), .val (.int p3), .val (.int (2 : Int32)), .unset, .unset, .unset, .unset, .unset, .unset] [(.int (255 : Int32)), (.int p3), (.ref r237), (.ref o236), (.ref o236)])
    refine Go.of (fun _ hr => XS.iand X237.here hx rfl (hb hby at_21) rfl hr) ?_
    show Go p e s below _ _ _ _ T237 (mkF m 22 #[.val (.int p1), .val (.int p2), .val (.int p3), .val (.int (2 : Int32)), .unset, .unset, .unset, .unset, .unset, .unset] [(.int (p3 &&& (255 : Int32))), (.ref r237), (.ref o236), (.ref o236)])
    refine Go.of (fun _ hr => XS.i2c X237.here hx rfl (hb hby at_22) rfl hr) ?_
    show Go p e s below _ _ _ _ T237 (mkF m 23 #[.val (.int p1), .val (.int p2), .val (.int p3), .val (.int (2 : Int32)), .unset, .unset, .unset, .unset, .unset, .unset] [(.int ((p3 &&& (255 : Int32)).toUInt32.toUInt16.toUInt32.toInt32)), (.ref r237), (.ref o236), (.ref o236)])
    obtain ⟨_, b241, T241, h241, L241, e241, Cc241, X241, B241, J241, g241, hQ241, st241⟩ := own_callS Cc237 B237 J237 X237 (hw _ (List.mem_of_getElem? (i := 3) rfl)) (hw _ (List.mem_of_getElem? (i := 4) rfl)) (hw _ (List.mem_of_getElem? (i := 5) rfl)) (hw _ (List.mem_of_getElem? (i := 6) rfl)) (by decide) (rm1 l Z a0 hw [] ((p3 &&& (255 : Int32)).toUInt32.toUInt16.toUInt32.toInt32) zc _ h237 n0 O237 h0.size (own_ole O0) K237.1 (chr8 p3).2 S_C hzc) e237 (g := (mkF m 23 #[.val (.int p1), .val (.int p2), .val (.int p3), .val (.int (2 : Int32)), .unset, .unset, .unset, .unset, .unset, .unset] [(.int ((p3 &&& (255 : Int32)).toUInt32.toUInt16.toUInt32.toInt32)), (.ref r237), (.ref o236), (.ref o236)])) rfl (by rw [hml]; rfl) (argsL := [(.int ((p3 &&& (255 : Int32)).toUInt32.toUInt16.toUInt32.toInt32))]) (rest := [(.ref r237), (.ref o236), (.ref o236)]) (lenOf pd19 rfl) rfl (W := 3) (by show 2 * 0 + _ ≤ _; exact Nat.le_of_eq rfl) (hb hby at_23) (by decide) (by decide) (by decide) (by decide)
    have f242 := (f238.ext Eq237)
    have f243 := (f239.ext Eq237)
    have f244 := (f240.ext Eq237)
    have f245 := (A236.ext Eq237)
    obtain ⟨r241, t241, kt241, rfl, Nq241, Eq241, R_r241, R_t241, Er241, Fv241, Fc241, Vt241⟩ := hQ241
    have N241 := Fr.app N237 Nq241
    obtain ⟨hx, hZ, hown, hby, hml, hnm, hret, hlk⟩ := id Cc241
    have sz_r241 : h0.size ≤ r241 := Nat.le_trans K237.1 R_r241
    have fr_r241 : h0.size ≤ r241 := sz_r241
    have ne_wD_r241 : wD ≠ r241 := Nat.ne_of_lt (Nat.lt_of_lt_of_le f242.lt R_r241)
    have ne_wL_r241 : wL ≠ r241 := Nat.ne_of_lt (Nat.lt_of_lt_of_le f243.lt R_r241)
    have ne_elL_r241 : elL ≠ r241 := Nat.ne_of_lt (Nat.lt_of_lt_of_le f244.lt R_r241)
    have ne_o236_r241 : o236 ≠ r241 := Nat.ne_of_lt (Nat.lt_of_lt_of_le f245.lt R_r241)
    have ne_r237_r241 : r237 ≠ r241 := Nat.ne_of_lt (Nat.lt_of_lt_of_le Er237.lt R_r241)
    have ne_t237_r241 : t237 ≠ r241 := Nat.ne_of_lt (Nat.lt_of_lt_of_le Vt237.lt R_r241)
    have sz_t241 : h0.size ≤ t241 := Nat.le_trans K237.1 R_t241
    have fr_t241 : h0.size ≤ t241 := sz_t241
    have ne_wD_t241 : wD ≠ t241 := Nat.ne_of_lt (Nat.lt_of_lt_of_le f242.lt R_t241)
    have ne_wL_t241 : wL ≠ t241 := Nat.ne_of_lt (Nat.lt_of_lt_of_le f243.lt R_t241)
    have ne_elL_t241 : elL ≠ t241 := Nat.ne_of_lt (Nat.lt_of_lt_of_le f244.lt R_t241)
    have ne_o236_t241 : o236 ≠ t241 := Nat.ne_of_lt (Nat.lt_of_lt_of_le f245.lt R_t241)
    have ne_r237_t241 : r237 ≠ t241 := Nat.ne_of_lt (Nat.lt_of_lt_of_le Er237.lt R_t241)
    have ne_t237_t241 : t237 ≠ t241 := Nat.ne_of_lt (Nat.lt_of_lt_of_le Vt237.lt R_t241)
    have K241 := K237.ext Eq241
    have O241 := O237.ext Eq241
    refine Go.of st241 ?_
    show Go p e s below _ _ _ _ T241 (mkF m 26 #[.val (.int p1), .val (.int p2), .val (.int p3), .val (.int (2 : Int32)), .unset, .unset, .unset, .unset, .unset, .unset] [(.ref r241), (.ref r237), (.ref o236), (.ref o236)])
    have f247 := (f245.ext Eq241)
    have f248 := ((F236_field.ext Eq237).ext Eq241)
    have f249 := ((F236_message.ext Eq237).ext Eq241)
    have f250 := (Er237.ext Eq241)
    obtain ⟨_, b246, T246, h246, L246, e246, Cc246, X246, B246, J246, g246, hQ246, st246⟩ := own_callI Cc241 B241 J241 X241 rfl (hw _ (List.mem_of_getElem? (i := 29) rfl)) (hw _ (List.mem_of_getElem? (i := 30) rfl)) (hw _ (List.mem_of_getElem? (i := 2) rfl)) (hw _ (List.mem_of_getElem? (i := 31) rfl)) (by decide) (rm6 l Z a0 hw [] o236 r237 r241 _ _ _ h241 n0 O241 h0.size (own_ole O0) K241.1 fr236 trivial f247 f248 f249 f250 Er241) e241 (g := (mkF m 26 #[.val (.int p1), .val (.int p2), .val (.int p3), .val (.int (2 : Int32)), .unset, .unset, .unset, .unset, .unset, .unset] [(.ref r241), (.ref r237), (.ref o236), (.ref o236)])) rfl (by rw [hml]; rfl) (argsL := [(.ref r237), (.ref r241)]) (rest := [(.ref o236)]) (lenOf pd20 rfl) rfl (W := 1) (by show 2 * 0 + _ ≤ _; exact Nat.le_of_eq rfl) (hb hby at_26) (by decide) (by decide) (by decide) (by decide)
    obtain ⟨rfl, Nq246, Kq246⟩ := hQ246
    have N246 := Fr.app N241 Nq246
    obtain ⟨hx, hZ, hown, hby, hml, hnm, hret, hlk⟩ := id Cc246
    have K246 := K241.trans Kq246 (allS (Or.inr sz236) all0)
    have O246 := O241.keep Kq246 (allS (Nat.le_trans (own_ole O0) fr236) all0)
    refine Go.of st246 ?_
    show Go p e s below _ _ _ _ T246 (mkF m 29 #[.val (.int p1), .val (.int p2), .val (.int p3), .val (.int (2 : Int32)), .unset, .unset, .unset, .unset, .unset, .unset] [(.ref o236)])
    refine Go.of (fun _ hr => XS.astore X246.here hx rfl (hb hby at_29) rfl rfl (l' := #[.val (.int p1), .val (.int p2), .val (.int p3), .val (.int (2 : Int32)), .val (.ref o236), .unset, .unset, .unset, .unset, .unset]) rfl hr) ?_
    show Go p e s below _ _ _ _ T246 (mkF m 31 #[.val (.int p1), .val (.int p2), .val (.int p3), .val (.int (2 : Int32)), .val (.ref o236), .unset, .unset, .unset, .unset, .unset] [])
    obtain ⟨T251, h251, X251, e251, E251, A251, D251, -, st251⟩ := newO X246 hx hZ hown (hw _ (List.mem_of_getElem? (i := 46) rfl)) (hw _ (List.mem_of_getElem? (i := 47) rfl)) (hw _ (List.mem_of_getElem? (i := 48) rfl)) e246 (g := (mkF m 31 #[.val (.int p1), .val (.int p2), .val (.int p3), .val (.int (2 : Int32)), .val (.ref o236), .unset, .unset, .unset, .unset, .unset] [])) rfl (hb hby at_31) (by decide) (by decide)
    obtain ⟨o251, g251⟩ : ∃ z, z = h246.size := ⟨_, rfl⟩
    rw [← g251] at A251 D251 st251
    have f252 := ((f242.ext Eq241).keep Kq246)
    have ne_wD_o251 : wD ≠ o251 := Nat.ne_of_lt (Nat.lt_of_lt_of_le f252.lt (Nat.le_of_eq g251.symm))
    have f253 := ((f243.ext Eq241).keep Kq246)
    have ne_wL_o251 : wL ≠ o251 := Nat.ne_of_lt (Nat.lt_of_lt_of_le f253.lt (Nat.le_of_eq g251.symm))
    have f254 := ((f244.ext Eq241).keep Kq246 (ninS ne_elL_o236 nin0))
    have ne_elL_o251 : elL ≠ o251 := Nat.ne_of_lt (Nat.lt_of_lt_of_le f254.lt (Nat.le_of_eq g251.symm))
    have f255 := (f247.keep Kq246)
    have ne_o236_o251 : o236 ≠ o251 := Nat.ne_of_lt (Nat.lt_of_lt_of_le f255.lt (Nat.le_of_eq g251.symm))
    have f256 := (f250.keep Kq246)
    have ne_r237_o251 : r237 ≠ o251 := Nat.ne_of_lt (Nat.lt_of_lt_of_le f256.lt (Nat.le_of_eq g251.symm))
    have f257 := ((Vt237.ext Eq241).keep Kq246 (ninS (Ne.symm ne_o236_t237) nin0))
    have ne_t237_o251 : t237 ≠ o251 := Nat.ne_of_lt (Nat.lt_of_lt_of_le f257.lt (Nat.le_of_eq g251.symm))
    have f258 := (Er241.keep Kq246)
    have ne_r241_o251 : r241 ≠ o251 := Nat.ne_of_lt (Nat.lt_of_lt_of_le f258.lt (Nat.le_of_eq g251.symm))
    have f259 := (Vt241.keep Kq246 (ninS (Ne.symm ne_o236_t241) nin0))
    have ne_t241_o251 : t241 ≠ o251 := Nat.ne_of_lt (Nat.lt_of_lt_of_le f259.lt (Nat.le_of_eq g251.symm))
    have lt251 : o251 < h251.size := A251.lt
    have J251 := J246.add E251 g251 lt251
    have B251 := B246.mono E251.1
    have O251 := O246.ext E251
    have sz251 : h0.size ≤ o251 := Nat.le_trans K246.1 (Nat.le_of_eq g251.symm)
    have fr251 : h0.size ≤ o251 := sz251
    have K251 := K246.ext E251
    have F251_modCount : Fld Z h251 o251 "java/util/AbstractList" "modCount" "I" (.int (0 : Int32)) := D251 (Or.inl (hw _ (List.mem_of_getElem? (i := 66) rfl))) (ty := .int) (by decide)
    have F251_elementData : Fld Z h251 o251 "java/util/ArrayList" "elementData" "[Ljava/lang/Object;" .null := D251 (Or.inl (hw _ (List.mem_of_getElem? (i := 69) rfl))) (ty := (.array (.object "java/lang/Object"))) (by decide)
    have F251_size : Fld Z h251 o251 "java/util/ArrayList" "size" "I" (.int (0 : Int32)) := D251 (Or.inl (hw _ (List.mem_of_getElem? (i := 101) rfl))) (ty := .int) (by decide)
    refine Go.of (fun _ hr => st251 _ hr) ?_
    show Go p e s below _ _ _ _ T251 (mkF m 34 #[.val (.int p1), .val (.int p2), .val (.int p3), .val (.int (2 : Int32)), .val (.ref o236), .unset, .unset, .unset, .unset, .unset] [(.ref o251)])
    refine Go.of (fun _ hr => XS.dup X251.here hx rfl (hb hby at_34) rfl rfl hr) ?_
    show Go p e s below _ _ _ _ T251 (mkF m 35 #[.val (.int p1), .val (.int p2), .val (.int p3), .val (.int (2 : Int32)), .val (.ref o236), .unset, .unset, .unset, .unset, .unset] [(.ref o251), (.ref o251)])
    obtain ⟨_, b260, T260, h260, L260, e260, Cc260, X260, B260, J260, g260, hQ260, st260⟩ := own_callI Cc246 B251 J251 X251 rfl (hw _ (List.mem_of_getElem? (i := 49) rfl)) (hw _ (List.mem_of_getElem? (i := 50) rfl)) (hw _ (List.mem_of_getElem? (i := 48) rfl)) (hw _ (List.mem_of_getElem? (i := 51) rfl)) (by decide) (rm8 l Z a0 hw [] o251 wD _ _ _ h251 n0 O251 h0.size (own_ole O0) K251.1 fr251 trivial S_D A251 F251_modCount F251_elementData F251_size) e251 (g := (mkF m 35 #[.val (.int p1), .val (.int p2), .val (.int p3), .val (.int (2 : Int32)), .val (.ref o236), .unset, .unset, .unset, .unset, .unset] [(.ref o251), (.ref o251)])) rfl (by rw [hml]; rfl) (argsL := []) (rest := [(.ref o251)]) (lenOf pd4 rfl) rfl (W := 1) (by show 2 * 0 + _ ≤ _; exact Nat.le_of_eq rfl) (hb hby at_35) (by decide) (by decide) (by decide) (by decide)
    obtain ⟨rfl, Nq260, Kq260, Fa260, Fb260, Fc260⟩ := hQ260
    have N260 := Fr.app N246 Nq260
    obtain ⟨hx, hZ, hown, hby, hml, hnm, hret, hlk⟩ := id Cc260
    have K260 := K251.trans Kq260 (allS (Or.inr sz251) all0)
    have O260 := O251.keep Kq260 (allS (Nat.le_trans (own_ole O0) fr251) all0)
    refine Go.of st260 ?_
    show Go p e s below _ _ _ _ T260 (mkF m 38 #[.val (.int p1), .val (.int p2), .val (.int p3), .val (.int (2 : Int32)), .val (.ref o236), .unset, .unset, .unset, .unset, .unset] [(.ref o251)])
    refine Go.of (fun _ hr => XS.astore X260.here hx rfl (hb hby at_38) rfl rfl (l' := #[.val (.int p1), .val (.int p2), .val (.int p3), .val (.int (2 : Int32)), .val (.ref o236), .val (.ref o251), .unset, .unset, .unset, .unset]) rfl hr) ?_
    show Go p e s below _ _ _ _ T260 (mkF m 40 #[.val (.int p1), .val (.int p2), .val (.int p3), .val (.int (2 : Int32)), .val (.ref o236), .val (.ref o251), .unset, .unset, .unset, .unset] [])
    refine Go.of (fun _ hr => XS.iloadN X260.here hx rfl (hb hby at_40) rfl  hr) ?_
    show Go p e s below _ _ _ _ T260 (mkF m 41 #[.val (.int p1), .val (.int p2), .val (.int p3), .val (.int (2 : Int32)), .val (.ref o236), .val (.ref o251), .unset, .unset, .unset, .unset] [(.int (2 : Int32))])
    refine Go.of (fun _ hr => XS.iconst X260.here hx rfl (hb hby at_41) hr) ?_
    show Go p e s below _ _ _ _ T260 (mkF m 42 #[.val (.int p1), .val (.int p2), .val (.int p3), .val (.int (2 : Int32)), .val (.ref o236), .val (.ref o251), .unset, .unset, .unset, .unset] [(.int (1 : Int32)), (.int (2 : Int32))])
    refine Go.of (fun _ hr => XS.icmpNo X260.here hx rfl (hb hby at_42) rfl (flt (by decide : ¬ ((2 : Int32) < (1 : Int32)))).1 hr) ?_
    show Go p e s below _ _ _ _ T260 (mkF m 45 #[.val (.int p1), .val (.int p2), .val (.int p3), .val (.int (2 : Int32)), .val (.ref o236), .val (.ref o251), .unset, .unset, .unset, .unset] [])
    refine Go.of (fun _ hr => XS.aload X260.here hx rfl (hb hby at_45) rfl rfl hr) ?_
    show Go p e s below _ _ _ _ T260 (mkF m 47 #[.val (.int p1), .val (.int p2), .val (.int p3), .val (.int (2 : Int32)), .val (.ref o236), .val (.ref o251), .unset, .unset, .unset, .unset] [(.ref o251)])
    refine Go.of (fun _ hr => XS.aload X260.here hx rfl (hb hby at_47) rfl rfl hr) ?_
    show Go p e s below _ _ _ _ T260 (mkF m 49 #[.val (.int p1), .val (.int p2), .val (.int p3), .val (.int (2 : Int32)), .val (.ref o236), .val (.ref o251), .unset, .unset, .unset, .unset] [(.ref o236), (.ref o251)])
    have f262 := (A251.keep Kq260)
    have f263 := ((((((VD0.ext E236).ext Eq237).ext Eq241).keep Kq246 (ninS ne_wD_o236 nin0)).ext E251).keep Kq260 (ninS ne_wD_o251 nin0))
    have f264 := ((f255.ext E251).keep Kq260)
    obtain ⟨_, b261, T261, h261, L261, e261, Cc261, X261, B261, J261, g261, hQ261, st261⟩ := own_callV Cc260 B260 J260 X260 (hw _ (List.mem_of_getElem? (i := 125) rfl)) (hw _ (List.mem_of_getElem? (i := 126) rfl)) (notFace_of_selects (args := #[]) (mvT hZ (hw _ (List.mem_of_getElem? (i := 128) rfl)))) (hw _ (List.mem_of_getElem? (i := 128) rfl)) (hw _ (List.mem_of_getElem? (i := 127) rfl)) (hw _ (List.mem_of_getElem? (i := 48) rfl)) (hw _ (List.mem_of_getElem? (i := 129) rfl)) (by decide) f262 (rmA1_0 l Z a0 hw [] o251 o236 wD _ (0 : Int32) _ h260 n0 O260 h0.size (own_ole O0) K260.1 fr251 trivial S_D f262 Fa260 Fb260 Fc260 f263 ne_wD_o251 f264 ne_o236_o251) e260 (g := (mkF m 49 #[.val (.int p1), .val (.int p2), .val (.int p3), .val (.int (2 : Int32)), .val (.ref o236), .val (.ref o251), .unset, .unset, .unset, .unset] [(.ref o236), (.ref o251)])) rfl (by rw [hml]; rfl) (argsL := [(.ref o236)]) (rest := []) (lenOf pd22 rfl) rfl (W := 0) (by show 2 * 0 + _ ≤ _; exact Nat.le_of_eq rfl) (hb hby at_49) (by decide) (by decide) (by decide) (by decide)
    have f265 := ((f252.ext E251).keep Kq260)
    have f266 := ((f253.ext E251).keep Kq260)
    have f267 := ((f254.ext E251).keep Kq260 (ninS ne_elL_o251 nin0))
    have f268 := ((f256.ext E251).keep Kq260)
    have f269 := ((f257.ext E251).keep Kq260 (ninS ne_t237_o251 nin0))
    have f270 := ((f258.ext E251).keep Kq260)
    have f271 := ((f259.ext E251).keep Kq260 (ninS ne_t241_o251 nin0))
    obtain ⟨d261, kd261, rfl, Nq261, Kq261, R_d261, Fa261, Fb261, Fc261, Ed261, Vd261, Od261⟩ := hQ261
    have N261 := Fr.app N260 Nq261
    obtain ⟨hx, hZ, hown, hby, hml, hnm, hret, hlk⟩ := id Cc261
    have sz_d261 : h0.size ≤ d261 := Nat.le_trans K260.1 R_d261
    have fr_d261 : h0.size ≤ d261 := sz_d261
    have ne_wD_d261 : wD ≠ d261 := Nat.ne_of_lt (Nat.lt_of_lt_of_le f265.lt R_d261)
    have ne_wL_d261 : wL ≠ d261 := Nat.ne_of_lt (Nat.lt_of_lt_of_le f266.lt R_d261)
    have ne_elL_d261 : elL ≠ d261 := Nat.ne_of_lt (Nat.lt_of_lt_of_le f267.lt R_d261)
    have ne_o236_d261 : o236 ≠ d261 := Nat.ne_of_lt (Nat.lt_of_lt_of_le f264.lt R_d261)
    have ne_r237_d261 : r237 ≠ d261 := Nat.ne_of_lt (Nat.lt_of_lt_of_le f268.lt R_d261)
    have ne_t237_d261 : t237 ≠ d261 := Nat.ne_of_lt (Nat.lt_of_lt_of_le f269.lt R_d261)
    have ne_r241_d261 : r241 ≠ d261 := Nat.ne_of_lt (Nat.lt_of_lt_of_le f270.lt R_d261)
    have ne_t241_d261 : t241 ≠ d261 := Nat.ne_of_lt (Nat.lt_of_lt_of_le f271.lt R_d261)
    have ne_o251_d261 : o251 ≠ d261 := Nat.ne_of_lt (Nat.lt_of_lt_of_le f262.lt R_d261)
    have K261 := K260.trans Kq261 (allS (Or.inr sz251) all0)
    have O261 := O260.keep Kq261 (allS (Nat.le_trans (own_ole O0) fr251) all0)
    refine Go.of st261 ?_
    show Go p e s below _ _ _ _ T261 (mkF m 52 #[.val (.int p1), .val (.int p2), .val (.int p3), .val (.int (2 : Int32)), .val (.ref o236), .val (.ref o251), .unset, .unset, .unset, .unset] [(.int (1 : Int32))])
    refine Go.of (fun _ hr => XS.pop X261.here hx rfl (hb hby at_52) rfl rfl hr) ?_
    show Go p e s below _ _ _ _ T261 (mkF m 53 #[.val (.int p1), .val (.int p2), .val (.int p3), .val (.int (2 : Int32)), .val (.ref o236), .val (.ref o251), .unset, .unset, .unset, .unset] [])
    refine Go.of (fun _ hr => XS.iloadN X261.here hx rfl (hb hby at_53) rfl  hr) ?_
    show Go p e s below _ _ _ _ T261 (mkF m 54 #[.val (.int p1), .val (.int p2), .val (.int p3), .val (.int (2 : Int32)), .val (.ref o236), .val (.ref o251), .unset, .unset, .unset, .unset] [(.int (2 : Int32))])
    refine Go.of (fun _ hr => XS.iconst X261.here hx rfl (hb hby at_54) hr) ?_
    show Go p e s below _ _ _ _ T261 (mkF m 55 #[.val (.int p1), .val (.int p2), .val (.int p3), .val (.int (2 : Int32)), .val (.ref o236), .val (.ref o251), .unset, .unset, .unset, .unset] [(.int (2 : Int32)), (.int (2 : Int32))])
    refine Go.of (fun _ hr => XS.icmpNo X261.here hx rfl (hb hby at_55) rfl (flt (by decide : ¬ ((2 : Int32) < (2 : Int32)))).1 hr) ?_
    show Go p e s below _ _ _ _ T261 (mkF m 58 #[.val (.int p1), .val (.int p2), .val (.int p3), .val (.int (2 : Int32)), .val (.ref o236), .val (.ref o251), .unset, .unset, .unset, .unset] [])
    refine Go.of (fun _ hr => XS.aload X261.here hx rfl (hb hby at_58) rfl rfl hr) ?_
    show Go p e s below _ _ _ _ T261 (mkF m 60 #[.val (.int p1), .val (.int p2), .val (.int p3), .val (.int (2 : Int32)), .val (.ref o236), .val (.ref o251), .unset, .unset, .unset, .unset] [(.ref o251)])
    refine Go.of (fun _ hr => XS.aload X261.here hx rfl (hb hby at_60) rfl rfl hr) ?_
    show Go p e s below _ _ _ _ T261 (mkF m 62 #[.val (.int p1), .val (.int p2), .val (.int p3), .val (.int (2 : Int32)), .val (.ref o236), .val (.ref o251), .unset, .unset, .unset, .unset] [(.ref o236), (.ref o251)])
    have f273 := (f262.keep Kq261)
    have f274 := (f264.keep Kq261)
    obtain ⟨_, b272, T272, h272, L272, e272, Cc272, X272, B272, J272, g272, hQ272, st272⟩ := own_callV Cc261 B261 J261 X261 (hw _ (List.mem_of_getElem? (i := 125) rfl)) (hw _ (List.mem_of_getElem? (i := 126) rfl)) (notFace_of_selects (args := #[]) (mvT hZ (hw _ (List.mem_of_getElem? (i := 128) rfl)))) (hw _ (List.mem_of_getElem? (i := 128) rfl)) (hw _ (List.mem_of_getElem? (i := 127) rfl)) (hw _ (List.mem_of_getElem? (i := 48) rfl)) (hw _ (List.mem_of_getElem? (i := 129) rfl)) (by decide) f273 (rmA1_1 l Z a0 hw [] o251 o236 d261 _ (1 : Int32) _ h261 n0 O261 h0.size (own_ole O0) K261.1 fr251 trivial fr_d261 trivial f273 Fa261 Fb261 Fc261 Ed261 Vd261 Od261 (Ne.symm ne_o251_d261) ne_o236_d261 f274 ne_o236_o251) e261 (g := (mkF m 62 #[.val (.int p1), .val (.int p2), .val (.int p3), .val (.int (2 : Int32)), .val (.ref o236), .val (.ref o251), .unset, .unset, .unset, .unset] [(.ref o236), (.ref o251)])) rfl (by rw [hml]; rfl) (argsL := [(.ref o236)]) (rest := []) (lenOf pd22 rfl) rfl (W := 0) (by show 2 * 0 + _ ≤ _; exact Nat.le_of_eq rfl) (hb hby at_62) (by decide) (by decide) (by decide) (by decide)
    obtain ⟨rfl, Nq272, Kq272, Fa272, Fb272, Fc272, Ed272, Vd272⟩ := hQ272
    have N272 := Fr.app N261 Nq272
    obtain ⟨hx, hZ, hown, hby, hml, hnm, hret, hlk⟩ := id Cc272
    have K272 := K261.trans Kq272 (allS (Or.inr sz251) (allS (Or.inr sz_d261) all0))
    have O272 := O261.keep Kq272 (allS (Nat.le_trans (own_ole O0) fr251) (allS (Nat.le_trans (own_ole O0) fr_d261) all0))
    refine Go.of st272 ?_
    show Go p e s below _ _ _ _ T272 (mkF m 65 #[.val (.int p1), .val (.int p2), .val (.int p3), .val (.int (2 : Int32)), .val (.ref o236), .val (.ref o251), .unset, .unset, .unset, .unset] [(.int (1 : Int32))])
    refine Go.of (fun _ hr => XS.pop X272.here hx rfl (hb hby at_65) rfl rfl hr) ?_
    show Go p e s below _ _ _ _ T272 (mkF m 66 #[.val (.int p1), .val (.int p2), .val (.int p3), .val (.int (2 : Int32)), .val (.ref o236), .val (.ref o251), .unset, .unset, .unset, .unset] [])
    refine Go.of (fun _ hr => XS.iloadN X272.here hx rfl (hb hby at_66) rfl  hr) ?_
    show Go p e s below _ _ _ _ T272 (mkF m 67 #[.val (.int p1), .val (.int p2), .val (.int p3), .val (.int (2 : Int32)), .val (.ref o236), .val (.ref o251), .unset, .unset, .unset, .unset] [(.int (2 : Int32))])
    refine Go.of (fun _ hr => XS.iconst X272.here hx rfl (hb hby at_67) hr) ?_
    show Go p e s below _ _ _ _ T272 (mkF m 68 #[.val (.int p1), .val (.int p2), .val (.int p3), .val (.int (2 : Int32)), .val (.ref o236), .val (.ref o251), .unset, .unset, .unset, .unset] [(.int (3 : Int32)), (.int (2 : Int32))])
    refine Go.of (fun _ hr => XS.icmpYes X272.here hx rfl (pc0 := 68) (pc' := 79) rfl (hb hby at_68) rfl (tlt (by decide : ((2 : Int32) < (3 : Int32)))).1 (by decide) (by decide) hr) ?_
    show Go p e s below _ _ _ _ T272 (mkF m 79 #[.val (.int p1), .val (.int p2), .val (.int p3), .val (.int (2 : Int32)), .val (.ref o236), .val (.ref o251), .unset, .unset, .unset, .unset] [])
    obtain ⟨T275, h275, X275, e275, E275, A275, D275, -, st275⟩ := newO X272 hx hZ hown (hw _ (List.mem_of_getElem? (i := 70) rfl)) (hw _ (List.mem_of_getElem? (i := 71) rfl)) (hw _ (List.mem_of_getElem? (i := 72) rfl)) e272 (g := (mkF m 79 #[.val (.int p1), .val (.int p2), .val (.int p3), .val (.int (2 : Int32)), .val (.ref o236), .val (.ref o251), .unset, .unset, .unset, .unset] [])) rfl (hb hby at_79) (by decide) (by decide)
    obtain ⟨o275, g275⟩ : ∃ z, z = h272.size := ⟨_, rfl⟩
    rw [← g275] at A275 D275 st275
    have f276 := ((f265.keep Kq261).keep Kq272)
    have ne_wD_o275 : wD ≠ o275 := Nat.ne_of_lt (Nat.lt_of_lt_of_le f276.lt (Nat.le_of_eq g275.symm))
    have f277 := ((f266.keep Kq261).keep Kq272)
    have ne_wL_o275 : wL ≠ o275 := Nat.ne_of_lt (Nat.lt_of_lt_of_le f277.lt (Nat.le_of_eq g275.symm))
    have f278 := ((f267.keep Kq261 (ninS ne_elL_o251 nin0)).keep Kq272 (ninS ne_elL_o251 (ninS ne_elL_d261 nin0)))
    have ne_elL_o275 : elL ≠ o275 := Nat.ne_of_lt (Nat.lt_of_lt_of_le f278.lt (Nat.le_of_eq g275.symm))
    have f279 := (f274.keep Kq272)
    have ne_o236_o275 : o236 ≠ o275 := Nat.ne_of_lt (Nat.lt_of_lt_of_le f279.lt (Nat.le_of_eq g275.symm))
    have f280 := ((f268.keep Kq261).keep Kq272)
    have ne_r237_o275 : r237 ≠ o275 := Nat.ne_of_lt (Nat.lt_of_lt_of_le f280.lt (Nat.le_of_eq g275.symm))
    have f281 := ((f269.keep Kq261 (ninS ne_t237_o251 nin0)).keep Kq272 (ninS ne_t237_o251 (ninS ne_t237_d261 nin0)))
    have ne_t237_o275 : t237 ≠ o275 := Nat.ne_of_lt (Nat.lt_of_lt_of_le f281.lt (Nat.le_of_eq g275.symm))
    have f282 := ((f270.keep Kq261).keep Kq272)
    have ne_r241_o275 : r241 ≠ o275 := Nat.ne_of_lt (Nat.lt_of_lt_of_le f282.lt (Nat.le_of_eq g275.symm))
    have f283 := ((f271.keep Kq261 (ninS ne_t241_o251 nin0)).keep Kq272 (ninS ne_t241_o251 (ninS ne_t241_d261 nin0)))
    have ne_t241_o275 : t241 ≠ o275 := Nat.ne_of_lt (Nat.lt_of_lt_of_le f283.lt (Nat.le_of_eq g275.symm))
    have f284 := (f273.keep Kq272)
    have ne_o251_o275 : o251 ≠ o275 := Nat.ne_of_lt (Nat.lt_of_lt_of_le f284.lt (Nat.le_of_eq g275.symm))
    have ne_d261_o275 : d261 ≠ o275 := Nat.ne_of_lt (Nat.lt_of_lt_of_le Ed272.lt (Nat.le_of_eq g275.symm))
    have lt275 : o275 < h275.size := A275.lt
    have J275 := J272.add E275 g275 lt275
    have B275 := B272.mono E275.1
    have O275 := O272.ext E275
    have sz275 : h0.size ≤ o275 := Nat.le_trans K272.1 (Nat.le_of_eq g275.symm)
    have fr275 : h0.size ≤ o275 := sz275
    have K275 := K272.ext E275
    have F275_errors : Fld Z h275 o275 "com/example/dispatcher/dispatcher/web/BindingResult" "errors" "Ljava/util/List;" .null := D275 (Or.inr (hw _ (List.mem_of_getElem? (i := 107) rfl))) (ty := (.object "java/util/List")) (by decide)
    refine Go.of (fun _ hr => st275 _ hr) ?_
    show Go p e s below _ _ _ _ T275 (mkF m 82 #[.val (.int p1), .val (.int p2), .val (.int p3), .val (.int (2 : Int32)), .val (.ref o236), .val (.ref o251), .unset, .unset, .unset, .unset] [(.ref o275)])
    refine Go.of (fun _ hr => XS.dup X275.here hx rfl (hb hby at_82) rfl rfl hr) ?_
    show Go p e s below _ _ _ _ T275 (mkF m 83 #[.val (.int p1), .val (.int p2), .val (.int p3), .val (.int (2 : Int32)), .val (.ref o236), .val (.ref o251), .unset, .unset, .unset, .unset] [(.ref o275), (.ref o275)])
    refine Go.of (fun _ hr => XS.aload X275.here hx rfl (hb hby at_83) rfl rfl hr) ?_
    show Go p e s below _ _ _ _ T275 (mkF m 85 #[.val (.int p1), .val (.int p2), .val (.int p3), .val (.int (2 : Int32)), .val (.ref o236), .val (.ref o251), .unset, .unset, .unset, .unset] [(.ref o251), (.ref o275), (.ref o275)])
    have f286 := (f284.ext E275)
    have f287 := (Fc272.ext E275)
    have f288 := (Fb272.ext E275)
    have f289 := (Ed272.ext E275)
    have f290 := (Vd272.ext E275)
    have f291 := (f279.ext E275)
    obtain ⟨_, b285, T285, h285, L285, e285, Cc285, X285, B285, J285, g285, hQ285, st285⟩ := own_callI Cc272 B275 J275 X275 rfl (hw _ (List.mem_of_getElem? (i := 73) rfl)) (hw _ (List.mem_of_getElem? (i := 74) rfl)) (hw _ (List.mem_of_getElem? (i := 72) rfl)) (hw _ (List.mem_of_getElem? (i := 75) rfl)) (by decide) (rmB_2 l Z a0 hw [] o275 o251 o236 mr wE wL d261 _ _ _ h275 n0 O275 h0.size (own_ole O0) K275.1 fr275 trivial S_E S_L M A275 F275_errors f286 f287 ne_o251_o275 f288 f289 f290 f291 ne_d261_o275 ne_o236_o275) e275 (g := (mkF m 85 #[.val (.int p1), .val (.int p2), .val (.int p3), .val (.int (2 : Int32)), .val (.ref o236), .val (.ref o251), .unset, .unset, .unset, .unset] [(.ref o251), (.ref o275), (.ref o275)])) rfl (by rw [hml]; rfl) (argsL := [(.ref o251)]) (rest := [(.ref o275)]) (lenOf pd21 rfl) rfl (W := 1) (by show 2 * 0 + _ ≤ _; exact Nat.le_of_eq rfl) (hb hby at_85) (by decide) (by decide) (by decide) (by decide)
    have f292 := (f276.ext E275)
    have f293 := (f277.ext E275)
    have f294 := (f278.ext E275)
    have f295 := (f280.ext E275)
    have f296 := (f281.ext E275)
    have f297 := (f282.ext E275)
    have f298 := (f283.ext E275)
    obtain ⟨rfl, Nq285, Kq285, r285, R_r285, Er285, Fr285⟩ := hQ285
    have N285 := Fr.app N272 Nq285
    obtain ⟨hx, hZ, hown, hby, hml, hnm, hret, hlk⟩ := id Cc285
    have sz_r285 : h0.size ≤ r285 := Nat.le_trans K275.1 R_r285
    have fr_r285 : h0.size ≤ r285 := sz_r285
    have ne_wD_r285 : wD ≠ r285 := Nat.ne_of_lt (Nat.lt_of_lt_of_le f292.lt R_r285)
    have ne_wL_r285 : wL ≠ r285 := Nat.ne_of_lt (Nat.lt_of_lt_of_le f293.lt R_r285)
    have ne_elL_r285 : elL ≠ r285 := Nat.ne_of_lt (Nat.lt_of_lt_of_le f294.lt R_r285)
    have ne_o236_r285 : o236 ≠ r285 := Nat.ne_of_lt (Nat.lt_of_lt_of_le f291.lt R_r285)
    have ne_r237_r285 : r237 ≠ r285 := Nat.ne_of_lt (Nat.lt_of_lt_of_le f295.lt R_r285)
    have ne_t237_r285 : t237 ≠ r285 := Nat.ne_of_lt (Nat.lt_of_lt_of_le f296.lt R_r285)
    have ne_r241_r285 : r241 ≠ r285 := Nat.ne_of_lt (Nat.lt_of_lt_of_le f297.lt R_r285)
    have ne_t241_r285 : t241 ≠ r285 := Nat.ne_of_lt (Nat.lt_of_lt_of_le f298.lt R_r285)
    have ne_o251_r285 : o251 ≠ r285 := Nat.ne_of_lt (Nat.lt_of_lt_of_le f286.lt R_r285)
    have ne_d261_r285 : d261 ≠ r285 := Nat.ne_of_lt (Nat.lt_of_lt_of_le f289.lt R_r285)
    have ne_o275_r285 : o275 ≠ r285 := Nat.ne_of_lt (Nat.lt_of_lt_of_le A275.lt R_r285)
    have K285 := K275.trans Kq285 (allS (Or.inr sz275) all0)
    have O285 := O275.keep Kq285 (allS (Nat.le_trans (own_ole O0) fr275) all0)
    refine Go.of st285 ?_
    show Go p e s below _ _ _ _ T285 (mkF m 88 #[.val (.int p1), .val (.int p2), .val (.int p3), .val (.int (2 : Int32)), .val (.ref o236), .val (.ref o251), .unset, .unset, .unset, .unset] [(.ref o275)])
    refine Go.of (fun _ hr => XS.astore X285.here hx rfl (hb hby at_88) rfl rfl (l' := #[.val (.int p1), .val (.int p2), .val (.int p3), .val (.int (2 : Int32)), .val (.ref o236), .val (.ref o251), .val (.ref o275), .unset, .unset, .unset]) rfl hr) ?_
    show Go p e s below _ _ _ _ T285 (mkF m 90 #[.val (.int p1), .val (.int p2), .val (.int p3), .val (.int (2 : Int32)), .val (.ref o236), .val (.ref o251), .val (.ref o275), .unset, .unset, .unset] [])
    refine Go.of (fun _ hr => XS.iloadN X285.here hx rfl (hb hby at_90) rfl  hr) ?_
    show Go p e s below _ _ _ _ T285 (mkF m 91 #[.val (.int p1), .val (.int p2), .val (.int p3), .val (.int (2 : Int32)), .val (.ref o236), .val (.ref o251), .val (.ref o275), .unset, .unset, .unset] [(.int (2 : Int32))])
    refine Go.of (fun _ hr => XS.ifNo X285.here hx rfl (hb hby at_91) rfl ((if0 _ _).trans (tlt (by decide : ((0 : Int32) < (2 : Int32)))).2.2.2) hr) ?_
    show Go p e s below _ _ _ _ T285 (mkF m 94 #[.val (.int p1), .val (.int p2), .val (.int p3), .val (.int (2 : Int32)), .val (.ref o236), .val (.ref o251), .val (.ref o275), .unset, .unset, .unset] [])
    refine Go.of (fun _ hr => XS.iconst X285.here hx rfl (hb hby at_94) hr) ?_
    show Go p e s below _ _ _ _ T285 (mkF m 95 #[.val (.int p1), .val (.int p2), .val (.int p3), .val (.int (2 : Int32)), .val (.ref o236), .val (.ref o251), .val (.ref o275), .unset, .unset, .unset] [(.int (1 : Int32))])
    refine Go.of (fun _ hr => XS.goto X285.here hx rfl (pc0 := 95) (pc' := 99) rfl (hb hby at_95) (by decide) (by decide) hr) ?_
    show Go p e s below _ _ _ _ T285 (mkF m 99 #[.val (.int p1), .val (.int p2), .val (.int p3), .val (.int (2 : Int32)), .val (.ref o236), .val (.ref o251), .val (.ref o275), .unset, .unset, .unset] [(.int (1 : Int32))])
    refine Go.of (fun _ hr => XS.istore X285.here hx rfl (hb hby at_99) rfl (l' := #[.val (.int p1), .val (.int p2), .val (.int p3), .val (.int (2 : Int32)), .val (.ref o236), .val (.ref o251), .val (.ref o275), .val (.int (1 : Int32)), .unset, .unset]) rfl hr) ?_
    show Go p e s below _ _ _ _ T285 (mkF m 101 #[.val (.int p1), .val (.int p2), .val (.int p3), .val (.int (2 : Int32)), .val (.ref o236), .val (.ref o251), .val (.ref o275), .val (.int (1 : Int32)), .unset, .unset] [])
    refine Go.of (fun _ hr => XS.aload X285.here hx rfl (hb hby at_101) rfl rfl hr) ?_
    show Go p e s below _ _ _ _ T285 (mkF m 103 #[.val (.int p1), .val (.int p2), .val (.int p3), .val (.int (2 : Int32)), .val (.ref o236), .val (.ref o251), .val (.ref o275), .val (.int (1 : Int32)), .unset, .unset] [(.ref o275)])
    have f300 := (A275.keep Kq285)
    obtain ⟨_, b299, T299, h299, L299, e299, Cc299, X299, B299, J299, g299, hQ299, st299⟩ := own_callV Cc285 B285 J285 X285 (hw _ (List.mem_of_getElem? (i := 108) rfl)) (hw _ (List.mem_of_getElem? (i := 109) rfl)) (notFace_of_selects (args := #[]) (mvT hZ (hw _ (List.mem_of_getElem? (i := 111) rfl)))) (hw _ (List.mem_of_getElem? (i := 111) rfl)) (hw _ (List.mem_of_getElem? (i := 110) rfl)) (hw _ (List.mem_of_getElem? (i := 72) rfl)) (hw _ (List.mem_of_getElem? (i := 112) rfl)) (by decide) f300 (rmH_1 l Z a0 hw [] o275 r285 r285 r285 0 _ h285 n0 O285 h0.size (own_ole O0) K285.1 Fr285 Er285) e285 (g := (mkF m 103 #[.val (.int p1), .val (.int p2), .val (.int p3), .val (.int (2 : Int32)), .val (.ref o236), .val (.ref o251), .val (.ref o275), .val (.int (1 : Int32)), .unset, .unset] [(.ref o275)])) rfl (by rw [hml]; rfl) (argsL := []) (rest := []) (lenOf pd16 rfl) rfl (W := 0) (by show 2 * 0 + _ ≤ _; exact Nat.le_of_eq rfl) (hb hby at_103) (by decide) (by decide) (by decide) (by decide)
    obtain ⟨rfl, Nq299, hh299⟩ := hQ299
    have N299 := Fr.app N285 Nq299
    obtain ⟨hx, hZ, hown, hby, hml, hnm, hret, hlk⟩ := id Cc299
    rw [hh299] at e299 B299 J299
    refine Go.of st299 ?_
    show Go p e s below _ _ _ _ T299 (mkF m 106 #[.val (.int p1), .val (.int p2), .val (.int p3), .val (.int (2 : Int32)), .val (.ref o236), .val (.ref o251), .val (.ref o275), .val (.int (1 : Int32)), .unset, .unset] [(.int (1 : Int32))])
    refine Go.of (fun _ hr => XS.istore X299.here hx rfl (hb hby at_106) rfl (l' := #[.val (.int p1), .val (.int p2), .val (.int p3), .val (.int (2 : Int32)), .val (.ref o236), .val (.ref o251), .val (.ref o275), .val (.int (1 : Int32)), .val (.int (1 : Int32)), .unset]) rfl hr) ?_
    show Go p e s below _ _ _ _ T299 (mkF m 108 #[.val (.int p1), .val (.int p2), .val (.int p3), .val (.int (2 : Int32)), .val (.ref o236), .val (.ref o251), .val (.ref o275), .val (.int (1 : Int32)), .val (.int (1 : Int32)), .unset] [])
    refine Go.of (fun _ hr => XS.aload X299.here hx rfl (hb hby at_108) rfl rfl hr) ?_
    show Go p e s below _ _ _ _ T299 (mkF m 110 #[.val (.int p1), .val (.int p2), .val (.int p3), .val (.int (2 : Int32)), .val (.ref o236), .val (.ref o251), .val (.ref o275), .val (.int (1 : Int32)), .val (.int (1 : Int32)), .unset] [(.ref o251)])
    refine Go.of (fun _ hr => XS.aload X299.here hx rfl (hb hby at_110) rfl rfl hr) ?_
    show Go p e s below _ _ _ _ T299 (mkF m 112 #[.val (.int p1), .val (.int p2), .val (.int p3), .val (.int (2 : Int32)), .val (.ref o236), .val (.ref o251), .val (.ref o275), .val (.int (1 : Int32)), .val (.int (1 : Int32)), .unset] [(.ref o236), (.ref o251)])
    have f302 := ((Fa272.ext E275).keep Kq285 (ninS ne_o251_o275 nin0))
    have f303 := (f288.keep Kq285 (ninS ne_o251_o275 nin0))
    have f304 := (f287.keep Kq285 (ninS ne_o251_o275 nin0))
    have f305 := (f286.keep Kq285)
    have f306 := (f289.keep Kq285)
    have f307 := (f290.keep Kq285 (ninS ne_d261_o275 nin0))
    have f308 := (f291.keep Kq285)
    obtain ⟨_, b301, T301, h301, L301, e301, Cc301, X301, B301, J301, g301, hQ301, st301⟩ := own_callV Cc299 B299 J299 X299 (hw _ (List.mem_of_getElem? (i := 125) rfl)) (hw _ (List.mem_of_getElem? (i := 126) rfl)) (notFace_of_selects (args := #[]) (mvT hZ (hw _ (List.mem_of_getElem? (i := 128) rfl)))) (hw _ (List.mem_of_getElem? (i := 128) rfl)) (hw _ (List.mem_of_getElem? (i := 127) rfl)) (hw _ (List.mem_of_getElem? (i := 48) rfl)) (hw _ (List.mem_of_getElem? (i := 129) rfl)) (by decide) f305 (rmA1_2 l Z a0 hw [] o251 o236 d261 _ (2 : Int32) _ h285 n0 O285 h0.size (own_ole O0) K285.1 fr251 trivial fr_d261 trivial f305 f302 f303 f304 f306 f307 Od261 (Ne.symm ne_o251_d261) ne_o236_d261 f308 ne_o236_o251) e299 (g := (mkF m 112 #[.val (.int p1), .val (.int p2), .val (.int p3), .val (.int (2 : Int32)), .val (.ref o236), .val (.ref o251), .val (.ref o275), .val (.int (1 : Int32)), .val (.int (1 : Int32)), .unset] [(.ref o236), (.ref o251)])) rfl (by rw [hml]; rfl) (argsL := [(.ref o236)]) (rest := []) (lenOf pd22 rfl) rfl (W := 0) (by show 2 * 0 + _ ≤ _; exact Nat.le_of_eq rfl) (hb hby at_112) (by decide) (by decide) (by decide) (by decide)
    obtain ⟨rfl, Nq301, Kq301, Fa301, Fb301, Fc301, Ed301, Vd301⟩ := hQ301
    have N301 := Fr.app N299 Nq301
    obtain ⟨hx, hZ, hown, hby, hml, hnm, hret, hlk⟩ := id Cc301
    have K301 := K285.trans Kq301 (allS (Or.inr sz251) (allS (Or.inr sz_d261) all0))
    have O301 := O285.keep Kq301 (allS (Nat.le_trans (own_ole O0) fr251) (allS (Nat.le_trans (own_ole O0) fr_d261) all0))
    refine Go.of st301 ?_
    show Go p e s below _ _ _ _ T301 (mkF m 115 #[.val (.int p1), .val (.int p2), .val (.int p3), .val (.int (2 : Int32)), .val (.ref o236), .val (.ref o251), .val (.ref o275), .val (.int (1 : Int32)), .val (.int (1 : Int32)), .unset] [(.int (1 : Int32))])
    refine Go.of (fun _ hr => XS.pop X301.here hx rfl (hb hby at_115) rfl rfl hr) ?_
    show Go p e s below _ _ _ _ T301 (mkF m 116 #[.val (.int p1), .val (.int p2), .val (.int p3), .val (.int (2 : Int32)), .val (.ref o236), .val (.ref o251), .val (.ref o275), .val (.int (1 : Int32)), .val (.int (1 : Int32)), .unset] [])
    refine Go.of (fun _ hr => XS.aload X301.here hx rfl (hb hby at_116) rfl rfl hr) ?_
    show Go p e s below _ _ _ _ T301 (mkF m 118 #[.val (.int p1), .val (.int p2), .val (.int p3), .val (.int (2 : Int32)), .val (.ref o236), .val (.ref o251), .val (.ref o275), .val (.int (1 : Int32)), .val (.int (1 : Int32)), .unset] [(.ref o275)])
    have f310 := (Fr285.keep Kq301 (ninS (Ne.symm ne_o251_o275) (ninS (Ne.symm ne_d261_o275) nin0)))
    have f311 := (Er285.keep Kq301)
    have f312 := (f300.keep Kq301)
    obtain ⟨_, b309, T309, h309, L309, e309, Cc309, X309, B309, J309, g309, hQ309, st309⟩ := own_callV Cc301 B301 J301 X301 (hw _ (List.mem_of_getElem? (i := 108) rfl)) (hw _ (List.mem_of_getElem? (i := 109) rfl)) (notFace_of_selects (args := #[]) (mvT hZ (hw _ (List.mem_of_getElem? (i := 111) rfl)))) (hw _ (List.mem_of_getElem? (i := 111) rfl)) (hw _ (List.mem_of_getElem? (i := 110) rfl)) (hw _ (List.mem_of_getElem? (i := 72) rfl)) (hw _ (List.mem_of_getElem? (i := 112) rfl)) (by decide) f312 (rmH_1 l Z a0 hw [] o275 r285 r285 r285 0 _ h301 n0 O301 h0.size (own_ole O0) K301.1 f310 f311) e301 (g := (mkF m 118 #[.val (.int p1), .val (.int p2), .val (.int p3), .val (.int (2 : Int32)), .val (.ref o236), .val (.ref o251), .val (.ref o275), .val (.int (1 : Int32)), .val (.int (1 : Int32)), .unset] [(.ref o275)])) rfl (by rw [hml]; rfl) (argsL := []) (rest := []) (lenOf pd16 rfl) rfl (W := 0) (by show 2 * 0 + _ ≤ _; exact Nat.le_of_eq rfl) (hb hby at_118) (by decide) (by decide) (by decide) (by decide)
    obtain ⟨rfl, Nq309, hh309⟩ := hQ309
    have N309 := Fr.app N301 Nq309
    obtain ⟨hx, hZ, hown, hby, hml, hnm, hret, hlk⟩ := id Cc309
    rw [hh309] at e309 B309 J309
    refine Go.of st309 ?_
    show Go p e s below _ _ _ _ T309 (mkF m 121 #[.val (.int p1), .val (.int p2), .val (.int p3), .val (.int (2 : Int32)), .val (.ref o236), .val (.ref o251), .val (.ref o275), .val (.int (1 : Int32)), .val (.int (1 : Int32)), .unset] [(.int (1 : Int32))])
    refine Go.of (fun _ hr => XS.istore X309.here hx rfl (hb hby at_121) rfl (l' := #[.val (.int p1), .val (.int p2), .val (.int p3), .val (.int (2 : Int32)), .val (.ref o236), .val (.ref o251), .val (.ref o275), .val (.int (1 : Int32)), .val (.int (1 : Int32)), .val (.int (1 : Int32))]) rfl hr) ?_
    show Go p e s below _ _ _ _ T309 (mkF m 123 #[.val (.int p1), .val (.int p2), .val (.int p3), .val (.int (2 : Int32)), .val (.ref o236), .val (.ref o251), .val (.ref o275), .val (.int (1 : Int32)), .val (.int (1 : Int32)), .val (.int (1 : Int32))] [])
    refine Go.of (fun _ hr => XS.iload X309.here hx rfl (hb hby at_123) rfl  hr) ?_
    show Go p e s below _ _ _ _ T309 (mkF m 125 #[.val (.int p1), .val (.int p2), .val (.int p3), .val (.int (2 : Int32)), .val (.ref o236), .val (.ref o251), .val (.ref o275), .val (.int (1 : Int32)), .val (.int (1 : Int32)), .val (.int (1 : Int32))] [(.int (1 : Int32))])
    refine Go.of (fun _ hr => XS.iload X309.here hx rfl (hb hby at_125) rfl  hr) ?_
    show Go p e s below _ _ _ _ T309 (mkF m 127 #[.val (.int p1), .val (.int p2), .val (.int p3), .val (.int (2 : Int32)), .val (.ref o236), .val (.ref o251), .val (.ref o275), .val (.int (1 : Int32)), .val (.int (1 : Int32)), .val (.int (1 : Int32))] [(.int (1 : Int32)), (.int (1 : Int32))])
    refine Go.of (fun _ hr => XS.icmpNo X309.here hx rfl (hb hby at_127) rfl (teq (by decide : ((1 : Int32) = (1 : Int32)))).2 hr) ?_
    show Go p e s below _ _ _ _ T309 (mkF m 130 #[.val (.int p1), .val (.int p2), .val (.int p3), .val (.int (2 : Int32)), .val (.ref o236), .val (.ref o251), .val (.ref o275), .val (.int (1 : Int32)), .val (.int (1 : Int32)), .val (.int (1 : Int32))] [])
    refine Go.of (fun _ hr => XS.iload X309.here hx rfl (hb hby at_130) rfl  hr) ?_
    show Go p e s below _ _ _ _ T309 (mkF m 132 #[.val (.int p1), .val (.int p2), .val (.int p3), .val (.int (2 : Int32)), .val (.ref o236), .val (.ref o251), .val (.ref o275), .val (.int (1 : Int32)), .val (.int (1 : Int32)), .val (.int (1 : Int32))] [(.int (1 : Int32))])
    refine Go.of (fun _ hr => XS.iload X309.here hx rfl (hb hby at_132) rfl  hr) ?_
    show Go p e s below _ _ _ _ T309 (mkF m 134 #[.val (.int p1), .val (.int p2), .val (.int p3), .val (.int (2 : Int32)), .val (.ref o236), .val (.ref o251), .val (.ref o275), .val (.int (1 : Int32)), .val (.int (1 : Int32)), .val (.int (1 : Int32))] [(.int (1 : Int32)), (.int (1 : Int32))])
    refine Go.of (fun _ hr => XS.icmpNo X309.here hx rfl (hb hby at_134) rfl (teq (by decide : ((1 : Int32) = (1 : Int32)))).2 hr) ?_
    show Go p e s below _ _ _ _ T309 (mkF m 137 #[.val (.int p1), .val (.int p2), .val (.int p3), .val (.int (2 : Int32)), .val (.ref o236), .val (.ref o251), .val (.ref o275), .val (.int (1 : Int32)), .val (.int (1 : Int32)), .val (.int (1 : Int32))] [])
    refine Go.of (fun _ hr => XS.iconst X309.here hx rfl (hb hby at_137) hr) ?_
    show Go p e s below _ _ _ _ T309 (mkF m 138 #[.val (.int p1), .val (.int p2), .val (.int p3), .val (.int (2 : Int32)), .val (.ref o236), .val (.ref o251), .val (.ref o275), .val (.int (1 : Int32)), .val (.int (1 : Int32)), .val (.int (1 : Int32))] [(.int (1 : Int32))])
    refine Go.of (fun _ hr => XS.goto X309.here hx rfl (pc0 := 138) (pc' := 142) rfl (hb hby at_138) (by decide) (by decide) hr) ?_
    show Go p e s below _ _ _ _ T309 (mkF m 142 #[.val (.int p1), .val (.int p2), .val (.int p3), .val (.int (2 : Int32)), .val (.ref o236), .val (.ref o251), .val (.ref o275), .val (.int (1 : Int32)), .val (.int (1 : Int32)), .val (.int (1 : Int32))] [(.int (1 : Int32))])
    exact Go.retN X309 hx hlk B309 (J309.sub fun x hx => (List.mem_cons_of_mem _ (List.mem_cons_of_mem _ (List.mem_cons_of_mem _ hx)))) e309 (t := .boolean) (z' := (1 : Int32)) hret (by simp) (hb hby at_142) rfl (by decide) (by decide) (fun vm_ hw_ => ⟨rfl, (fun y hy => Nat.le_trans hnb (N309 y hy))⟩)
  · show Go p e s below _ _ _ _ s₁ (mkF m 3 #[.val (.int p1), .val (.int p2), .val (.int p3), .unset, .unset, .unset, .unset, .unset, .unset, .unset] [(.int (3 : Int32))])
    refine Go.of (fun _ hr => XS.istoreN X0.here hx rfl (hb hby at_3) rfl (l' := #[.val (.int p1), .val (.int p2), .val (.int p3), .val (.int (3 : Int32)), .unset, .unset, .unset, .unset, .unset, .unset]) rfl hr) ?_
    show Go p e s below _ _ _ _ s₁ (mkF m 4 #[.val (.int p1), .val (.int p2), .val (.int p3), .val (.int (3 : Int32)), .unset, .unset, .unset, .unset, .unset, .unset] [])
    obtain ⟨T313, h313, X313, e313, E313, A313, D313, -, st313⟩ := newO X0 hx hZ hown (hw _ (List.mem_of_getElem? (i := 0) rfl)) (hw _ (List.mem_of_getElem? (i := 1) rfl)) (hw _ (List.mem_of_getElem? (i := 2) rfl)) e0 (g := (mkF m 4 #[.val (.int p1), .val (.int p2), .val (.int p3), .val (.int (3 : Int32)), .unset, .unset, .unset, .unset, .unset, .unset] [])) rfl (hb hby at_4) (by decide) (by decide)
    obtain ⟨o313, g313⟩ : ∃ z, z = h0.size := ⟨_, rfl⟩
    rw [← g313] at A313 D313 st313
    have ne_wD_o313 : wD ≠ o313 := Nat.ne_of_lt (Nat.lt_of_lt_of_le ED0.lt (Nat.le_of_eq g313.symm))
    have ne_wL_o313 : wL ≠ o313 := Nat.ne_of_lt (Nat.lt_of_lt_of_le EL0.lt (Nat.le_of_eq g313.symm))
    have ne_elL_o313 : elL ≠ o313 := Nat.ne_of_lt (Nat.lt_of_lt_of_le VL0.lt (Nat.le_of_eq g313.symm))
    have lt313 : o313 < h313.size := A313.lt
    have J313 := J0.add E313 g313 lt313
    have B313 := B0.mono E313.1
    have O313 := O0.ext E313
    have sz313 : h0.size ≤ o313 := Nat.le_trans K0.1 (Nat.le_of_eq g313.symm)
    have fr313 : h0.size ≤ o313 := sz313
    have K313 := K0.ext E313
    have F313_field : Fld Z h313 o313 "com/example/dispatcher/dispatcher/web/FieldError" "field" "Ljava/lang/String;" .null := D313 (Or.inr (hw _ (List.mem_of_getElem? (i := 42) rfl))) (ty := (.object "java/lang/String")) (by decide)
    have F313_message : Fld Z h313 o313 "com/example/dispatcher/dispatcher/web/FieldError" "message" "Ljava/lang/String;" .null := D313 (Or.inr (hw _ (List.mem_of_getElem? (i := 45) rfl))) (ty := (.object "java/lang/String")) (by decide)
    refine Go.of (fun _ hr => st313 _ hr) ?_
    show Go p e s below _ _ _ _ T313 (mkF m 7 #[.val (.int p1), .val (.int p2), .val (.int p3), .val (.int (3 : Int32)), .unset, .unset, .unset, .unset, .unset, .unset] [(.ref o313)])
    refine Go.of (fun _ hr => XS.dup X313.here hx rfl (hb hby at_7) rfl rfl hr) ?_
    show Go p e s below _ _ _ _ T313 (mkF m 8 #[.val (.int p1), .val (.int p2), .val (.int p3), .val (.int (3 : Int32)), .unset, .unset, .unset, .unset, .unset, .unset] [(.ref o313), (.ref o313)])
    refine Go.of (fun _ hr => XS.iloadN X313.here hx rfl (hb hby at_8) rfl  hr) ?_
    show Go p e s below _ _ _ _ T313 (mkF m 9 #[.val (.int p1), .val (.int p2), .val (.int p3), .val (.int (3 : Int32)), .unset, .unset, .unset, .unset, .unset, .unset] [(.int p2), (.ref o313), (.ref o313)])
    refine Go.of (fun _ hr => XS.sipush X313.here hx rfl (hb hby at_9) hr) ?_
    show Go p e s below _ _ _ _ T313 (mkF m 12 #[.val (.int p1), .val (.int p2), .val (.int p3), .val (.int (3 : Int32)), .unset, .unset, .unset, .unset, .unset, .unset] [(.int (255 : Int32)), (.int p2), (.ref o313), (.ref o313)])
    refine Go.of (fun _ hr => XS.iand X313.here hx rfl (hb hby at_12) rfl hr) ?_
    show Go p e s below _ _ _ _ T313 (mkF m 13 #[.val (.int p1), .val (.int p2), .val (.int p3), .val (.int (3 : Int32)), .unset, .unset, .unset, .unset, .unset, .unset] [(.int (p2 &&& (255 : Int32))), (.ref o313), (.ref o313)])
    refine Go.of (fun _ hr => XS.i2c X313.here hx rfl (hb hby at_13) rfl hr) ?_
    show Go p e s below _ _ _ _ T313 (mkF m 14 #[.val (.int p1), .val (.int p2), .val (.int p3), .val (.int (3 : Int32)), .unset, .unset, .unset, .unset, .unset, .unset] [(.int ((p2 &&& (255 : Int32)).toUInt32.toUInt16.toUInt32.toInt32)), (.ref o313), (.ref o313)])
    obtain ⟨_, b314, T314, h314, L314, e314, Cc314, X314, B314, J314, g314, hQ314, st314⟩ := own_callS Cc B313 J313 X313 (hw _ (List.mem_of_getElem? (i := 3) rfl)) (hw _ (List.mem_of_getElem? (i := 4) rfl)) (hw _ (List.mem_of_getElem? (i := 5) rfl)) (hw _ (List.mem_of_getElem? (i := 6) rfl)) (by decide) (rm1 l Z a0 hw [] ((p2 &&& (255 : Int32)).toUInt32.toUInt16.toUInt32.toInt32) zc _ h313 n0 O313 h0.size (own_ole O0) K313.1 (chr8 p2).2 S_C hzc) e313 (g := (mkF m 14 #[.val (.int p1), .val (.int p2), .val (.int p3), .val (.int (3 : Int32)), .unset, .unset, .unset, .unset, .unset, .unset] [(.int ((p2 &&& (255 : Int32)).toUInt32.toUInt16.toUInt32.toInt32)), (.ref o313), (.ref o313)])) rfl (by rw [hml]; rfl) (argsL := [(.int ((p2 &&& (255 : Int32)).toUInt32.toUInt16.toUInt32.toInt32))]) (rest := [(.ref o313), (.ref o313)]) (lenOf pd19 rfl) rfl (W := 2) (by show 2 * 0 + _ ≤ _; exact Nat.le_of_eq rfl) (hb hby at_14) (by decide) (by decide) (by decide) (by decide)
    have f315 := (ED0.ext E313)
    have f316 := (EL0.ext E313)
    have f317 := (VL0.ext E313)
    obtain ⟨r314, t314, kt314, rfl, Nq314, Eq314, R_r314, R_t314, Er314, Fv314, Fc314, Vt314⟩ := hQ314
    have N314 := Fr.app N0 Nq314
    obtain ⟨hx, hZ, hown, hby, hml, hnm, hret, hlk⟩ := id Cc314
    have sz_r314 : h0.size ≤ r314 := Nat.le_trans K313.1 R_r314
    have fr_r314 : h0.size ≤ r314 := sz_r314
    have ne_wD_r314 : wD ≠ r314 := Nat.ne_of_lt (Nat.lt_of_lt_of_le f315.lt R_r314)
    have ne_wL_r314 : wL ≠ r314 := Nat.ne_of_lt (Nat.lt_of_lt_of_le f316.lt R_r314)
    have ne_elL_r314 : elL ≠ r314 := Nat.ne_of_lt (Nat.lt_of_lt_of_le f317.lt R_r314)
    have ne_o313_r314 : o313 ≠ r314 := Nat.ne_of_lt (Nat.lt_of_lt_of_le A313.lt R_r314)
    have sz_t314 : h0.size ≤ t314 := Nat.le_trans K313.1 R_t314
    have fr_t314 : h0.size ≤ t314 := sz_t314
    have ne_wD_t314 : wD ≠ t314 := Nat.ne_of_lt (Nat.lt_of_lt_of_le f315.lt R_t314)
    have ne_wL_t314 : wL ≠ t314 := Nat.ne_of_lt (Nat.lt_of_lt_of_le f316.lt R_t314)
    have ne_elL_t314 : elL ≠ t314 := Nat.ne_of_lt (Nat.lt_of_lt_of_le f317.lt R_t314)
    have ne_o313_t314 : o313 ≠ t314 := Nat.ne_of_lt (Nat.lt_of_lt_of_le A313.lt R_t314)
    have K314 := K313.ext Eq314
    have O314 := O313.ext Eq314
    refine Go.of st314 ?_
    show Go p e s below _ _ _ _ T314 (mkF m 17 #[.val (.int p1), .val (.int p2), .val (.int p3), .val (.int (3 : Int32)), .unset, .unset, .unset, .unset, .unset, .unset] [(.ref r314), (.ref o313), (.ref o313)])
    refine Go.of (fun _ hr => XS.iloadN X314.here hx rfl (hb hby at_17) rfl  hr) ?_
    show Go p e s below _ _ _ _ T314 (mkF m 18 #[.val (.int p1), .val (.int p2), .val (.int p3), .val (.int (3 : Int32)), .unset, .unset, .unset, .unset, .unset, .unset] [(.int p3), (.ref r314), (.ref o313), (.ref o313)])
    refine Go.of (fun _ hr => XS.sipush X314.here hx rfl (hb hby at_18) hr) ?_
    show Go p e s below _ _ _ _ T314 (mkF m 21 #[.val (.int p1), .val (.int p2), .val (.int p3), .val (.int (3 : Int32)), .unset, .unset, .unset, .unset, .unset, .unset] [(.int (255 : Int32)), (.int p3), (.ref r314), (.ref o313), (.ref o313)])
    refine Go.of (fun _ hr => XS.iand X314.here hx rfl (hb hby at_21) rfl hr) ?_
    show Go p e s below _ _ _ _ T314 (mkF m 22 #[.val (.int p1), .val (.int p2), .val (.int p3), .val (.int (3 : Int32)), .unset, .unset, .unset, .unset, .unset, .unset] [(.int (p3 &&& (255 : Int32))), (.ref r314), (.ref o313), (.ref o313)])
    refine Go.of (fun _ hr => XS.i2c X314.here hx rfl (hb hby at_22) rfl hr) ?_
    show Go p e s below _ _ _ _ T314 (mkF m 23 #[.val (.int p1), .val (.int p2), .val (.int p3), .val (.int (3 : Int32)), .unset, .unset, .unset, .unset, .unset, .unset] [(.int ((p3 &&& (255 : Int32)).toUInt32.toUInt16.toUInt32.toInt32)), (.ref r314), (.ref o313), (.ref o313)])
    obtain ⟨_, b318, T318, h318, L318, e318, Cc318, X318, B318, J318, g318, hQ318, st318⟩ := own_callS Cc314 B314 J314 X314 (hw _ (List.mem_of_getElem? (i := 3) rfl)) (hw _ (List.mem_of_getElem? (i := 4) rfl)) (hw _ (List.mem_of_getElem? (i := 5) rfl)) (hw _ (List.mem_of_getElem? (i := 6) rfl)) (by decide) (rm1 l Z a0 hw [] ((p3 &&& (255 : Int32)).toUInt32.toUInt16.toUInt32.toInt32) zc _ h314 n0 O314 h0.size (own_ole O0) K314.1 (chr8 p3).2 S_C hzc) e314 (g := (mkF m 23 #[.val (.int p1), .val (.int p2), .val (.int p3), .val (.int (3 : Int32)), .unset, .unset, .unset, .unset, .unset, .unset] [(.int ((p3 &&& (255 : Int32)).toUInt32.toUInt16.toUInt32.toInt32)), (.ref r314), (.ref o313), (.ref o313)])) rfl (by rw [hml]; rfl) (argsL := [(.int ((p3 &&& (255 : Int32)).toUInt32.toUInt16.toUInt32.toInt32))]) (rest := [(.ref r314), (.ref o313), (.ref o313)]) (lenOf pd19 rfl) rfl (W := 3) (by show 2 * 0 + _ ≤ _; exact Nat.le_of_eq rfl) (hb hby at_23) (by decide) (by decide) (by decide) (by decide)
    have f319 := (f315.ext Eq314)
    have f320 := (f316.ext Eq314)
    have f321 := (f317.ext Eq314)
    have f322 := (A313.ext Eq314)
    obtain ⟨r318, t318, kt318, rfl, Nq318, Eq318, R_r318, R_t318, Er318, Fv318, Fc318, Vt318⟩ := hQ318
    have N318 := Fr.app N314 Nq318
    obtain ⟨hx, hZ, hown, hby, hml, hnm, hret, hlk⟩ := id Cc318
    have sz_r318 : h0.size ≤ r318 := Nat.le_trans K314.1 R_r318
    have fr_r318 : h0.size ≤ r318 := sz_r318
    have ne_wD_r318 : wD ≠ r318 := Nat.ne_of_lt (Nat.lt_of_lt_of_le f319.lt R_r318)
    have ne_wL_r318 : wL ≠ r318 := Nat.ne_of_lt (Nat.lt_of_lt_of_le f320.lt R_r318)
    have ne_elL_r318 : elL ≠ r318 := Nat.ne_of_lt (Nat.lt_of_lt_of_le f321.lt R_r318)
    have ne_o313_r318 : o313 ≠ r318 := Nat.ne_of_lt (Nat.lt_of_lt_of_le f322.lt R_r318)
    have ne_r314_r318 : r314 ≠ r318 := Nat.ne_of_lt (Nat.lt_of_lt_of_le Er314.lt R_r318)
    have ne_t314_r318 : t314 ≠ r318 := Nat.ne_of_lt (Nat.lt_of_lt_of_le Vt314.lt R_r318)
    have sz_t318 : h0.size ≤ t318 := Nat.le_trans K314.1 R_t318
    have fr_t318 : h0.size ≤ t318 := sz_t318
    have ne_wD_t318 : wD ≠ t318 := Nat.ne_of_lt (Nat.lt_of_lt_of_le f319.lt R_t318)
    have ne_wL_t318 : wL ≠ t318 := Nat.ne_of_lt (Nat.lt_of_lt_of_le f320.lt R_t318)
    have ne_elL_t318 : elL ≠ t318 := Nat.ne_of_lt (Nat.lt_of_lt_of_le f321.lt R_t318)
    have ne_o313_t318 : o313 ≠ t318 := Nat.ne_of_lt (Nat.lt_of_lt_of_le f322.lt R_t318)
    have ne_r314_t318 : r314 ≠ t318 := Nat.ne_of_lt (Nat.lt_of_lt_of_le Er314.lt R_t318)
    have ne_t314_t318 : t314 ≠ t318 := Nat.ne_of_lt (Nat.lt_of_lt_of_le Vt314.lt R_t318)
    have K318 := K314.ext Eq318
    have O318 := O314.ext Eq318
    refine Go.of st318 ?_
    show Go p e s below _ _ _ _ T318 (mkF m 26 #[.val (.int p1), .val (.int p2), .val (.int p3), .val (.int (3 : Int32)), .unset, .unset, .unset, .unset, .unset, .unset] [(.ref r318), (.ref r314), (.ref o313), (.ref o313)])
    have f324 := (f322.ext Eq318)
    have f325 := ((F313_field.ext Eq314).ext Eq318)
    have f326 := ((F313_message.ext Eq314).ext Eq318)
    have f327 := (Er314.ext Eq318)
    obtain ⟨_, b323, T323, h323, L323, e323, Cc323, X323, B323, J323, g323, hQ323, st323⟩ := own_callI Cc318 B318 J318 X318 rfl (hw _ (List.mem_of_getElem? (i := 29) rfl)) (hw _ (List.mem_of_getElem? (i := 30) rfl)) (hw _ (List.mem_of_getElem? (i := 2) rfl)) (hw _ (List.mem_of_getElem? (i := 31) rfl)) (by decide) (rm6 l Z a0 hw [] o313 r314 r318 _ _ _ h318 n0 O318 h0.size (own_ole O0) K318.1 fr313 trivial f324 f325 f326 f327 Er318) e318 (g := (mkF m 26 #[.val (.int p1), .val (.int p2), .val (.int p3), .val (.int (3 : Int32)), .unset, .unset, .unset, .unset, .unset, .unset] [(.ref r318), (.ref r314), (.ref o313), (.ref o313)])) rfl (by rw [hml]; rfl) (argsL := [(.ref r314), (.ref r318)]) (rest := [(.ref o313)]) (lenOf pd20 rfl) rfl (W := 1) (by show 2 * 0 + _ ≤ _; exact Nat.le_of_eq rfl) (hb hby at_26) (by decide) (by decide) (by decide) (by decide)
    obtain ⟨rfl, Nq323, Kq323⟩ := hQ323
    have N323 := Fr.app N318 Nq323
    obtain ⟨hx, hZ, hown, hby, hml, hnm, hret, hlk⟩ := id Cc323
    have K323 := K318.trans Kq323 (allS (Or.inr sz313) all0)
    have O323 := O318.keep Kq323 (allS (Nat.le_trans (own_ole O0) fr313) all0)
    refine Go.of st323 ?_
    show Go p e s below _ _ _ _ T323 (mkF m 29 #[.val (.int p1), .val (.int p2), .val (.int p3), .val (.int (3 : Int32)), .unset, .unset, .unset, .unset, .unset, .unset] [(.ref o313)])
    refine Go.of (fun _ hr => XS.astore X323.here hx rfl (hb hby at_29) rfl rfl (l' := #[.val (.int p1), .val (.int p2), .val (.int p3), .val (.int (3 : Int32)), .val (.ref o313), .unset, .unset, .unset, .unset, .unset]) rfl hr) ?_
    show Go p e s below _ _ _ _ T323 (mkF m 31 #[.val (.int p1), .val (.int p2), .val (.int p3), .val (.int (3 : Int32)), .val (.ref o313), .unset, .unset, .unset, .unset, .unset] [])
    obtain ⟨T328, h328, X328, e328, E328, A328, D328, -, st328⟩ := newO X323 hx hZ hown (hw _ (List.mem_of_getElem? (i := 46) rfl)) (hw _ (List.mem_of_getElem? (i := 47) rfl)) (hw _ (List.mem_of_getElem? (i := 48) rfl)) e323 (g := (mkF m 31 #[.val (.int p1), .val (.int p2), .val (.int p3), .val (.int (3 : Int32)), .val (.ref o313), .unset, .unset, .unset, .unset, .unset] [])) rfl (hb hby at_31) (by decide) (by decide)
    obtain ⟨o328, g328⟩ : ∃ z, z = h323.size := ⟨_, rfl⟩
    rw [← g328] at A328 D328 st328
    have f329 := ((f319.ext Eq318).keep Kq323)
    have ne_wD_o328 : wD ≠ o328 := Nat.ne_of_lt (Nat.lt_of_lt_of_le f329.lt (Nat.le_of_eq g328.symm))
    have f330 := ((f320.ext Eq318).keep Kq323)
    have ne_wL_o328 : wL ≠ o328 := Nat.ne_of_lt (Nat.lt_of_lt_of_le f330.lt (Nat.le_of_eq g328.symm))
    have f331 := ((f321.ext Eq318).keep Kq323 (ninS ne_elL_o313 nin0))
    have ne_elL_o328 : elL ≠ o328 := Nat.ne_of_lt (Nat.lt_of_lt_of_le f331.lt (Nat.le_of_eq g328.symm))
    have f332 := (f324.keep Kq323)
    have ne_o313_o328 : o313 ≠ o328 := Nat.ne_of_lt (Nat.lt_of_lt_of_le f332.lt (Nat.le_of_eq g328.symm))
    have f333 := (f327.keep Kq323)
    have ne_r314_o328 : r314 ≠ o328 := Nat.ne_of_lt (Nat.lt_of_lt_of_le f333.lt (Nat.le_of_eq g328.symm))
    have f334 := ((Vt314.ext Eq318).keep Kq323 (ninS (Ne.symm ne_o313_t314) nin0))
    have ne_t314_o328 : t314 ≠ o328 := Nat.ne_of_lt (Nat.lt_of_lt_of_le f334.lt (Nat.le_of_eq g328.symm))
    have f335 := (Er318.keep Kq323)
    have ne_r318_o328 : r318 ≠ o328 := Nat.ne_of_lt (Nat.lt_of_lt_of_le f335.lt (Nat.le_of_eq g328.symm))
    have f336 := (Vt318.keep Kq323 (ninS (Ne.symm ne_o313_t318) nin0))
    have ne_t318_o328 : t318 ≠ o328 := Nat.ne_of_lt (Nat.lt_of_lt_of_le f336.lt (Nat.le_of_eq g328.symm))
    have lt328 : o328 < h328.size := A328.lt
    have J328 := J323.add E328 g328 lt328
    have B328 := B323.mono E328.1
    have O328 := O323.ext E328
    have sz328 : h0.size ≤ o328 := Nat.le_trans K323.1 (Nat.le_of_eq g328.symm)
    have fr328 : h0.size ≤ o328 := sz328
    have K328 := K323.ext E328
    have F328_modCount : Fld Z h328 o328 "java/util/AbstractList" "modCount" "I" (.int (0 : Int32)) := D328 (Or.inl (hw _ (List.mem_of_getElem? (i := 66) rfl))) (ty := .int) (by decide)
    have F328_elementData : Fld Z h328 o328 "java/util/ArrayList" "elementData" "[Ljava/lang/Object;" .null := D328 (Or.inl (hw _ (List.mem_of_getElem? (i := 69) rfl))) (ty := (.array (.object "java/lang/Object"))) (by decide)
    have F328_size : Fld Z h328 o328 "java/util/ArrayList" "size" "I" (.int (0 : Int32)) := D328 (Or.inl (hw _ (List.mem_of_getElem? (i := 101) rfl))) (ty := .int) (by decide)
    refine Go.of (fun _ hr => st328 _ hr) ?_
    show Go p e s below _ _ _ _ T328 (mkF m 34 #[.val (.int p1), .val (.int p2), .val (.int p3), .val (.int (3 : Int32)), .val (.ref o313), .unset, .unset, .unset, .unset, .unset] [(.ref o328)])
    refine Go.of (fun _ hr => XS.dup X328.here hx rfl (hb hby at_34) rfl rfl hr) ?_
    show Go p e s below _ _ _ _ T328 (mkF m 35 #[.val (.int p1), .val (.int p2), .val (.int p3), .val (.int (3 : Int32)), .val (.ref o313), .unset, .unset, .unset, .unset, .unset] [(.ref o328), (.ref o328)])
    obtain ⟨_, b337, T337, h337, L337, e337, Cc337, X337, B337, J337, g337, hQ337, st337⟩ := own_callI Cc323 B328 J328 X328 rfl (hw _ (List.mem_of_getElem? (i := 49) rfl)) (hw _ (List.mem_of_getElem? (i := 50) rfl)) (hw _ (List.mem_of_getElem? (i := 48) rfl)) (hw _ (List.mem_of_getElem? (i := 51) rfl)) (by decide) (rm8 l Z a0 hw [] o328 wD _ _ _ h328 n0 O328 h0.size (own_ole O0) K328.1 fr328 trivial S_D A328 F328_modCount F328_elementData F328_size) e328 (g := (mkF m 35 #[.val (.int p1), .val (.int p2), .val (.int p3), .val (.int (3 : Int32)), .val (.ref o313), .unset, .unset, .unset, .unset, .unset] [(.ref o328), (.ref o328)])) rfl (by rw [hml]; rfl) (argsL := []) (rest := [(.ref o328)]) (lenOf pd4 rfl) rfl (W := 1) (by show 2 * 0 + _ ≤ _; exact Nat.le_of_eq rfl) (hb hby at_35) (by decide) (by decide) (by decide) (by decide)
    obtain ⟨rfl, Nq337, Kq337, Fa337, Fb337, Fc337⟩ := hQ337
    have N337 := Fr.app N323 Nq337
    obtain ⟨hx, hZ, hown, hby, hml, hnm, hret, hlk⟩ := id Cc337
    have K337 := K328.trans Kq337 (allS (Or.inr sz328) all0)
    have O337 := O328.keep Kq337 (allS (Nat.le_trans (own_ole O0) fr328) all0)
    refine Go.of st337 ?_
    show Go p e s below _ _ _ _ T337 (mkF m 38 #[.val (.int p1), .val (.int p2), .val (.int p3), .val (.int (3 : Int32)), .val (.ref o313), .unset, .unset, .unset, .unset, .unset] [(.ref o328)])
    refine Go.of (fun _ hr => XS.astore X337.here hx rfl (hb hby at_38) rfl rfl (l' := #[.val (.int p1), .val (.int p2), .val (.int p3), .val (.int (3 : Int32)), .val (.ref o313), .val (.ref o328), .unset, .unset, .unset, .unset]) rfl hr) ?_
    show Go p e s below _ _ _ _ T337 (mkF m 40 #[.val (.int p1), .val (.int p2), .val (.int p3), .val (.int (3 : Int32)), .val (.ref o313), .val (.ref o328), .unset, .unset, .unset, .unset] [])
    refine Go.of (fun _ hr => XS.iloadN X337.here hx rfl (hb hby at_40) rfl  hr) ?_
    show Go p e s below _ _ _ _ T337 (mkF m 41 #[.val (.int p1), .val (.int p2), .val (.int p3), .val (.int (3 : Int32)), .val (.ref o313), .val (.ref o328), .unset, .unset, .unset, .unset] [(.int (3 : Int32))])
    refine Go.of (fun _ hr => XS.iconst X337.here hx rfl (hb hby at_41) hr) ?_
    show Go p e s below _ _ _ _ T337 (mkF m 42 #[.val (.int p1), .val (.int p2), .val (.int p3), .val (.int (3 : Int32)), .val (.ref o313), .val (.ref o328), .unset, .unset, .unset, .unset] [(.int (1 : Int32)), (.int (3 : Int32))])
    refine Go.of (fun _ hr => XS.icmpNo X337.here hx rfl (hb hby at_42) rfl (flt (by decide : ¬ ((3 : Int32) < (1 : Int32)))).1 hr) ?_
    show Go p e s below _ _ _ _ T337 (mkF m 45 #[.val (.int p1), .val (.int p2), .val (.int p3), .val (.int (3 : Int32)), .val (.ref o313), .val (.ref o328), .unset, .unset, .unset, .unset] [])
    refine Go.of (fun _ hr => XS.aload X337.here hx rfl (hb hby at_45) rfl rfl hr) ?_
    show Go p e s below _ _ _ _ T337 (mkF m 47 #[.val (.int p1), .val (.int p2), .val (.int p3), .val (.int (3 : Int32)), .val (.ref o313), .val (.ref o328), .unset, .unset, .unset, .unset] [(.ref o328)])
    refine Go.of (fun _ hr => XS.aload X337.here hx rfl (hb hby at_47) rfl rfl hr) ?_
    show Go p e s below _ _ _ _ T337 (mkF m 49 #[.val (.int p1), .val (.int p2), .val (.int p3), .val (.int (3 : Int32)), .val (.ref o313), .val (.ref o328), .unset, .unset, .unset, .unset] [(.ref o313), (.ref o328)])
    have f339 := (A328.keep Kq337)
    have f340 := ((((((VD0.ext E313).ext Eq314).ext Eq318).keep Kq323 (ninS ne_wD_o313 nin0)).ext E328).keep Kq337 (ninS ne_wD_o328 nin0))
    have f341 := ((f332.ext E328).keep Kq337)
    obtain ⟨_, b338, T338, h338, L338, e338, Cc338, X338, B338, J338, g338, hQ338, st338⟩ := own_callV Cc337 B337 J337 X337 (hw _ (List.mem_of_getElem? (i := 125) rfl)) (hw _ (List.mem_of_getElem? (i := 126) rfl)) (notFace_of_selects (args := #[]) (mvT hZ (hw _ (List.mem_of_getElem? (i := 128) rfl)))) (hw _ (List.mem_of_getElem? (i := 128) rfl)) (hw _ (List.mem_of_getElem? (i := 127) rfl)) (hw _ (List.mem_of_getElem? (i := 48) rfl)) (hw _ (List.mem_of_getElem? (i := 129) rfl)) (by decide) f339 (rmA1_0 l Z a0 hw [] o328 o313 wD _ (0 : Int32) _ h337 n0 O337 h0.size (own_ole O0) K337.1 fr328 trivial S_D f339 Fa337 Fb337 Fc337 f340 ne_wD_o328 f341 ne_o313_o328) e337 (g := (mkF m 49 #[.val (.int p1), .val (.int p2), .val (.int p3), .val (.int (3 : Int32)), .val (.ref o313), .val (.ref o328), .unset, .unset, .unset, .unset] [(.ref o313), (.ref o328)])) rfl (by rw [hml]; rfl) (argsL := [(.ref o313)]) (rest := []) (lenOf pd22 rfl) rfl (W := 0) (by show 2 * 0 + _ ≤ _; exact Nat.le_of_eq rfl) (hb hby at_49) (by decide) (by decide) (by decide) (by decide)
    have f342 := ((f329.ext E328).keep Kq337)
    have f343 := ((f330.ext E328).keep Kq337)
    have f344 := ((f331.ext E328).keep Kq337 (ninS ne_elL_o328 nin0))
    have f345 := ((f333.ext E328).keep Kq337)
    have f346 := ((f334.ext E328).keep Kq337 (ninS ne_t314_o328 nin0))
    have f347 := ((f335.ext E328).keep Kq337)
    have f348 := ((f336.ext E328).keep Kq337 (ninS ne_t318_o328 nin0))
    obtain ⟨d338, kd338, rfl, Nq338, Kq338, R_d338, Fa338, Fb338, Fc338, Ed338, Vd338, Od338⟩ := hQ338
    have N338 := Fr.app N337 Nq338
    obtain ⟨hx, hZ, hown, hby, hml, hnm, hret, hlk⟩ := id Cc338
    have sz_d338 : h0.size ≤ d338 := Nat.le_trans K337.1 R_d338
    have fr_d338 : h0.size ≤ d338 := sz_d338
    have ne_wD_d338 : wD ≠ d338 := Nat.ne_of_lt (Nat.lt_of_lt_of_le f342.lt R_d338)
    have ne_wL_d338 : wL ≠ d338 := Nat.ne_of_lt (Nat.lt_of_lt_of_le f343.lt R_d338)
    have ne_elL_d338 : elL ≠ d338 := Nat.ne_of_lt (Nat.lt_of_lt_of_le f344.lt R_d338)
    have ne_o313_d338 : o313 ≠ d338 := Nat.ne_of_lt (Nat.lt_of_lt_of_le f341.lt R_d338)
    have ne_r314_d338 : r314 ≠ d338 := Nat.ne_of_lt (Nat.lt_of_lt_of_le f345.lt R_d338)
    have ne_t314_d338 : t314 ≠ d338 := Nat.ne_of_lt (Nat.lt_of_lt_of_le f346.lt R_d338)
    have ne_r318_d338 : r318 ≠ d338 := Nat.ne_of_lt (Nat.lt_of_lt_of_le f347.lt R_d338)
    have ne_t318_d338 : t318 ≠ d338 := Nat.ne_of_lt (Nat.lt_of_lt_of_le f348.lt R_d338)
    have ne_o328_d338 : o328 ≠ d338 := Nat.ne_of_lt (Nat.lt_of_lt_of_le f339.lt R_d338)
    have K338 := K337.trans Kq338 (allS (Or.inr sz328) all0)
    have O338 := O337.keep Kq338 (allS (Nat.le_trans (own_ole O0) fr328) all0)
    refine Go.of st338 ?_
    show Go p e s below _ _ _ _ T338 (mkF m 52 #[.val (.int p1), .val (.int p2), .val (.int p3), .val (.int (3 : Int32)), .val (.ref o313), .val (.ref o328), .unset, .unset, .unset, .unset] [(.int (1 : Int32))])
    refine Go.of (fun _ hr => XS.pop X338.here hx rfl (hb hby at_52) rfl rfl hr) ?_
    show Go p e s below _ _ _ _ T338 (mkF m 53 #[.val (.int p1), .val (.int p2), .val (.int p3), .val (.int (3 : Int32)), .val (.ref o313), .val (.ref o328), .unset, .unset, .unset, .unset] [])
    refine Go.of (fun _ hr => XS.iloadN X338.here hx rfl (hb hby at_53) rfl  hr) ?_
    show Go p e s below _ _ _ _ T338 (mkF m 54 #[.val (.int p1), .val (.int p2), .val (.int p3), .val (.int (3 : Int32)), .val (.ref o313), .val (.ref o328), .unset, .unset, .unset, .unset] [(.int (3 : Int32))])
    refine Go.of (fun _ hr => XS.iconst X338.here hx rfl (hb hby at_54) hr) ?_
    show Go p e s below _ _ _ _ T338 (mkF m 55 #[.val (.int p1), .val (.int p2), .val (.int p3), .val (.int (3 : Int32)), .val (.ref o313), .val (.ref o328), .unset, .unset, .unset, .unset] [(.int (2 : Int32)), (.int (3 : Int32))])
    refine Go.of (fun _ hr => XS.icmpNo X338.here hx rfl (hb hby at_55) rfl (flt (by decide : ¬ ((3 : Int32) < (2 : Int32)))).1 hr) ?_
    show Go p e s below _ _ _ _ T338 (mkF m 58 #[.val (.int p1), .val (.int p2), .val (.int p3), .val (.int (3 : Int32)), .val (.ref o313), .val (.ref o328), .unset, .unset, .unset, .unset] [])
    refine Go.of (fun _ hr => XS.aload X338.here hx rfl (hb hby at_58) rfl rfl hr) ?_
    show Go p e s below _ _ _ _ T338 (mkF m 60 #[.val (.int p1), .val (.int p2), .val (.int p3), .val (.int (3 : Int32)), .val (.ref o313), .val (.ref o328), .unset, .unset, .unset, .unset] [(.ref o328)])
    refine Go.of (fun _ hr => XS.aload X338.here hx rfl (hb hby at_60) rfl rfl hr) ?_
    show Go p e s below _ _ _ _ T338 (mkF m 62 #[.val (.int p1), .val (.int p2), .val (.int p3), .val (.int (3 : Int32)), .val (.ref o313), .val (.ref o328), .unset, .unset, .unset, .unset] [(.ref o313), (.ref o328)])
    have f350 := (f339.keep Kq338)
    have f351 := (f341.keep Kq338)
    obtain ⟨_, b349, T349, h349, L349, e349, Cc349, X349, B349, J349, g349, hQ349, st349⟩ := own_callV Cc338 B338 J338 X338 (hw _ (List.mem_of_getElem? (i := 125) rfl)) (hw _ (List.mem_of_getElem? (i := 126) rfl)) (notFace_of_selects (args := #[]) (mvT hZ (hw _ (List.mem_of_getElem? (i := 128) rfl)))) (hw _ (List.mem_of_getElem? (i := 128) rfl)) (hw _ (List.mem_of_getElem? (i := 127) rfl)) (hw _ (List.mem_of_getElem? (i := 48) rfl)) (hw _ (List.mem_of_getElem? (i := 129) rfl)) (by decide) f350 (rmA1_1 l Z a0 hw [] o328 o313 d338 _ (1 : Int32) _ h338 n0 O338 h0.size (own_ole O0) K338.1 fr328 trivial fr_d338 trivial f350 Fa338 Fb338 Fc338 Ed338 Vd338 Od338 (Ne.symm ne_o328_d338) ne_o313_d338 f351 ne_o313_o328) e338 (g := (mkF m 62 #[.val (.int p1), .val (.int p2), .val (.int p3), .val (.int (3 : Int32)), .val (.ref o313), .val (.ref o328), .unset, .unset, .unset, .unset] [(.ref o313), (.ref o328)])) rfl (by rw [hml]; rfl) (argsL := [(.ref o313)]) (rest := []) (lenOf pd22 rfl) rfl (W := 0) (by show 2 * 0 + _ ≤ _; exact Nat.le_of_eq rfl) (hb hby at_62) (by decide) (by decide) (by decide) (by decide)
    obtain ⟨rfl, Nq349, Kq349, Fa349, Fb349, Fc349, Ed349, Vd349⟩ := hQ349
    have N349 := Fr.app N338 Nq349
    obtain ⟨hx, hZ, hown, hby, hml, hnm, hret, hlk⟩ := id Cc349
    have K349 := K338.trans Kq349 (allS (Or.inr sz328) (allS (Or.inr sz_d338) all0))
    have O349 := O338.keep Kq349 (allS (Nat.le_trans (own_ole O0) fr328) (allS (Nat.le_trans (own_ole O0) fr_d338) all0))
    refine Go.of st349 ?_
    show Go p e s below _ _ _ _ T349 (mkF m 65 #[.val (.int p1), .val (.int p2), .val (.int p3), .val (.int (3 : Int32)), .val (.ref o313), .val (.ref o328), .unset, .unset, .unset, .unset] [(.int (1 : Int32))])
    refine Go.of (fun _ hr => XS.pop X349.here hx rfl (hb hby at_65) rfl rfl hr) ?_
    show Go p e s below _ _ _ _ T349 (mkF m 66 #[.val (.int p1), .val (.int p2), .val (.int p3), .val (.int (3 : Int32)), .val (.ref o313), .val (.ref o328), .unset, .unset, .unset, .unset] [])
    refine Go.of (fun _ hr => XS.iloadN X349.here hx rfl (hb hby at_66) rfl  hr) ?_
    show Go p e s below _ _ _ _ T349 (mkF m 67 #[.val (.int p1), .val (.int p2), .val (.int p3), .val (.int (3 : Int32)), .val (.ref o313), .val (.ref o328), .unset, .unset, .unset, .unset] [(.int (3 : Int32))])
    refine Go.of (fun _ hr => XS.iconst X349.here hx rfl (hb hby at_67) hr) ?_
    show Go p e s below _ _ _ _ T349 (mkF m 68 #[.val (.int p1), .val (.int p2), .val (.int p3), .val (.int (3 : Int32)), .val (.ref o313), .val (.ref o328), .unset, .unset, .unset, .unset] [(.int (3 : Int32)), (.int (3 : Int32))])
    refine Go.of (fun _ hr => XS.icmpNo X349.here hx rfl (hb hby at_68) rfl (flt (by decide : ¬ ((3 : Int32) < (3 : Int32)))).1 hr) ?_
    show Go p e s below _ _ _ _ T349 (mkF m 71 #[.val (.int p1), .val (.int p2), .val (.int p3), .val (.int (3 : Int32)), .val (.ref o313), .val (.ref o328), .unset, .unset, .unset, .unset] [])
    refine Go.of (fun _ hr => XS.aload X349.here hx rfl (hb hby at_71) rfl rfl hr) ?_
    show Go p e s below _ _ _ _ T349 (mkF m 73 #[.val (.int p1), .val (.int p2), .val (.int p3), .val (.int (3 : Int32)), .val (.ref o313), .val (.ref o328), .unset, .unset, .unset, .unset] [(.ref o328)])
    refine Go.of (fun _ hr => XS.aload X349.here hx rfl (hb hby at_73) rfl rfl hr) ?_
    show Go p e s below _ _ _ _ T349 (mkF m 75 #[.val (.int p1), .val (.int p2), .val (.int p3), .val (.int (3 : Int32)), .val (.ref o313), .val (.ref o328), .unset, .unset, .unset, .unset] [(.ref o313), (.ref o328)])
    have f353 := (f350.keep Kq349)
    have f354 := (f351.keep Kq349)
    obtain ⟨_, b352, T352, h352, L352, e352, Cc352, X352, B352, J352, g352, hQ352, st352⟩ := own_callV Cc349 B349 J349 X349 (hw _ (List.mem_of_getElem? (i := 125) rfl)) (hw _ (List.mem_of_getElem? (i := 126) rfl)) (notFace_of_selects (args := #[]) (mvT hZ (hw _ (List.mem_of_getElem? (i := 128) rfl)))) (hw _ (List.mem_of_getElem? (i := 128) rfl)) (hw _ (List.mem_of_getElem? (i := 127) rfl)) (hw _ (List.mem_of_getElem? (i := 48) rfl)) (hw _ (List.mem_of_getElem? (i := 129) rfl)) (by decide) f353 (rmA1_2 l Z a0 hw [] o328 o313 d338 _ (2 : Int32) _ h349 n0 O349 h0.size (own_ole O0) K349.1 fr328 trivial fr_d338 trivial f353 Fa349 Fb349 Fc349 Ed349 Vd349 Od338 (Ne.symm ne_o328_d338) ne_o313_d338 f354 ne_o313_o328) e349 (g := (mkF m 75 #[.val (.int p1), .val (.int p2), .val (.int p3), .val (.int (3 : Int32)), .val (.ref o313), .val (.ref o328), .unset, .unset, .unset, .unset] [(.ref o313), (.ref o328)])) rfl (by rw [hml]; rfl) (argsL := [(.ref o313)]) (rest := []) (lenOf pd22 rfl) rfl (W := 0) (by show 2 * 0 + _ ≤ _; exact Nat.le_of_eq rfl) (hb hby at_75) (by decide) (by decide) (by decide) (by decide)
    obtain ⟨rfl, Nq352, Kq352, Fa352, Fb352, Fc352, Ed352, Vd352⟩ := hQ352
    have N352 := Fr.app N349 Nq352
    obtain ⟨hx, hZ, hown, hby, hml, hnm, hret, hlk⟩ := id Cc352
    have K352 := K349.trans Kq352 (allS (Or.inr sz328) (allS (Or.inr sz_d338) all0))
    have O352 := O349.keep Kq352 (allS (Nat.le_trans (own_ole O0) fr328) (allS (Nat.le_trans (own_ole O0) fr_d338) all0))
    refine Go.of st352 ?_
    show Go p e s below _ _ _ _ T352 (mkF m 78 #[.val (.int p1), .val (.int p2), .val (.int p3), .val (.int (3 : Int32)), .val (.ref o313), .val (.ref o328), .unset, .unset, .unset, .unset] [(.int (1 : Int32))])
    refine Go.of (fun _ hr => XS.pop X352.here hx rfl (hb hby at_78) rfl rfl hr) ?_
    show Go p e s below _ _ _ _ T352 (mkF m 79 #[.val (.int p1), .val (.int p2), .val (.int p3), .val (.int (3 : Int32)), .val (.ref o313), .val (.ref o328), .unset, .unset, .unset, .unset] [])
    obtain ⟨T355, h355, X355, e355, E355, A355, D355, -, st355⟩ := newO X352 hx hZ hown (hw _ (List.mem_of_getElem? (i := 70) rfl)) (hw _ (List.mem_of_getElem? (i := 71) rfl)) (hw _ (List.mem_of_getElem? (i := 72) rfl)) e352 (g := (mkF m 79 #[.val (.int p1), .val (.int p2), .val (.int p3), .val (.int (3 : Int32)), .val (.ref o313), .val (.ref o328), .unset, .unset, .unset, .unset] [])) rfl (hb hby at_79) (by decide) (by decide)
    obtain ⟨o355, g355⟩ : ∃ z, z = h352.size := ⟨_, rfl⟩
    rw [← g355] at A355 D355 st355
    have f356 := (((f342.keep Kq338).keep Kq349).keep Kq352)
    have ne_wD_o355 : wD ≠ o355 := Nat.ne_of_lt (Nat.lt_of_lt_of_le f356.lt (Nat.le_of_eq g355.symm))
    have f357 := (((f343.keep Kq338).keep Kq349).keep Kq352)
    have ne_wL_o355 : wL ≠ o355 := Nat.ne_of_lt (Nat.lt_of_lt_of_le f357.lt (Nat.le_of_eq g355.symm))
    have f358 := (((f344.keep Kq338 (ninS ne_elL_o328 nin0)).keep Kq349 (ninS ne_elL_o328 (ninS ne_elL_d338 nin0))).keep Kq352 (ninS ne_elL_o328 (ninS ne_elL_d338 nin0)))
    have ne_elL_o355 : elL ≠ o355 := Nat.ne_of_lt (Nat.lt_of_lt_of_le f358.lt (Nat.le_of_eq g355.symm))
    have f359 := (f354.keep Kq352)
    have ne_o313_o355 : o313 ≠ o355 := Nat.ne_of_lt (Nat.lt_of_lt_of_le f359.lt (Nat.le_of_eq g355.symm))
    have f360 := (((f345.keep Kq338).keep Kq349).keep Kq352)
    have ne_r314_o355 : r314 ≠ o355 := Nat.ne_of_lt (Nat.lt_of_lt_of_le f360.lt (Nat.le_of_eq g355.symm))
    have f361 := (((f346.keep Kq338 (ninS ne_t314_o328 nin0)).keep Kq349 (ninS ne_t314_o328 (ninS ne_t314_d338 nin0))).keep Kq352 (ninS ne_t314_o328 (ninS ne_t314_d338 nin0)))
    have ne_t314_o355 : t314 ≠ o355 := Nat.ne_of_lt (Nat.lt_of_lt_of_le f361.lt (Nat.le_of_eq g355.symm))
    have f362 := (((f347.keep Kq338).keep Kq349).keep Kq352)
    have ne_r318_o355 : r318 ≠ o355 := Nat.ne_of_lt (Nat.lt_of_lt_of_le f362.lt (Nat.le_of_eq g355.symm))
    have f363 := (((f348.keep Kq338 (ninS ne_t318_o328 nin0)).keep Kq349 (ninS ne_t318_o328 (ninS ne_t318_d338 nin0))).keep Kq352 (ninS ne_t318_o328 (ninS ne_t318_d338 nin0)))
    have ne_t318_o355 : t318 ≠ o355 := Nat.ne_of_lt (Nat.lt_of_lt_of_le f363.lt (Nat.le_of_eq g355.symm))
    have f364 := (f353.keep Kq352)
    have ne_o328_o355 : o328 ≠ o355 := Nat.ne_of_lt (Nat.lt_of_lt_of_le f364.lt (Nat.le_of_eq g355.symm))
    have ne_d338_o355 : d338 ≠ o355 := Nat.ne_of_lt (Nat.lt_of_lt_of_le Ed352.lt (Nat.le_of_eq g355.symm))
    have lt355 : o355 < h355.size := A355.lt
    have J355 := J352.add E355 g355 lt355
    have B355 := B352.mono E355.1
    have O355 := O352.ext E355
    have sz355 : h0.size ≤ o355 := Nat.le_trans K352.1 (Nat.le_of_eq g355.symm)
    have fr355 : h0.size ≤ o355 := sz355
    have K355 := K352.ext E355
    have F355_errors : Fld Z h355 o355 "com/example/dispatcher/dispatcher/web/BindingResult" "errors" "Ljava/util/List;" .null := D355 (Or.inr (hw _ (List.mem_of_getElem? (i := 107) rfl))) (ty := (.object "java/util/List")) (by decide)
    refine Go.of (fun _ hr => st355 _ hr) ?_
    show Go p e s below _ _ _ _ T355 (mkF m 82 #[.val (.int p1), .val (.int p2), .val (.int p3), .val (.int (3 : Int32)), .val (.ref o313), .val (.ref o328), .unset, .unset, .unset, .unset] [(.ref o355)])
    refine Go.of (fun _ hr => XS.dup X355.here hx rfl (hb hby at_82) rfl rfl hr) ?_
    show Go p e s below _ _ _ _ T355 (mkF m 83 #[.val (.int p1), .val (.int p2), .val (.int p3), .val (.int (3 : Int32)), .val (.ref o313), .val (.ref o328), .unset, .unset, .unset, .unset] [(.ref o355), (.ref o355)])
    refine Go.of (fun _ hr => XS.aload X355.here hx rfl (hb hby at_83) rfl rfl hr) ?_
    show Go p e s below _ _ _ _ T355 (mkF m 85 #[.val (.int p1), .val (.int p2), .val (.int p3), .val (.int (3 : Int32)), .val (.ref o313), .val (.ref o328), .unset, .unset, .unset, .unset] [(.ref o328), (.ref o355), (.ref o355)])
    have f366 := (f364.ext E355)
    have f367 := (Fc352.ext E355)
    have f368 := (Fb352.ext E355)
    have f369 := (Ed352.ext E355)
    have f370 := (Vd352.ext E355)
    have f371 := (f359.ext E355)
    obtain ⟨_, b365, T365, h365, L365, e365, Cc365, X365, B365, J365, g365, hQ365, st365⟩ := own_callI Cc352 B355 J355 X355 rfl (hw _ (List.mem_of_getElem? (i := 73) rfl)) (hw _ (List.mem_of_getElem? (i := 74) rfl)) (hw _ (List.mem_of_getElem? (i := 72) rfl)) (hw _ (List.mem_of_getElem? (i := 75) rfl)) (by decide) (rmB_3 l Z a0 hw [] o355 o328 o313 mr wE wL d338 _ _ _ h355 n0 O355 h0.size (own_ole O0) K355.1 fr355 trivial S_E S_L M A355 F355_errors f366 f367 ne_o328_o355 f368 f369 f370 f371 ne_d338_o355 ne_o313_o355) e355 (g := (mkF m 85 #[.val (.int p1), .val (.int p2), .val (.int p3), .val (.int (3 : Int32)), .val (.ref o313), .val (.ref o328), .unset, .unset, .unset, .unset] [(.ref o328), (.ref o355), (.ref o355)])) rfl (by rw [hml]; rfl) (argsL := [(.ref o328)]) (rest := [(.ref o355)]) (lenOf pd21 rfl) rfl (W := 1) (by show 2 * 0 + _ ≤ _; exact Nat.le_of_eq rfl) (hb hby at_85) (by decide) (by decide) (by decide) (by decide)
    have f372 := (f356.ext E355)
    have f373 := (f357.ext E355)
    have f374 := (f358.ext E355)
    have f375 := (f360.ext E355)
    have f376 := (f361.ext E355)
    have f377 := (f362.ext E355)
    have f378 := (f363.ext E355)
    obtain ⟨rfl, Nq365, Kq365, r365, el365, ke365, R_r365, R_el365, Er365, Fe365, Ve365, Fr365⟩ := hQ365
    have N365 := Fr.app N352 Nq365
    obtain ⟨hx, hZ, hown, hby, hml, hnm, hret, hlk⟩ := id Cc365
    have sz_r365 : h0.size ≤ r365 := Nat.le_trans K355.1 R_r365
    have fr_r365 : h0.size ≤ r365 := sz_r365
    have ne_wD_r365 : wD ≠ r365 := Nat.ne_of_lt (Nat.lt_of_lt_of_le f372.lt R_r365)
    have ne_wL_r365 : wL ≠ r365 := Nat.ne_of_lt (Nat.lt_of_lt_of_le f373.lt R_r365)
    have ne_elL_r365 : elL ≠ r365 := Nat.ne_of_lt (Nat.lt_of_lt_of_le f374.lt R_r365)
    have ne_o313_r365 : o313 ≠ r365 := Nat.ne_of_lt (Nat.lt_of_lt_of_le f371.lt R_r365)
    have ne_r314_r365 : r314 ≠ r365 := Nat.ne_of_lt (Nat.lt_of_lt_of_le f375.lt R_r365)
    have ne_t314_r365 : t314 ≠ r365 := Nat.ne_of_lt (Nat.lt_of_lt_of_le f376.lt R_r365)
    have ne_r318_r365 : r318 ≠ r365 := Nat.ne_of_lt (Nat.lt_of_lt_of_le f377.lt R_r365)
    have ne_t318_r365 : t318 ≠ r365 := Nat.ne_of_lt (Nat.lt_of_lt_of_le f378.lt R_r365)
    have ne_o328_r365 : o328 ≠ r365 := Nat.ne_of_lt (Nat.lt_of_lt_of_le f366.lt R_r365)
    have ne_d338_r365 : d338 ≠ r365 := Nat.ne_of_lt (Nat.lt_of_lt_of_le f369.lt R_r365)
    have ne_o355_r365 : o355 ≠ r365 := Nat.ne_of_lt (Nat.lt_of_lt_of_le A355.lt R_r365)
    have sz_el365 : h0.size ≤ el365 := Nat.le_trans K355.1 R_el365
    have fr_el365 : h0.size ≤ el365 := sz_el365
    have ne_wD_el365 : wD ≠ el365 := Nat.ne_of_lt (Nat.lt_of_lt_of_le f372.lt R_el365)
    have ne_wL_el365 : wL ≠ el365 := Nat.ne_of_lt (Nat.lt_of_lt_of_le f373.lt R_el365)
    have ne_elL_el365 : elL ≠ el365 := Nat.ne_of_lt (Nat.lt_of_lt_of_le f374.lt R_el365)
    have ne_o313_el365 : o313 ≠ el365 := Nat.ne_of_lt (Nat.lt_of_lt_of_le f371.lt R_el365)
    have ne_r314_el365 : r314 ≠ el365 := Nat.ne_of_lt (Nat.lt_of_lt_of_le f375.lt R_el365)
    have ne_t314_el365 : t314 ≠ el365 := Nat.ne_of_lt (Nat.lt_of_lt_of_le f376.lt R_el365)
    have ne_r318_el365 : r318 ≠ el365 := Nat.ne_of_lt (Nat.lt_of_lt_of_le f377.lt R_el365)
    have ne_t318_el365 : t318 ≠ el365 := Nat.ne_of_lt (Nat.lt_of_lt_of_le f378.lt R_el365)
    have ne_o328_el365 : o328 ≠ el365 := Nat.ne_of_lt (Nat.lt_of_lt_of_le f366.lt R_el365)
    have ne_d338_el365 : d338 ≠ el365 := Nat.ne_of_lt (Nat.lt_of_lt_of_le f369.lt R_el365)
    have ne_o355_el365 : o355 ≠ el365 := Nat.ne_of_lt (Nat.lt_of_lt_of_le A355.lt R_el365)
    have K365 := K355.trans Kq365 (allS (Or.inr sz355) all0)
    have O365 := O355.keep Kq365 (allS (Nat.le_trans (own_ole O0) fr355) all0)
    refine Go.of st365 ?_
    show Go p e s below _ _ _ _ T365 (mkF m 88 #[.val (.int p1), .val (.int p2), .val (.int p3), .val (.int (3 : Int32)), .val (.ref o313), .val (.ref o328), .unset, .unset, .unset, .unset] [(.ref o355)])
    refine Go.of (fun _ hr => XS.astore X365.here hx rfl (hb hby at_88) rfl rfl (l' := #[.val (.int p1), .val (.int p2), .val (.int p3), .val (.int (3 : Int32)), .val (.ref o313), .val (.ref o328), .val (.ref o355), .unset, .unset, .unset]) rfl hr) ?_
    show Go p e s below _ _ _ _ T365 (mkF m 90 #[.val (.int p1), .val (.int p2), .val (.int p3), .val (.int (3 : Int32)), .val (.ref o313), .val (.ref o328), .val (.ref o355), .unset, .unset, .unset] [])
    refine Go.of (fun _ hr => XS.iloadN X365.here hx rfl (hb hby at_90) rfl  hr) ?_
    show Go p e s below _ _ _ _ T365 (mkF m 91 #[.val (.int p1), .val (.int p2), .val (.int p3), .val (.int (3 : Int32)), .val (.ref o313), .val (.ref o328), .val (.ref o355), .unset, .unset, .unset] [(.int (3 : Int32))])
    refine Go.of (fun _ hr => XS.ifNo X365.here hx rfl (hb hby at_91) rfl ((if0 _ _).trans (tlt (by decide : ((0 : Int32) < (3 : Int32)))).2.2.2) hr) ?_
    show Go p e s below _ _ _ _ T365 (mkF m 94 #[.val (.int p1), .val (.int p2), .val (.int p3), .val (.int (3 : Int32)), .val (.ref o313), .val (.ref o328), .val (.ref o355), .unset, .unset, .unset] [])
    refine Go.of (fun _ hr => XS.iconst X365.here hx rfl (hb hby at_94) hr) ?_
    show Go p e s below _ _ _ _ T365 (mkF m 95 #[.val (.int p1), .val (.int p2), .val (.int p3), .val (.int (3 : Int32)), .val (.ref o313), .val (.ref o328), .val (.ref o355), .unset, .unset, .unset] [(.int (1 : Int32))])
    refine Go.of (fun _ hr => XS.goto X365.here hx rfl (pc0 := 95) (pc' := 99) rfl (hb hby at_95) (by decide) (by decide) hr) ?_
    show Go p e s below _ _ _ _ T365 (mkF m 99 #[.val (.int p1), .val (.int p2), .val (.int p3), .val (.int (3 : Int32)), .val (.ref o313), .val (.ref o328), .val (.ref o355), .unset, .unset, .unset] [(.int (1 : Int32))])
    refine Go.of (fun _ hr => XS.istore X365.here hx rfl (hb hby at_99) rfl (l' := #[.val (.int p1), .val (.int p2), .val (.int p3), .val (.int (3 : Int32)), .val (.ref o313), .val (.ref o328), .val (.ref o355), .val (.int (1 : Int32)), .unset, .unset]) rfl hr) ?_
    show Go p e s below _ _ _ _ T365 (mkF m 101 #[.val (.int p1), .val (.int p2), .val (.int p3), .val (.int (3 : Int32)), .val (.ref o313), .val (.ref o328), .val (.ref o355), .val (.int (1 : Int32)), .unset, .unset] [])
    refine Go.of (fun _ hr => XS.aload X365.here hx rfl (hb hby at_101) rfl rfl hr) ?_
    show Go p e s below _ _ _ _ T365 (mkF m 103 #[.val (.int p1), .val (.int p2), .val (.int p3), .val (.int (3 : Int32)), .val (.ref o313), .val (.ref o328), .val (.ref o355), .val (.int (1 : Int32)), .unset, .unset] [(.ref o355)])
    have f380 := (A355.keep Kq365)
    obtain ⟨_, b379, T379, h379, L379, e379, Cc379, X379, B379, J379, g379, hQ379, st379⟩ := own_callV Cc365 B365 J365 X365 (hw _ (List.mem_of_getElem? (i := 108) rfl)) (hw _ (List.mem_of_getElem? (i := 109) rfl)) (notFace_of_selects (args := #[]) (mvT hZ (hw _ (List.mem_of_getElem? (i := 111) rfl)))) (hw _ (List.mem_of_getElem? (i := 111) rfl)) (hw _ (List.mem_of_getElem? (i := 110) rfl)) (hw _ (List.mem_of_getElem? (i := 72) rfl)) (hw _ (List.mem_of_getElem? (i := 112) rfl)) (by decide) f380 (rmH_3 l Z a0 hw [] o355 r365 el365 o313 _ _ h365 n0 O365 h0.size (own_ole O0) K365.1 Fr365 Er365 Fe365 Ve365) e365 (g := (mkF m 103 #[.val (.int p1), .val (.int p2), .val (.int p3), .val (.int (3 : Int32)), .val (.ref o313), .val (.ref o328), .val (.ref o355), .val (.int (1 : Int32)), .unset, .unset] [(.ref o355)])) rfl (by rw [hml]; rfl) (argsL := []) (rest := []) (lenOf pd16 rfl) rfl (W := 0) (by show 2 * 0 + _ ≤ _; exact Nat.le_of_eq rfl) (hb hby at_103) (by decide) (by decide) (by decide) (by decide)
    obtain ⟨rfl, Nq379, hh379⟩ := hQ379
    have N379 := Fr.app N365 Nq379
    obtain ⟨hx, hZ, hown, hby, hml, hnm, hret, hlk⟩ := id Cc379
    rw [hh379] at e379 B379 J379
    refine Go.of st379 ?_
    show Go p e s below _ _ _ _ T379 (mkF m 106 #[.val (.int p1), .val (.int p2), .val (.int p3), .val (.int (3 : Int32)), .val (.ref o313), .val (.ref o328), .val (.ref o355), .val (.int (1 : Int32)), .unset, .unset] [(.int (1 : Int32))])
    refine Go.of (fun _ hr => XS.istore X379.here hx rfl (hb hby at_106) rfl (l' := #[.val (.int p1), .val (.int p2), .val (.int p3), .val (.int (3 : Int32)), .val (.ref o313), .val (.ref o328), .val (.ref o355), .val (.int (1 : Int32)), .val (.int (1 : Int32)), .unset]) rfl hr) ?_
    show Go p e s below _ _ _ _ T379 (mkF m 108 #[.val (.int p1), .val (.int p2), .val (.int p3), .val (.int (3 : Int32)), .val (.ref o313), .val (.ref o328), .val (.ref o355), .val (.int (1 : Int32)), .val (.int (1 : Int32)), .unset] [])
    refine Go.of (fun _ hr => XS.aload X379.here hx rfl (hb hby at_108) rfl rfl hr) ?_
    show Go p e s below _ _ _ _ T379 (mkF m 110 #[.val (.int p1), .val (.int p2), .val (.int p3), .val (.int (3 : Int32)), .val (.ref o313), .val (.ref o328), .val (.ref o355), .val (.int (1 : Int32)), .val (.int (1 : Int32)), .unset] [(.ref o328)])
    refine Go.of (fun _ hr => XS.aload X379.here hx rfl (hb hby at_110) rfl rfl hr) ?_
    show Go p e s below _ _ _ _ T379 (mkF m 112 #[.val (.int p1), .val (.int p2), .val (.int p3), .val (.int (3 : Int32)), .val (.ref o313), .val (.ref o328), .val (.ref o355), .val (.int (1 : Int32)), .val (.int (1 : Int32)), .unset] [(.ref o313), (.ref o328)])
    have f382 := ((Fa352.ext E355).keep Kq365 (ninS ne_o328_o355 nin0))
    have f383 := (f368.keep Kq365 (ninS ne_o328_o355 nin0))
    have f384 := (f367.keep Kq365 (ninS ne_o328_o355 nin0))
    have f385 := (f366.keep Kq365)
    have f386 := (f369.keep Kq365)
    have f387 := (f370.keep Kq365 (ninS ne_d338_o355 nin0))
    have f388 := (f371.keep Kq365)
    obtain ⟨_, b381, T381, h381, L381, e381, Cc381, X381, B381, J381, g381, hQ381, st381⟩ := own_callV Cc379 B379 J379 X379 (hw _ (List.mem_of_getElem? (i := 125) rfl)) (hw _ (List.mem_of_getElem? (i := 126) rfl)) (notFace_of_selects (args := #[]) (mvT hZ (hw _ (List.mem_of_getElem? (i := 128) rfl)))) (hw _ (List.mem_of_getElem? (i := 128) rfl)) (hw _ (List.mem_of_getElem? (i := 127) rfl)) (hw _ (List.mem_of_getElem? (i := 48) rfl)) (hw _ (List.mem_of_getElem? (i := 129) rfl)) (by decide) f385 (rmA1_3 l Z a0 hw [] o328 o313 d338 _ (3 : Int32) _ h365 n0 O365 h0.size (own_ole O0) K365.1 fr328 trivial fr_d338 trivial f385 f382 f383 f384 f386 f387 Od338 (Ne.symm ne_o328_d338) ne_o313_d338 f388 ne_o313_o328) e379 (g := (mkF m 112 #[.val (.int p1), .val (.int p2), .val (.int p3), .val (.int (3 : Int32)), .val (.ref o313), .val (.ref o328), .val (.ref o355), .val (.int (1 : Int32)), .val (.int (1 : Int32)), .unset] [(.ref o313), (.ref o328)])) rfl (by rw [hml]; rfl) (argsL := [(.ref o313)]) (rest := []) (lenOf pd22 rfl) rfl (W := 0) (by show 2 * 0 + _ ≤ _; exact Nat.le_of_eq rfl) (hb hby at_112) (by decide) (by decide) (by decide) (by decide)
    obtain ⟨rfl, Nq381, Kq381, Fa381, Fb381, Fc381, Ed381, Vd381⟩ := hQ381
    have N381 := Fr.app N379 Nq381
    obtain ⟨hx, hZ, hown, hby, hml, hnm, hret, hlk⟩ := id Cc381
    have K381 := K365.trans Kq381 (allS (Or.inr sz328) (allS (Or.inr sz_d338) all0))
    have O381 := O365.keep Kq381 (allS (Nat.le_trans (own_ole O0) fr328) (allS (Nat.le_trans (own_ole O0) fr_d338) all0))
    refine Go.of st381 ?_
    show Go p e s below _ _ _ _ T381 (mkF m 115 #[.val (.int p1), .val (.int p2), .val (.int p3), .val (.int (3 : Int32)), .val (.ref o313), .val (.ref o328), .val (.ref o355), .val (.int (1 : Int32)), .val (.int (1 : Int32)), .unset] [(.int (1 : Int32))])
    refine Go.of (fun _ hr => XS.pop X381.here hx rfl (hb hby at_115) rfl rfl hr) ?_
    show Go p e s below _ _ _ _ T381 (mkF m 116 #[.val (.int p1), .val (.int p2), .val (.int p3), .val (.int (3 : Int32)), .val (.ref o313), .val (.ref o328), .val (.ref o355), .val (.int (1 : Int32)), .val (.int (1 : Int32)), .unset] [])
    refine Go.of (fun _ hr => XS.aload X381.here hx rfl (hb hby at_116) rfl rfl hr) ?_
    show Go p e s below _ _ _ _ T381 (mkF m 118 #[.val (.int p1), .val (.int p2), .val (.int p3), .val (.int (3 : Int32)), .val (.ref o313), .val (.ref o328), .val (.ref o355), .val (.int (1 : Int32)), .val (.int (1 : Int32)), .unset] [(.ref o355)])
    have f390 := (Fr365.keep Kq381 (ninS (Ne.symm ne_o328_o355) (ninS (Ne.symm ne_d338_o355) nin0)))
    have f391 := (Er365.keep Kq381)
    have f392 := (Fe365.keep Kq381 (ninS (Ne.symm ne_o328_r365) (ninS (Ne.symm ne_d338_r365) nin0)))
    have f393 := (Ve365.keep Kq381 (ninS (Ne.symm ne_o328_el365) (ninS (Ne.symm ne_d338_el365) nin0)))
    have f394 := (f380.keep Kq381)
    obtain ⟨_, b389, T389, h389, L389, e389, Cc389, X389, B389, J389, g389, hQ389, st389⟩ := own_callV Cc381 B381 J381 X381 (hw _ (List.mem_of_getElem? (i := 108) rfl)) (hw _ (List.mem_of_getElem? (i := 109) rfl)) (notFace_of_selects (args := #[]) (mvT hZ (hw _ (List.mem_of_getElem? (i := 111) rfl)))) (hw _ (List.mem_of_getElem? (i := 111) rfl)) (hw _ (List.mem_of_getElem? (i := 110) rfl)) (hw _ (List.mem_of_getElem? (i := 72) rfl)) (hw _ (List.mem_of_getElem? (i := 112) rfl)) (by decide) f394 (rmH_3 l Z a0 hw [] o355 r365 el365 o313 _ _ h381 n0 O381 h0.size (own_ole O0) K381.1 f390 f391 f392 f393) e381 (g := (mkF m 118 #[.val (.int p1), .val (.int p2), .val (.int p3), .val (.int (3 : Int32)), .val (.ref o313), .val (.ref o328), .val (.ref o355), .val (.int (1 : Int32)), .val (.int (1 : Int32)), .unset] [(.ref o355)])) rfl (by rw [hml]; rfl) (argsL := []) (rest := []) (lenOf pd16 rfl) rfl (W := 0) (by show 2 * 0 + _ ≤ _; exact Nat.le_of_eq rfl) (hb hby at_118) (by decide) (by decide) (by decide) (by decide)
    obtain ⟨rfl, Nq389, hh389⟩ := hQ389
    have N389 := Fr.app N381 Nq389
    obtain ⟨hx, hZ, hown, hby, hml, hnm, hret, hlk⟩ := id Cc389
    rw [hh389] at e389 B389 J389
    refine Go.of st389 ?_
    show Go p e s below _ _ _ _ T389 (mkF m 121 #[.val (.int p1), .val (.int p2), .val (.int p3), .val (.int (3 : Int32)), .val (.ref o313), .val (.ref o328), .val (.ref o355), .val (.int (1 : Int32)), .val (.int (1 : Int32)), .unset] [(.int (1 : Int32))])
    refine Go.of (fun _ hr => XS.istore X389.here hx rfl (hb hby at_121) rfl (l' := #[.val (.int p1), .val (.int p2), .val (.int p3), .val (.int (3 : Int32)), .val (.ref o313), .val (.ref o328), .val (.ref o355), .val (.int (1 : Int32)), .val (.int (1 : Int32)), .val (.int (1 : Int32))]) rfl hr) ?_
    show Go p e s below _ _ _ _ T389 (mkF m 123 #[.val (.int p1), .val (.int p2), .val (.int p3), .val (.int (3 : Int32)), .val (.ref o313), .val (.ref o328), .val (.ref o355), .val (.int (1 : Int32)), .val (.int (1 : Int32)), .val (.int (1 : Int32))] [])
    refine Go.of (fun _ hr => XS.iload X389.here hx rfl (hb hby at_123) rfl  hr) ?_
    show Go p e s below _ _ _ _ T389 (mkF m 125 #[.val (.int p1), .val (.int p2), .val (.int p3), .val (.int (3 : Int32)), .val (.ref o313), .val (.ref o328), .val (.ref o355), .val (.int (1 : Int32)), .val (.int (1 : Int32)), .val (.int (1 : Int32))] [(.int (1 : Int32))])
    refine Go.of (fun _ hr => XS.iload X389.here hx rfl (hb hby at_125) rfl  hr) ?_
    show Go p e s below _ _ _ _ T389 (mkF m 127 #[.val (.int p1), .val (.int p2), .val (.int p3), .val (.int (3 : Int32)), .val (.ref o313), .val (.ref o328), .val (.ref o355), .val (.int (1 : Int32)), .val (.int (1 : Int32)), .val (.int (1 : Int32))] [(.int (1 : Int32)), (.int (1 : Int32))])
    refine Go.of (fun _ hr => XS.icmpNo X389.here hx rfl (hb hby at_127) rfl (teq (by decide : ((1 : Int32) = (1 : Int32)))).2 hr) ?_
    show Go p e s below _ _ _ _ T389 (mkF m 130 #[.val (.int p1), .val (.int p2), .val (.int p3), .val (.int (3 : Int32)), .val (.ref o313), .val (.ref o328), .val (.ref o355), .val (.int (1 : Int32)), .val (.int (1 : Int32)), .val (.int (1 : Int32))] [])
    refine Go.of (fun _ hr => XS.iload X389.here hx rfl (hb hby at_130) rfl  hr) ?_
    show Go p e s below _ _ _ _ T389 (mkF m 132 #[.val (.int p1), .val (.int p2), .val (.int p3), .val (.int (3 : Int32)), .val (.ref o313), .val (.ref o328), .val (.ref o355), .val (.int (1 : Int32)), .val (.int (1 : Int32)), .val (.int (1 : Int32))] [(.int (1 : Int32))])
    refine Go.of (fun _ hr => XS.iload X389.here hx rfl (hb hby at_132) rfl  hr) ?_
    show Go p e s below _ _ _ _ T389 (mkF m 134 #[.val (.int p1), .val (.int p2), .val (.int p3), .val (.int (3 : Int32)), .val (.ref o313), .val (.ref o328), .val (.ref o355), .val (.int (1 : Int32)), .val (.int (1 : Int32)), .val (.int (1 : Int32))] [(.int (1 : Int32)), (.int (1 : Int32))])
    refine Go.of (fun _ hr => XS.icmpNo X389.here hx rfl (hb hby at_134) rfl (teq (by decide : ((1 : Int32) = (1 : Int32)))).2 hr) ?_
    show Go p e s below _ _ _ _ T389 (mkF m 137 #[.val (.int p1), .val (.int p2), .val (.int p3), .val (.int (3 : Int32)), .val (.ref o313), .val (.ref o328), .val (.ref o355), .val (.int (1 : Int32)), .val (.int (1 : Int32)), .val (.int (1 : Int32))] [])
    refine Go.of (fun _ hr => XS.iconst X389.here hx rfl (hb hby at_137) hr) ?_
    show Go p e s below _ _ _ _ T389 (mkF m 138 #[.val (.int p1), .val (.int p2), .val (.int p3), .val (.int (3 : Int32)), .val (.ref o313), .val (.ref o328), .val (.ref o355), .val (.int (1 : Int32)), .val (.int (1 : Int32)), .val (.int (1 : Int32))] [(.int (1 : Int32))])
    refine Go.of (fun _ hr => XS.goto X389.here hx rfl (pc0 := 138) (pc' := 142) rfl (hb hby at_138) (by decide) (by decide) hr) ?_
    show Go p e s below _ _ _ _ T389 (mkF m 142 #[.val (.int p1), .val (.int p2), .val (.int p3), .val (.int (3 : Int32)), .val (.ref o313), .val (.ref o328), .val (.ref o355), .val (.int (1 : Int32)), .val (.int (1 : Int32)), .val (.int (1 : Int32))] [(.int (1 : Int32))])
    exact Go.retN X389 hx hlk B389 (J389.sub fun x hx => (List.mem_cons_of_mem _ (List.mem_cons_of_mem _ (List.mem_cons_of_mem _ hx)))) e389 (t := .boolean) (z' := (1 : Int32)) hret (by simp) (hb hby at_142) rfl (by decide) (by decide) (fun vm_ hw_ => ⟨rfl, (fun y hy => Nat.le_trans hnb (N389 y hy))⟩)

theorem own_emp {s : State} {args : Array Value} {t : Term} {a : Addr} {ty : FieldType} (ev : t.eval args s none [] s = some (.ref a)) (h1 : (Jvm.Cond.arrayOf t ty).value args s none s [] = some true) (h2 : (Jvm.Cond.eq (.length t) (.int 0)).value args s none s [] = some true) (hr : refKind ty = true) : ∃ k, Arv s s.heap a k ty 0 [] .null := by
  obtain ⟨c, A⟩ := Arr.start ev h1
  have hl := own_eqI h2
  have hA : s.arrayAt? a = some c := A.fin (Vm.Alike.refl _)
  have q := Jvm.Free.SBG.length_lt ev hA hl
  have e := Value.int.inj (Option.some.inj ((len_f ev hA q).symm.trans hl))
  have z : c.slots.size = 0 := by
    have r := congrArg Int32.toInt e
    rw [len_toInt q, Int32.toInt_zero] at r
    omega
  exact ⟨c.cls, c, A, rfl, by rw [z]; rfl, by decide, fun i hi => by omega, fun i hi => by omega⟩

set_option maxRecDepth 65536 in
set_option maxHeartbeats 40000000 in
theorem comes_1 {Post : Tables → Env → Array Value → State → Outcome → State → Prop} (hpost : ∀ tb e args s v u, (limb_1_1.after args s (.returned v) u = true ∧ limb_1_2.after args s (.returned v) u = true ∧ True) → ReturnedEndW s (.returned v) u (Jvm.fieldLocs frame_1_writes args s ++ Jvm.arrayLocs frame_1_arrays args s ++ Jvm.staticLocs frame_1_statics s) 40 2240 → Post tb e args s (.returned v) u) :
    ArmFor flags0 classFile x code maxLocals ret World_1 tables_1 room_1 Calls_1 rest_1 Pre_1 Post := by
  intro l hfl _ _ p e ha hc hk s m args below hf hA hF happ hP
  obtain ⟨hcalls, hrest, hpre⟩ := hP
  obtain ⟨-, -, -, hnamed, -, -, -, hat⟩ := (Spec.applies_iff hf).mp happ
  obtain ⟨hg, hn⟩ := and_e (Cond.before_iff.mp (show (Jvm.Cond.and given_1 narrow_1).before args s = true from hpre))
  have hw := fun d (hd : d ∈ tables_1) => atoms_spec (ws := Jvm.Cond.code x code maxLocals ret :: tables_1) hat d (List.mem_cons_of_mem _ hd)
  obtain ⟨hsets, hown0⟩ := atoms_of _ (rest_1_c_eq ▸ (show rest_1_c.before _ s = true from hrest))
  have hfit : Fit s := fun {y c} hc i hi => by
    obtain ⟨ha, rfl⟩ := Array.getElem?_eq_some_iff.mp hc
    have q := List.all_eq_true.mp ((Array.all_eq_true_iff_forall_mem.mp hF) _ (Array.getElem_mem ha)) i (List.mem_range.mpr hi)
    simpa [Array.getElem?_eq_getElem hi] using q
  obtain ⟨hg0, hg⟩ := and_e hg
  obtain ⟨hg1, hg⟩ := and_e hg
  obtain ⟨hg2, hg⟩ := and_e hg
  obtain ⟨w0, w1, w2, rfl⟩ : ∃ w0 w1 w2 : Value, args = #[w0, w1, w2] := by
    have hs : args.size = 3 := by simpa [Cond.value] using hg0
    obtain ⟨L⟩ := args
    match L, hs with
    | [w0, w1, w2], _ => exact ⟨w0, w1, w2, rfl⟩
  obtain ⟨i0, ev0⟩ := is_v hg1
  obtain rfl : w0 = (.int i0) := Option.some.inj ev0
  obtain ⟨i1, ev1⟩ := is_v hg2
  obtain rfl : w1 = (.int i1) := Option.some.inj ev1
  obtain ⟨i2, ev2⟩ := is_v hg
  obtain rfl : w2 = (.int i2) := Option.some.inj ev2
  obtain ⟨zc, evC⟩ := is_v (Cond.before_iff.mp (hsets _ (List.mem_of_getElem? (i := 1) rfl)))
  have S_C : Sta s s.heap "java/lang/String" "COMPACT_STRINGS" "Z" (.int zc) := Sta.start evC (Or.inl (hsets _ (List.mem_of_getElem? (i := 0) rfl)))
  have hzc : ¬ (zc = (0 : Int32)) := gotF (Cond.eq_ints evC (Term.int_eval (0))) (not_v (Cond.before_iff.mp (hsets _ (List.mem_of_getElem? (i := 2) rfl))))
  have hJ : Hd s [] s.vm s.heap := trivial
  obtain ⟨⟨cm, km, mr, m1, m2, m3⟩, -⟩ := hcalls
  have M : Mr s "[Ljava/lang/Object;" mr := ⟨cm, km, m1, m2, m3.1⟩
  obtain ⟨wD, evD⟩ := exa_v (Cond.before_iff.mp (hsets _ (List.mem_of_getElem? (i := 16) rfl)))
  have ED := Exa.start evD (Cond.before_iff.mp (hsets _ (List.mem_of_getElem? (i := 16) rfl)))
  have S_D : Sta s s.heap "java/util/ArrayList" "DEFAULTCAPACITY_EMPTY_ELEMENTDATA" "[Ljava/lang/Object;" (.ref wD) := Sta.start evD (Or.inr ⟨(hw _ (List.mem_of_getElem? (i := 48) rfl)), (hsets _ (List.mem_of_getElem? (i := 11) rfl))⟩)
  obtain ⟨kD, VD⟩ := own_emp evD (Cond.before_iff.mp (hsets _ (List.mem_of_getElem? (i := 15) rfl))) (Cond.before_iff.mp (hsets _ (List.mem_of_getElem? (i := 17) rfl))) rfl
  obtain ⟨wL, evL⟩ := exa_v (Cond.before_iff.mp (hsets _ (List.mem_of_getElem? (i := 20) rfl)))
  have EL := Exa.start evL (Cond.before_iff.mp (hsets _ (List.mem_of_getElem? (i := 20) rfl)))
  have S_L : Sta s s.heap "java/util/ImmutableCollections" "EMPTY_LIST" "Ljava/util/ImmutableCollections$ListN;" (.ref wL) := Sta.start evL (Or.inl (hsets _ (List.mem_of_getElem? (i := 19) rfl)))
  obtain ⟨elL, evLe⟩ := arr_v (Cond.before_iff.mp (hsets _ (List.mem_of_getElem? (i := 21) rfl)))
  have FLe := Fld.start ((fld_at evL).symm.trans evLe)
  obtain ⟨kL, VL⟩ := own_emp evLe (Cond.before_iff.mp (hsets _ (List.mem_of_getElem? (i := 21) rfl))) (Cond.before_iff.mp (hsets _ (List.mem_of_getElem? (i := 23) rfl))) rfl
  obtain ⟨wE, evE⟩ := exa_v (Cond.before_iff.mp (hsets _ (List.mem_of_getElem? (i := 27) rfl)))
  have S_E : Sta s s.heap "java/util/ImmutableCollections" "EMPTY" "Ljava/lang/Object;" (.ref wE) := Sta.start evE (Or.inl (hsets _ (List.mem_of_getElem? (i := 26) rfl)))
  obtain ⟨n, o, h1, h2, h3, _, L, rfl, ⟨rfl, N⟩, -, hq⟩ := rm0 l s _ hw tables_1 i0 i1 i2 zc mr wE wL wD elL kD kL [] s.heap s.heap.size (Old.start s) s.heap.size (Nat.le_refl _) (Nat.le_refl _) S_C hzc S_E S_L M S_D ED VD EL FLe VL p e ha hc hk s m _ below hf ((Spec.applies_iff_loose hf).mp happ).1 ⟨rfl, State.Warmed39.refl s, rfl, hJ⟩ trivial
  refine ⟨n, _, h1, h2, h3, hpost _ _ _ _ _ _ ⟨Cond.after_iff.mpr rfl, Cond.after_iff.mpr (eq_i res_at (Term.int_eval (1)) rfl), trivial⟩ ⟨hq.1, hq.2.1, hq.2.2.1, (hq.2.2.2.sift fun y hy => Or.inr (N y hy)).mono (by decide) (by decide)⟩⟩
theorem main_1_1 : Claimed_1_1 := comes_1 fun _ _ _ _ _ _ h hF => ⟨h.1, hF⟩
theorem main_1_2 : Claimed_1_2 := comes_1 fun _ _ _ _ _ _ h hF => ⟨h.2.1, hF⟩

end Jvm.Pilot.@@N@@
namespace Jvm.Pilot.@@N@@
open Jvm Jvm.ClassFile Sem Op Lib Jvm.Free Jvm.Stand Jvm.Pilot.@@N@@.Jvm.D
/-! MADE BY PROGRAM (witnessworld.py) out of the Statement's table words and the real class files: 37 classes; the members and pool entries that the words name. The judged class is class 1, her method 1. -/
namespace start1
open Jvm.ClassFile
def u (s : String) : CpInfo := .utf8 (stringToUtf16 s)
/-- a pool by its gaps: so many unusable entries, then the entry; so many at the end -/
def gap : Nat → List CpInfo → List CpInfo
  | 0, r => r
  | n + 1, r => .unusable :: gap n r
def poolList (es : List (Nat × CpInfo)) (last : Nat) : List CpInfo := es.foldr (fun e r => gap e.1 (e.2 :: r)) (gap last [])
def pool (es : List (Nat × CpInfo)) (last : Nat) : Array CpInfo := ⟨poolList es last⟩
def fileOf (pool : Array CpInfo) (this : Nat) (attrs : Array Attribute := #[]) (ms : Array MethodInfo := #[]) (fl : Nat := 33) (sup : Nat := 0) (ifs : Array Nat := #[]) (fds : Array FieldInfo := #[]) : ClassFile where
  minorVersion := 0
  majorVersion := 65
  constantPool := pool
  accessFlags := fl
  thisClass := this
  superClass := sup
  interfaces := ifs
  fields := fds
  methods := ms
  attributes := attrs
def plain (name : String) (sup : Option ClassId) : Class where
  name := name
  kind := .ordinary
  loader := none
  accessFlags := 33
  super := sup
  interfaces := #[]
  cf := none
  fields := #[]
  methods := #[]
  instanceTypes := #[]
  staticTypes := #[]
  resolved := #[]
  callSites := []
  init := .initialized
  statics := none
  mirror := none

def pool0 : Array CpInfo := pool [(5, u "<init>"), (0, u "()V"), (1, .class_ 10), (1, u "java/lang/Object"), (0, u "getClass"), (0, u "()Ljava/lang/Class;")] 111

def k0c0 : Code := { maxStack := 0, maxLocals := 1, code := object_method_1_code, exceptionTable := #[], attributes := #[] }
def k0m0 : Method := { name := "<init>", desc := "()V", sig := { parameters := [], returnType := none }, accessFlags := 1, code := some k0c0 }
def k0m1 : Method := { name := "getClass", desc := "()Ljava/lang/Class;", sig := { parameters := [], returnType := some (.object "java/lang/Class") }, accessFlags := 273, code := none }
/-- java/lang/Object -/
def k0 : Class := { plain "java/lang/Object" none with
  accessFlags := 33
  interfaces := #[]
  cf := some (fileOf pool0 8 #[] #[{ accessFlags := 1, nameIndex := 5, descriptorIndex := 6, attributes := #[] }, { accessFlags := 273, nameIndex := 11, descriptorIndex := 12, attributes := #[] }] 33 0 #[] #[])
  fields := #[]
  methods := #[k0m0, k0m1]
  instanceTypes := #[]
  staticTypes := #[]
  resolved := Array.replicate 124 none
  statics := none }

def pool1 : Array CpInfo := pool [(2, .class_ 4), (0, .nameAndType 5 6), (0, u "java/lang/Object"), (0, u "<init>"), (0, u "()V"), (0, .class_ 8), (0, u "com/example/dispatcher/dispatcher/web/FieldError"), (0, .methodref 10 11), (0, .class_ 12), (0, .nameAndType 13 14), (0, u "java/lang/String"), (0, u "valueOf"), (0, u "(C)Ljava/lang/String;"), (0, .methodref 7 16), (0, .nameAndType 5 17), (0, u "(Ljava/lang/String;Ljava/lang/String;)V"), (0, .class_ 19), (0, u "java/util/ArrayList"), (0, .methodref 18 3), (0, .methodref 18 22), (0, .nameAndType 23 24), (0, u "add"), (0, u "(Ljava/lang/Object;)Z"), (0, .class_ 26), (0, u "com/example/dispatcher/dispatcher/web/BindingResult"), (0, .methodref 25 28), (0, .nameAndType 5 29), (0, u "(Ljava/util/List;)V"), (0, .methodref 25 31), (0, .nameAndType 32 33), (0, u "hasErrors"), (0, u "()Z"), (0, .class_ 35), (0, u "com/example/dispatcher/dispatcher/web/BindingResultHasErrorsPinLaw"), (2, u "law"), (0, u "(III)Z")] 3

def k1m0 : Method := { name := "<init>", desc := "()V", sig := { parameters := [], returnType := none }, accessFlags := 1, code := none }
def k1c1 : Code := { maxStack := 5, maxLocals := 10, code := code, exceptionTable := #[], attributes := #[] }
def k1m1 : Method := { name := "law", desc := "(III)Z", sig := { parameters := [.int, .int, .int], returnType := some .boolean }, accessFlags := 9, code := some k1c1 }
/-- com/example/dispatcher/dispatcher/web/BindingResultHasErrorsPinLaw -/
def k1 : Class := { plain "com/example/dispatcher/dispatcher/web/BindingResultHasErrorsPinLaw" (some 0) with
  accessFlags := 49
  interfaces := #[]
  cf := some (fileOf pool1 34 #[] #[{ accessFlags := 1, nameIndex := 5, descriptorIndex := 6, attributes := #[] }, { accessFlags := 9, nameIndex := 38, descriptorIndex := 39, attributes := #[] }] 49 2 #[] #[])
  fields := #[]
  methods := #[k1m0, k1m1]
  instanceTypes := #[]
  staticTypes := #[]
  resolved := Array.replicate 43 none
  statics := none }

def pool2 : Array CpInfo := pool [(1, .methodref 2 3), (0, .class_ 4), (0, .nameAndType 5 6), (0, u "java/lang/Object"), (0, u "<init>"), (0, u "()V"), (0, .string 8), (0, u "field"), (0, .methodref 10 11), (0, .class_ 12), (0, .nameAndType 13 14), (0, u "java/util/Objects"), (0, u "requireNonNull"), (0, u "(Ljava/lang/Object;Ljava/lang/String;)Ljava/lang/Object;"), (0, .class_ 16), (0, u "java/lang/String"), (0, .fieldref 18 19), (0, .class_ 20), (0, .nameAndType 8 21), (0, u "com/example/dispatcher/dispatcher/web/FieldError"), (0, u "Ljava/lang/String;"), (0, .string 23), (0, u "message"), (0, .fieldref 18 25), (0, .nameAndType 23 21), (4, u "(Ljava/lang/String;Ljava/lang/String;)V")] 23

def k2c0 : Code := { maxStack := 3, maxLocals := 3, code := prog_72_method_1_code, exceptionTable := #[], attributes := #[] }
def k2m0 : Method := { name := "<init>", desc := "(Ljava/lang/String;Ljava/lang/String;)V", sig := { parameters := [(.object "java/lang/String"), (.object "java/lang/String")], returnType := none }, accessFlags := 1, code := some k2c0 }
/-- com/example/dispatcher/dispatcher/web/FieldError -/
def k2 : Class := { plain "com/example/dispatcher/dispatcher/web/FieldError" (some 0) with
  accessFlags := 49
  interfaces := #[]
  cf := some (fileOf pool2 18 #[] #[{ accessFlags := 1, nameIndex := 5, descriptorIndex := 30, attributes := #[] }] 49 2 #[] #[{ accessFlags := 18, nameIndex := 8, descriptorIndex := 21, attributes := #[] }, { accessFlags := 18, nameIndex := 23, descriptorIndex := 21, attributes := #[] }])
  fields := #[{ name := "field", type := (.object "java/lang/String"), accessFlags := 18, slot := 0, constantValue := 0 }, { name := "message", type := (.object "java/lang/String"), accessFlags := 18, slot := 1, constantValue := 0 }]
  methods := #[k2m0]
  instanceTypes := #[(.object "java/lang/String"), (.object "java/lang/String")]
  staticTypes := #[]
  resolved := Array.replicate 54 none
  statics := none }

def pool3 : Array CpInfo := pool [(1, .class_ 2), (0, u "java/io/Serializable"), (0, .class_ 4), (0, u "java/lang/Object")] 2

/-- java/io/Serializable -/
def k3 : Class := { plain "java/io/Serializable" (some 0) with
  accessFlags := 1537
  interfaces := #[]
  cf := some (fileOf pool3 1 #[] #[] 1537 3 #[] #[])
  fields := #[]
  methods := #[]
  instanceTypes := #[]
  staticTypes := #[]
  resolved := Array.replicate 7 none
  statics := none }

def pool4 : Array CpInfo := pool [(1, .class_ 2), (0, u "java/lang/Comparable"), (0, .class_ 4), (0, u "java/lang/Object")] 7

/-- java/lang/Comparable -/
def k4 : Class := { plain "java/lang/Comparable" (some 0) with
  accessFlags := 1537
  interfaces := #[]
  cf := some (fileOf pool4 1 #[] #[] 1537 3 #[] #[])
  fields := #[]
  methods := #[]
  instanceTypes := #[]
  staticTypes := #[]
  resolved := Array.replicate 12 none
  statics := none }

def pool5 : Array CpInfo := pool [(2, .class_ 4), (1, u "java/lang/CharSequence"), (42, .class_ 48), (0, u "java/lang/CharSequence$1CodePointIterator"), (10, .class_ 60), (0, u "java/lang/CharSequence$1CharIterator"), (5, .class_ 67), (0, u "java/lang/Object")] 63

/-- java/lang/CharSequence -/
def k5 : Class := { plain "java/lang/CharSequence" (some 0) with
  accessFlags := 1537
  interfaces := #[]
  cf := some (fileOf pool5 2 #[.nestMembers #[47, 59]] #[] 1537 66 #[] #[])
  fields := #[]
  methods := #[]
  instanceTypes := #[]
  staticTypes := #[]
  resolved := Array.replicate 131 none
  statics := none }

def pool6 : Array CpInfo := pool [(1, .class_ 2), (0, u "java/lang/constant/Constable"), (0, .class_ 4), (0, u "java/lang/Object")] 6

/-- java/lang/constant/Constable -/
def k6 : Class := { plain "java/lang/constant/Constable" (some 0) with
  accessFlags := 1537
  interfaces := #[]
  cf := some (fileOf pool6 1 #[] #[] 1537 3 #[] #[])
  fields := #[]
  methods := #[]
  instanceTypes := #[]
  staticTypes := #[]
  resolved := Array.replicate 11 none
  statics := none }

def pool7 : Array CpInfo := pool [(1, .class_ 2), (0, u "java/lang/constant/ConstantDesc"), (0, .class_ 4), (0, u "java/lang/Object")] 32

/-- java/lang/constant/ConstantDesc -/
def k7 : Class := { plain "java/lang/constant/ConstantDesc" (some 0) with
  accessFlags := 1537
  interfaces := #[]
  cf := some (fileOf pool7 1 #[] #[] 1537 3 #[] #[])
  fields := #[]
  methods := #[]
  instanceTypes := #[]
  staticTypes := #[]
  resolved := Array.replicate 37 none
  statics := none }

def pool8 : Array CpInfo := pool [(1, .methodref 2 3), (0, .class_ 4), (0, .nameAndType 5 6), (0, u "java/lang/Object"), (0, u "<init>"), (0, u "()V"), (2, .fieldref 10 11), (0, .class_ 12), (0, .nameAndType 13 14), (0, u "java/lang/String"), (0, u "value"), (0, u "[B"), (0, .fieldref 10 16), (0, .nameAndType 17 18), (0, u "coder"), (0, u "B"), (2, u "hash"), (0, u "I"), (2, u "hashIsZero"), (0, u "Z"), (11, .fieldref 10 39), (0, .nameAndType 40 26), (0, u "COMPACT_STRINGS"), (12, u "toBytes"), (53, .class_ 109), (1, u "java/lang/StringLatin1"), (99, .methodref 10 210), (0, .nameAndType 5 211), (0, u "([BB)V"), (157, u "(C)Z"), (205, .class_ 576), (0, u "java/lang/CharSequence"), (22, u "CASE_INSENSITIVE_ORDER"), (0, u "Ljava/util/Comparator;"), (181, u "valueOf"), (0, u "(C)Ljava/lang/String;"), (231, .methodref 107 1016), (0, .nameAndType 1017 369), (0, u "canEncode"), (0, .methodref 107 1019), (0, .nameAndType 53 1020), (0, u "(C)[B"), (80, u "serialPersistentFields"), (0, u "[Ljava/io/ObjectStreamField;"), (0, .class_ 1104), (0, u "java/lang/String$CaseInsensitiveComparator"), (1, .class_ 1107), (0, u "java/io/Serializable"), (0, .class_ 1109), (0, u "java/lang/Comparable"), (0, .class_ 1111), (0, u "java/lang/constant/Constable"), (0, .class_ 1113), (0, u "java/lang/constant/ConstantDesc"), (2, u "serialVersionUID"), (0, u "J"), (3, u "REPL"), (0, u "C"), (2, u "LATIN1"), (1, u "UTF16")] 323

def k8m0 : Method := { name := "<init>", desc := "()V", sig := { parameters := [], returnType := none }, accessFlags := 1, code := none }
def k8c1 : Code := { maxStack := 4, maxLocals := 1, code := jdk_42_method_139_code, exceptionTable := #[], attributes := #[] }
def k8m1 : Method := { name := "valueOf", desc := "(C)Ljava/lang/String;", sig := { parameters := [.char], returnType := some (.object "java/lang/String") }, accessFlags := 9, code := some k8c1 }
def k8c2 : Code := { maxStack := 2, maxLocals := 3, code := jdk_42_method_151_code, exceptionTable := #[], attributes := #[] }
def k8m2 : Method := { name := "<init>", desc := "([BB)V", sig := { parameters := [(.array .byte), .byte], returnType := none }, accessFlags := 0, code := some k8c2 }
/-- java/lang/String -/
def k8 : Class := { plain "java/lang/String" (some 0) with
  accessFlags := 49
  interfaces := #[3, 4, 5, 6, 7]
  cf := some (fileOf pool8 10 #[.nestMembers #[1103]] #[{ accessFlags := 1, nameIndex := 5, descriptorIndex := 6, attributes := #[] }, { accessFlags := 9, nameIndex := 782, descriptorIndex := 783, attributes := #[] }, { accessFlags := 0, nameIndex := 5, descriptorIndex := 211, attributes := #[] }] 49 2 #[1106, 1108, 575, 1110, 1112] #[{ accessFlags := 18, nameIndex := 13, descriptorIndex := 14, attributes := #[] }, { accessFlags := 18, nameIndex := 17, descriptorIndex := 18, attributes := #[] }, { accessFlags := 2, nameIndex := 21, descriptorIndex := 22, attributes := #[] }, { accessFlags := 2, nameIndex := 25, descriptorIndex := 26, attributes := #[] }, { accessFlags := 26, nameIndex := 1116, descriptorIndex := 1117, attributes := #[] }, { accessFlags := 24, nameIndex := 40, descriptorIndex := 26, attributes := #[] }, { accessFlags := 26, nameIndex := 1101, descriptorIndex := 1102, attributes := #[] }, { accessFlags := 26, nameIndex := 1121, descriptorIndex := 1122, attributes := #[] }, { accessFlags := 25, nameIndex := 599, descriptorIndex := 600, attributes := #[] }, { accessFlags := 24, nameIndex := 1125, descriptorIndex := 18, attributes := #[] }, { accessFlags := 24, nameIndex := 1127, descriptorIndex := 18, attributes := #[] }])
  fields := #[{ name := "value", type := (.array .byte), accessFlags := 18, slot := 0, constantValue := 0 }, { name := "coder", type := .byte, accessFlags := 18, slot := 1, constantValue := 0 }, { name := "hash", type := .int, accessFlags := 2, slot := 2, constantValue := 0 }, { name := "hashIsZero", type := .boolean, accessFlags := 2, slot := 3, constantValue := 0 }, { name := "serialVersionUID", type := .long, accessFlags := 26, slot := 0, constantValue := 0 }, { name := "COMPACT_STRINGS", type := .boolean, accessFlags := 24, slot := 1, constantValue := 0 }, { name := "serialPersistentFields", type := (.array (.object "java/io/ObjectStreamField")), accessFlags := 26, slot := 2, constantValue := 0 }, { name := "REPL", type := .char, accessFlags := 26, slot := 3, constantValue := 0 }, { name := "CASE_INSENSITIVE_ORDER", type := (.object "java/util/Comparator"), accessFlags := 25, slot := 4, constantValue := 0 }, { name := "LATIN1", type := .byte, accessFlags := 24, slot := 5, constantValue := 0 }, { name := "UTF16", type := .byte, accessFlags := 24, slot := 6, constantValue := 0 }]
  methods := #[k8m0, k8m1, k8m2]
  instanceTypes := #[(.array .byte), .byte, .int, .boolean]
  staticTypes := #[.long, .boolean, (.array (.object "java/io/ObjectStreamField")), .char, (.object "java/util/Comparator"), .byte, .byte]
  resolved := Array.replicate 1451 none
  statics := some 0 }

def pool9 : Array CpInfo := pool [(4, .class_ 6), (1, u "java/lang/Object"), (0, u "<init>"), (0, u "()V"), (5, .class_ 16), (1, u "java/lang/StringLatin1"), (73, u "canEncode"), (14, u "(C)Z"), (15, u "$assertionsDisabled"), (0, u "Z"), (98, .class_ 223), (1, u "java/lang/StringLatin1$LinesSpliterator"), (156, u "toBytes"), (1, u "(C)[B"), (7, .class_ 391), (0, u "java/lang/StringLatin1$CharsSpliterator")] 3

def k9m0 : Method := { name := "<init>", desc := "()V", sig := { parameters := [], returnType := none }, accessFlags := 0, code := none }
def k9c1 : Code := { maxStack := 2, maxLocals := 1, code := jdk_43_method_3_code, exceptionTable := #[], attributes := #[] }
def k9m1 : Method := { name := "canEncode", desc := "(C)Z", sig := { parameters := [.char], returnType := some .boolean }, accessFlags := 9, code := some k9c1 }
def k9c2 : Code := { maxStack := 4, maxLocals := 1, code := jdk_43_method_46_code, exceptionTable := #[], attributes := #[] }
def k9m2 : Method := { name := "toBytes", desc := "(C)[B", sig := { parameters := [.char], returnType := some (.array .byte) }, accessFlags := 9, code := some k9c2 }
/-- java/lang/StringLatin1 -/
def k9 : Class := { plain "java/lang/StringLatin1" (some 0) with
  accessFlags := 48
  interfaces := #[]
  cf := some (fileOf pool9 14 #[.nestMembers #[390, 221]] #[{ accessFlags := 0, nameIndex := 7, descriptorIndex := 8, attributes := #[] }, { accessFlags := 9, nameIndex := 90, descriptorIndex := 105, attributes := #[] }, { accessFlags := 9, nameIndex := 380, descriptorIndex := 382, attributes := #[] }] 48 4 #[] #[{ accessFlags := 4120, nameIndex := 121, descriptorIndex := 122, attributes := #[] }])
  fields := #[{ name := "$assertionsDisabled", type := .boolean, accessFlags := 4120, slot := 0, constantValue := 0 }]
  methods := #[k9m0, k9m1, k9m2]
  instanceTypes := #[]
  staticTypes := #[.boolean]
  resolved := Array.replicate 395 none
  statics := none }

def pool10 : Array CpInfo := pool [(2, .class_ 4), (1, u "java/lang/Object"), (0, u "<init>"), (0, u "()V"), (35, .class_ 44), (1, u "java/util/Objects"), (0, u "requireNonNull"), (0, u "(Ljava/lang/Object;)Ljava/lang/Object;"), (47, u "(Ljava/lang/Object;Ljava/lang/String;)Ljava/lang/Object;")] 89

def k10m0 : Method := { name := "<init>", desc := "()V", sig := { parameters := [], returnType := none }, accessFlags := 2, code := none }
def k10c1 : Code := { maxStack := 2, maxLocals := 1, code := jdk_31_method_10_code, exceptionTable := #[], attributes := #[] }
def k10m1 : Method := { name := "requireNonNull", desc := "(Ljava/lang/Object;)Ljava/lang/Object;", sig := { parameters := [(.object "java/lang/Object")], returnType := some (.object "java/lang/Object") }, accessFlags := 9, code := some k10c1 }
def k10c2 : Code := { maxStack := 3, maxLocals := 2, code := jdk_31_method_11_code, exceptionTable := #[], attributes := #[] }
def k10m2 : Method := { name := "requireNonNull", desc := "(Ljava/lang/Object;Ljava/lang/String;)Ljava/lang/Object;", sig := { parameters := [(.object "java/lang/Object"), (.object "java/lang/String")], returnType := some (.object "java/lang/Object") }, accessFlags := 9, code := some k10c2 }
/-- java/util/Objects -/
def k10 : Class := { plain "java/util/Objects" (some 0) with
  accessFlags := 49
  interfaces := #[]
  cf := some (fileOf pool10 42 #[] #[{ accessFlags := 2, nameIndex := 5, descriptorIndex := 6, attributes := #[] }, { accessFlags := 9, nameIndex := 45, descriptorIndex := 46, attributes := #[] }, { accessFlags := 9, nameIndex := 45, descriptorIndex := 94, attributes := #[] }] 49 2 #[] #[])
  fields := #[]
  methods := #[k10m0, k10m1, k10m2]
  instanceTypes := #[]
  staticTypes := #[]
  resolved := Array.replicate 184 none
  statics := none }

def pool11 : Array CpInfo := pool [(8, .class_ 10), (1, u "java/lang/Iterable"), (24, .class_ 36), (0, u "java/lang/Object")] 25

/-- java/lang/Iterable -/
def k11 : Class := { plain "java/lang/Iterable" (some 0) with
  accessFlags := 1537
  interfaces := #[]
  cf := some (fileOf pool11 8 #[] #[] 1537 35 #[] #[])
  fields := #[]
  methods := #[]
  instanceTypes := #[]
  staticTypes := #[]
  resolved := Array.replicate 62 none
  statics := none }

def pool12 : Array CpInfo := pool [(10, .class_ 12), (1, u "java/util/Collection"), (0, u "toArray"), (16, u "()Z"), (29, .class_ 61), (0, u "java/lang/Object"), (0, .class_ 63), (0, u "java/lang/Iterable"), (2, u "isEmpty"), (3, u "()[Ljava/lang/Object;")] 44

def k12m0 : Method := { name := "isEmpty", desc := "()Z", sig := { parameters := [], returnType := some .boolean }, accessFlags := 1025, code := none }
def k12m1 : Method := { name := "toArray", desc := "()[Ljava/lang/Object;", sig := { parameters := [], returnType := some (.array (.object "java/lang/Object")) }, accessFlags := 1025, code := none }
/-- java/util/Collection -/
def k12 : Class := { plain "java/util/Collection" (some 0) with
  accessFlags := 1537
  interfaces := #[11]
  cf := some (fileOf pool12 10 #[] #[{ accessFlags := 1025, nameIndex := 66, descriptorIndex := 30, attributes := #[] }, { accessFlags := 1025, nameIndex := 13, descriptorIndex := 70, attributes := #[] }] 1537 60 #[62] #[])
  fields := #[]
  methods := #[k12m0, k12m1]
  instanceTypes := #[]
  staticTypes := #[]
  resolved := Array.replicate 115 none
  statics := none }

def pool13 : Array CpInfo := pool [(1, .methodref 2 3), (0, .class_ 4), (0, .nameAndType 5 6), (0, u "java/lang/Object"), (0, u "<init>"), (0, u "()V"), (1, .class_ 10), (1, u "java/util/AbstractCollection"), (66, .class_ 78), (0, u "java/util/Collection")] 81

def k13c0 : Code := { maxStack := 1, maxLocals := 1, code := jdk_22_method_1_code, exceptionTable := #[], attributes := #[] }
def k13m0 : Method := { name := "<init>", desc := "()V", sig := { parameters := [], returnType := none }, accessFlags := 4, code := some k13c0 }
/-- java/util/AbstractCollection -/
def k13 : Class := { plain "java/util/AbstractCollection" (some 0) with
  accessFlags := 1057
  interfaces := #[12]
  cf := some (fileOf pool13 8 #[] #[{ accessFlags := 4, nameIndex := 5, descriptorIndex := 6, attributes := #[] }] 1057 2 #[77] #[])
  fields := #[]
  methods := #[k13m0]
  instanceTypes := #[]
  staticTypes := #[]
  resolved := Array.replicate 160 none
  statics := none }

def pool14 : Array CpInfo := pool [(8, .class_ 10), (1, u "java/util/SequencedCollection"), (15, .class_ 27), (0, u "java/lang/Object"), (0, .class_ 29), (0, u "java/util/Collection")] 27

/-- java/util/SequencedCollection -/
def k14 : Class := { plain "java/util/SequencedCollection" (some 0) with
  accessFlags := 1537
  interfaces := #[12]
  cf := some (fileOf pool14 8 #[] #[] 1537 26 #[28] #[])
  fields := #[]
  methods := #[]
  instanceTypes := #[]
  staticTypes := #[]
  resolved := Array.replicate 57 none
  statics := none }

def pool15 : Array CpInfo := pool [(8, .class_ 10), (1, u "java/util/List"), (7, u "()Z"), (12, u "(Ljava/lang/Object;)V"), (16, u "<init>"), (18, u "isEmpty"), (20, u "of"), (1, .fieldref 91 92), (0, .class_ 93), (0, .nameAndType 94 95), (0, u "java/util/ImmutableCollections"), (0, u "EMPTY_LIST"), (0, u "Ljava/util/ImmutableCollections$ListN;"), (0, .class_ 97), (0, u "java/util/ImmutableCollections$List12"), (0, .methodref 96 99), (0, .nameAndType 48 31), (0, .methodref 96 101), (0, .nameAndType 48 102), (0, u "(Ljava/lang/Object;Ljava/lang/Object;)V"), (0, .class_ 104), (0, u "java/lang/Object"), (3, u "([Ljava/lang/Object;)Ljava/util/List;"), (0, .methodref 91 110), (0, .nameAndType 111 108), (0, u "listFromArray"), (0, .methodref 91 113), (0, .nameAndType 114 115), (0, u "listCopy"), (0, u "(Ljava/util/Collection;)Ljava/util/List;"), (3, u "()Ljava/util/List;"), (0, .class_ 121), (0, u "java/util/SequencedCollection"), (112, u "copyOf")] 16

def k15m0 : Method := { name := "isEmpty", desc := "()Z", sig := { parameters := [], returnType := some .boolean }, accessFlags := 1025, code := none }
def k15c1 : Code := { maxStack := 1, maxLocals := 0, code := jdk_40_method_36_code, exceptionTable := #[], attributes := #[] }
def k15m1 : Method := { name := "of", desc := "()Ljava/util/List;", sig := { parameters := [], returnType := some (.object "java/util/List") }, accessFlags := 9, code := some k15c1 }
def k15c2 : Code := { maxStack := 5, maxLocals := 2, code := jdk_40_method_47_code, exceptionTable := #[], attributes := #[] }
def k15m2 : Method := { name := "of", desc := "([Ljava/lang/Object;)Ljava/util/List;", sig := { parameters := [(.array (.object "java/lang/Object"))], returnType := some (.object "java/util/List") }, accessFlags := 137, code := some k15c2 }
def k15c3 : Code := { maxStack := 1, maxLocals := 1, code := jdk_40_method_48_code, exceptionTable := #[], attributes := #[] }
def k15m3 : Method := { name := "copyOf", desc := "(Ljava/util/Collection;)Ljava/util/List;", sig := { parameters := [(.object "java/util/Collection")], returnType := some (.object "java/util/List") }, accessFlags := 9, code := some k15c3 }
/-- java/util/List -/
def k15 : Class := { plain "java/util/List" (some 0) with
  accessFlags := 1537
  interfaces := #[14]
  cf := some (fileOf pool15 8 #[] #[{ accessFlags := 1025, nameIndex := 67, descriptorIndex := 18, attributes := #[] }, { accessFlags := 9, nameIndex := 88, descriptorIndex := 119, attributes := #[] }, { accessFlags := 137, nameIndex := 88, descriptorIndex := 108, attributes := #[] }, { accessFlags := 9, nameIndex := 234, descriptorIndex := 115, attributes := #[] }] 1537 103 #[120] #[])
  fields := #[]
  methods := #[k15m0, k15m1, k15m2, k15m3]
  instanceTypes := #[]
  staticTypes := #[]
  resolved := Array.replicate 251 none
  statics := none }

def pool16 : Array CpInfo := pool [(1, .methodref 2 3), (0, .class_ 4), (0, .nameAndType 5 6), (0, u "java/util/AbstractCollection"), (0, u "<init>"), (0, u "()V"), (0, .fieldref 8 9), (0, .class_ 10), (0, .nameAndType 11 12), (0, u "java/util/AbstractList"), (0, u "modCount"), (0, u "I"), (64, .class_ 78), (0, u "java/util/AbstractList$Itr"), (3, .class_ 83), (0, u "java/util/AbstractList$ListItr"), (9, .class_ 94), (0, u "java/util/AbstractList$RandomAccessSubList"), (3, .class_ 99), (0, u "java/util/AbstractList$SubList"), (33, .class_ 134), (0, u "java/util/List"), (73, .class_ 209), (0, u "java/util/AbstractList$SubList$1"), (0, .class_ 211), (0, u "java/util/AbstractList$RandomAccessSpliterator")] 6

def k16c0 : Code := { maxStack := 2, maxLocals := 1, code := jdk_39_method_1_code, exceptionTable := #[], attributes := #[] }
def k16m0 : Method := { name := "<init>", desc := "()V", sig := { parameters := [], returnType := none }, accessFlags := 4, code := some k16c0 }
/-- java/util/AbstractList -/
def k16 : Class := { plain "java/util/AbstractList" (some 13) with
  accessFlags := 1057
  interfaces := #[15]
  cf := some (fileOf pool16 8 #[.nestMembers #[93, 98, 208, 210, 82, 77]] #[{ accessFlags := 4, nameIndex := 5, descriptorIndex := 6, attributes := #[] }] 1057 2 #[133] #[{ accessFlags := 132, nameIndex := 11, descriptorIndex := 12, attributes := #[] }])
  fields := #[{ name := "modCount", type := .int, accessFlags := 132, slot := 0, constantValue := 0 }]
  methods := #[k16m0]
  instanceTypes := #[.int]
  staticTypes := #[]
  resolved := Array.replicate 218 none
  statics := none }

def pool17 : Array CpInfo := pool [(1, .class_ 2), (0, u "java/util/RandomAccess"), (0, .class_ 4), (0, u "java/lang/Object")] 2

/-- java/util/RandomAccess -/
def k17 : Class := { plain "java/util/RandomAccess" (some 0) with
  accessFlags := 1537
  interfaces := #[]
  cf := some (fileOf pool17 1 #[] #[] 1537 3 #[] #[])
  fields := #[]
  methods := #[]
  instanceTypes := #[]
  staticTypes := #[]
  resolved := Array.replicate 7 none
  statics := none }

def pool18 : Array CpInfo := pool [(1, .class_ 2), (0, u "java/lang/Cloneable"), (0, .class_ 4), (0, u "java/lang/Object")] 2

/-- java/lang/Cloneable -/
def k18 : Class := { plain "java/lang/Cloneable" (some 0) with
  accessFlags := 1537
  interfaces := #[]
  cf := some (fileOf pool18 1 #[] #[] 1537 3 #[] #[])
  fields := #[]
  methods := #[]
  instanceTypes := #[]
  staticTypes := #[]
  resolved := Array.replicate 7 none
  statics := none }

def pool19 : Array CpInfo := pool [(1, .methodref 2 3), (0, .class_ 4), (0, .nameAndType 5 6), (0, u "java/util/AbstractList"), (0, u "<init>"), (0, u "()V"), (0, .class_ 8), (0, u "java/lang/Object"), (0, .fieldref 10 11), (0, .class_ 12), (0, .nameAndType 13 14), (0, u "java/util/ArrayList"), (0, u "elementData"), (0, u "[Ljava/lang/Object;"), (2, u "EMPTY_ELEMENTDATA"), (21, .fieldref 10 40), (0, .nameAndType 41 14), (0, u "DEFAULTCAPACITY_EMPTY_ELEMENTDATA"), (4, u "toArray"), (0, u "()[Ljava/lang/Object;"), (0, .fieldref 10 49), (0, .nameAndType 50 51), (0, u "size"), (0, u "I"), (6, .class_ 60), (1, u "java/util/Arrays"), (0, u "copyOf"), (1, .fieldref 10 64), (0, .nameAndType 65 51), (0, u "modCount"), (0, .methodref 58 67), (0, .nameAndType 61 68), (0, u "([Ljava/lang/Object;I)[Ljava/lang/Object;"), (0, .methodref 10 70), (0, .nameAndType 71 72), (0, u "grow"), (0, u "(I)[Ljava/lang/Object;"), (6, .methodref 80 81), (0, .class_ 82), (0, .nameAndType 83 84), (0, u "java/lang/Math"), (0, u "max"), (0, u "(II)I"), (11, u "(Ljava/lang/Object;)Z"), (32, .methodref 10 130), (0, .nameAndType 71 47), (0, .methodref 10 132), (0, .nameAndType 133 134), (0, u "add"), (0, u "(Ljava/lang/Object;[Ljava/lang/Object;I)V"), (13, .class_ 149), (0, u "java/util/List"), (23, u "()Z"), (88, .class_ 263), (0, u "java/util/ArrayList$ListItr"), (3, .class_ 268), (0, u "java/util/ArrayList$Itr"), (7, .class_ 277), (0, u "java/util/ArrayList$SubList"), (12, .class_ 291), (0, u "java/util/ArrayList$ArrayListSpliterator"), (37, .class_ 330), (0, u "java/util/RandomAccess"), (0, .class_ 332), (0, u "java/lang/Cloneable"), (0, .class_ 334), (0, u "java/io/Serializable"), (0, u "serialVersionUID"), (0, u "J"), (3, u "DEFAULT_CAPACITY"), (22, u "isEmpty"), (136, .class_ 501), (0, u "java/util/ArrayList$SubList$2"), (0, .class_ 503), (0, u "java/util/ArrayList$SubList$1")] 5

def k19c0 : Code := { maxStack := 2, maxLocals := 1, code := jdk_38_method_2_code, exceptionTable := #[], attributes := #[] }
def k19m0 : Method := { name := "<init>", desc := "()V", sig := { parameters := [], returnType := none }, accessFlags := 1, code := some k19c0 }
def k19c1 : Code := { maxStack := 4, maxLocals := 4, code := jdk_38_method_6_code, exceptionTable := #[], attributes := #[] }
def k19m1 : Method := { name := "grow", desc := "(I)[Ljava/lang/Object;", sig := { parameters := [.int], returnType := some (.array (.object "java/lang/Object")) }, accessFlags := 2, code := some k19c1 }
def k19c2 : Code := { maxStack := 3, maxLocals := 1, code := jdk_38_method_7_code, exceptionTable := #[], attributes := #[] }
def k19m2 : Method := { name := "grow", desc := "()[Ljava/lang/Object;", sig := { parameters := [], returnType := some (.array (.object "java/lang/Object")) }, accessFlags := 2, code := some k19c2 }
def k19c3 : Code := { maxStack := 1, maxLocals := 1, code := jdk_38_method_9_code, exceptionTable := #[], attributes := #[] }
def k19m3 : Method := { name := "isEmpty", desc := "()Z", sig := { parameters := [], returnType := some .boolean }, accessFlags := 1, code := some k19c3 }
def k19c4 : Code := { maxStack := 2, maxLocals := 1, code := jdk_38_method_16_code, exceptionTable := #[], attributes := #[] }
def k19m4 : Method := { name := "toArray", desc := "()[Ljava/lang/Object;", sig := { parameters := [], returnType := some (.array (.object "java/lang/Object")) }, accessFlags := 1, code := some k19c4 }
def k19c5 : Code := { maxStack := 3, maxLocals := 4, code := jdk_38_method_24_code, exceptionTable := #[], attributes := #[] }
def k19m5 : Method := { name := "add", desc := "(Ljava/lang/Object;[Ljava/lang/Object;I)V", sig := { parameters := [(.object "java/lang/Object"), (.array (.object "java/lang/Object")), .int], returnType := none }, accessFlags := 2, code := some k19c5 }
def k19c6 : Code := { maxStack := 4, maxLocals := 2, code := jdk_38_method_25_code, exceptionTable := #[], attributes := #[] }
def k19m6 : Method := { name := "add", desc := "(Ljava/lang/Object;)Z", sig := { parameters := [(.object "java/lang/Object")], returnType := some .boolean }, accessFlags := 1, code := some k19c6 }
/-- java/util/ArrayList -/
def k19 : Class := { plain "java/util/ArrayList" (some 16) with
  accessFlags := 33
  interfaces := #[15, 17, 18, 3]
  cf := some (fileOf pool19 10 #[.nestMembers #[290, 276, 500, 502, 262, 267]] #[{ accessFlags := 1, nameIndex := 5, descriptorIndex := 6, attributes := #[] }, { accessFlags := 2, nameIndex := 71, descriptorIndex := 72, attributes := #[] }, { accessFlags := 2, nameIndex := 71, descriptorIndex := 47, attributes := #[] }, { accessFlags := 1, nameIndex := 363, descriptorIndex := 173, attributes := #[] }, { accessFlags := 1, nameIndex := 46, descriptorIndex := 47, attributes := #[] }, { accessFlags := 2, nameIndex := 133, descriptorIndex := 134, attributes := #[] }, { accessFlags := 1, nameIndex := 133, descriptorIndex := 96, attributes := #[] }] 33 2 #[148, 329, 331, 333] #[{ accessFlags := 26, nameIndex := 335, descriptorIndex := 336, attributes := #[] }, { accessFlags := 26, nameIndex := 340, descriptorIndex := 51, attributes := #[] }, { accessFlags := 26, nameIndex := 17, descriptorIndex := 14, attributes := #[] }, { accessFlags := 26, nameIndex := 41, descriptorIndex := 14, attributes := #[] }, { accessFlags := 128, nameIndex := 13, descriptorIndex := 14, attributes := #[] }, { accessFlags := 2, nameIndex := 50, descriptorIndex := 51, attributes := #[] }])
  fields := #[{ name := "serialVersionUID", type := .long, accessFlags := 26, slot := 0, constantValue := 0 }, { name := "DEFAULT_CAPACITY", type := .int, accessFlags := 26, slot := 1, constantValue := 0 }, { name := "EMPTY_ELEMENTDATA", type := (.array (.object "java/lang/Object")), accessFlags := 26, slot := 2, constantValue := 0 }, { name := "DEFAULTCAPACITY_EMPTY_ELEMENTDATA", type := (.array (.object "java/lang/Object")), accessFlags := 26, slot := 3, constantValue := 0 }, { name := "elementData", type := (.array (.object "java/lang/Object")), accessFlags := 128, slot := 1, constantValue := 0 }, { name := "size", type := .int, accessFlags := 2, slot := 2, constantValue := 0 }]
  methods := #[k19m0, k19m1, k19m2, k19m3, k19m4, k19m5, k19m6]
  instanceTypes := #[.int, (.array (.object "java/lang/Object")), .int]
  staticTypes := #[.long, .int, (.array (.object "java/lang/Object")), (.array (.object "java/lang/Object"))]
  resolved := Array.replicate 509 none
  statics := some 1 }

def pool20 : Array CpInfo := pool [(1, .methodref 2 3), (0, .class_ 4), (0, .nameAndType 5 6), (0, u "java/lang/Object"), (0, u "<init>"), (0, u "()V"), (0, .interfaceMethodref 8 9), (0, .class_ 10), (0, .nameAndType 11 12), (0, u "java/util/List"), (0, u "copyOf"), (0, u "(Ljava/util/Collection;)Ljava/util/List;"), (0, .fieldref 14 15), (0, .class_ 16), (0, .nameAndType 17 18), (0, u "com/example/dispatcher/dispatcher/web/BindingResult"), (0, u "errors"), (0, u "Ljava/util/List;"), (2, u "MODEL_KEY_PREFIX"), (0, u "Ljava/lang/String;"), (4, .interfaceMethodref 8 28), (0, .nameAndType 29 30), (0, u "isEmpty"), (0, u "()Z"), (18, u "(Ljava/util/List;)V"), (4, u "hasErrors")] 25

def k20c0 : Code := { maxStack := 2, maxLocals := 2, code := prog_67_method_1_code, exceptionTable := #[], attributes := #[] }
def k20m0 : Method := { name := "<init>", desc := "(Ljava/util/List;)V", sig := { parameters := [(.object "java/util/List")], returnType := none }, accessFlags := 1, code := some k20c0 }
def k20c1 : Code := { maxStack := 1, maxLocals := 1, code := prog_67_method_3_code, exceptionTable := #[], attributes := #[] }
def k20m1 : Method := { name := "hasErrors", desc := "()Z", sig := { parameters := [], returnType := some .boolean }, accessFlags := 1, code := some k20c1 }
/-- com/example/dispatcher/dispatcher/web/BindingResult -/
def k20 : Class := { plain "com/example/dispatcher/dispatcher/web/BindingResult" (some 0) with
  accessFlags := 49
  interfaces := #[]
  cf := some (fileOf pool20 14 #[] #[{ accessFlags := 1, nameIndex := 5, descriptorIndex := 49, attributes := #[] }, { accessFlags := 1, nameIndex := 54, descriptorIndex := 30, attributes := #[] }] 49 2 #[] #[{ accessFlags := 26, nameIndex := 21, descriptorIndex := 22, attributes := #[] }, { accessFlags := 18, nameIndex := 17, descriptorIndex := 18, attributes := #[] }])
  fields := #[{ name := "MODEL_KEY_PREFIX", type := (.object "java/lang/String"), accessFlags := 26, slot := 0, constantValue := 0 }, { name := "errors", type := (.object "java/util/List"), accessFlags := 18, slot := 0, constantValue := 0 }]
  methods := #[k20m0, k20m1]
  instanceTypes := #[(.object "java/util/List")]
  staticTypes := #[(.object "java/lang/String")]
  resolved := Array.replicate 80 none
  statics := none }

def pool21 : Array CpInfo := pool [(2, .class_ 4), (1, u "java/lang/Object"), (0, u "<init>"), (0, u "()V"), (3, .class_ 11), (0, u "java/util/ImmutableCollections$List12"), (0, .class_ 13), (0, u "java/util/ImmutableCollections$ListN"), (3, u "Z"), (0, .class_ 19), (0, u "java/util/List"), (0, .interfaceMethodref 21 22), (0, .class_ 23), (0, .nameAndType 24 25), (0, u "java/util/Collection"), (0, u "isEmpty"), (0, u "()Z"), (0, .interfaceMethodref 18 27), (0, .nameAndType 28 29), (0, u "of"), (0, u "()Ljava/util/List;"), (0, .interfaceMethodref 21 31), (0, .nameAndType 32 33), (0, u "toArray"), (0, u "()[Ljava/lang/Object;"), (0, .interfaceMethodref 18 35), (0, .nameAndType 28 36), (0, u "([Ljava/lang/Object;)Ljava/util/List;"), (0, .methodref 38 39), (0, .class_ 40), (0, .nameAndType 41 42), (0, u "java/util/Objects"), (0, u "requireNonNull"), (0, u "(Ljava/lang/Object;)Ljava/lang/Object;"), (0, .methodref 12 44), (0, .nameAndType 5 45), (0, u "([Ljava/lang/Object;Z)V"), (1, .class_ 49), (1, u "java/util/ImmutableCollections"), (0, u "$assertionsDisabled"), (5, u "[Ljava/lang/Object;"), (5, u "EMPTY_LIST"), (0, u "Ljava/util/ImmutableCollections$ListN;"), (8, u "EMPTY_LIST_NULLS"), (22, u "SALT32L"), (0, u "J"), (2, u "REVERSE"), (6, u "archivedObjects"), (2, u "EMPTY"), (0, u "Ljava/lang/Object;"), (0, .class_ 112), (0, u "java/util/ImmutableCollections$SetN"), (5, u "EMPTY_SET"), (0, u "Ljava/util/ImmutableCollections$SetN;"), (0, .class_ 121), (0, u "java/util/ImmutableCollections$MapN"), (3, u "EMPTY_MAP"), (0, u "Ljava/util/ImmutableCollections$MapN;"), (4, u "EXPAND_FACTOR"), (0, u "I"), (9, u "listCopy"), (0, u "(Ljava/util/Collection;)Ljava/util/List;"), (7, u "listFromArray"), (17, .class_ 170), (0, u "java/util/ImmutableCollections$MapN$MapNIterator"), (0, .class_ 172), (0, u "java/util/ImmutableCollections$MapN$1"), (0, .class_ 174), (0, u "java/util/ImmutableCollections$Map1"), (0, .class_ 176), (0, u "java/util/ImmutableCollections$AbstractImmutableMap"), (0, .class_ 178), (0, u "java/util/ImmutableCollections$SetN$SetNIterator"), (0, .class_ 180), (0, u "java/util/ImmutableCollections$Set12"), (0, .class_ 182), (0, u "java/util/ImmutableCollections$Set12$1"), (0, .class_ 184), (0, u "java/util/ImmutableCollections$AbstractImmutableSet"), (0, .class_ 186), (0, u "java/util/ImmutableCollections$SubList"), (0, .class_ 188), (0, u "java/util/ImmutableCollections$ListItr"), (0, .class_ 190), (0, u "java/util/ImmutableCollections$AbstractImmutableList"), (0, .class_ 192), (0, u "java/util/ImmutableCollections$AbstractImmutableCollection"), (0, .class_ 194), (0, u "java/util/ImmutableCollections$Access"), (0, .class_ 196), (0, u "java/util/ImmutableCollections$Access$1")] 16

def k21m0 : Method := { name := "<init>", desc := "()V", sig := { parameters := [], returnType := none }, accessFlags := 2, code := none }
def k21c1 : Code := { maxStack := 1, maxLocals := 2, code := jdk_56_method_3_code, exceptionTable := #[], attributes := #[] }
def k21m1 : Method := { name := "listCopy", desc := "(Ljava/util/Collection;)Ljava/util/List;", sig := { parameters := [(.object "java/util/Collection")], returnType := some (.object "java/util/List") }, accessFlags := 8, code := some k21c1 }
def k21c2 : Code := { maxStack := 4, maxLocals := 3, code := jdk_56_method_4_code, exceptionTable := #[], attributes := #[] }
def k21m2 : Method := { name := "listFromArray", desc := "([Ljava/lang/Object;)Ljava/util/List;", sig := { parameters := [(.array (.object "java/lang/Object"))], returnType := some (.object "java/util/List") }, accessFlags := 136, code := some k21c2 }
/-- java/util/ImmutableCollections -/
def k21 : Class := { plain "java/util/ImmutableCollections" (some 0) with
  accessFlags := 32
  interfaces := #[]
  cf := some (fileOf pool21 47 #[.nestMembers #[120, 169, 171, 173, 175, 111, 177, 179, 181, 183, 12, 10, 185, 187, 189, 191, 193, 195]] #[{ accessFlags := 2, nameIndex := 5, descriptorIndex := 6, attributes := #[] }, { accessFlags := 8, nameIndex := 142, descriptorIndex := 143, attributes := #[] }, { accessFlags := 136, nameIndex := 151, descriptorIndex := 36, attributes := #[] }] 32 2 #[] #[{ accessFlags := 26, nameIndex := 95, descriptorIndex := 96, attributes := #[] }, { accessFlags := 26, nameIndex := 99, descriptorIndex := 17, attributes := #[] }, { accessFlags := 10, nameIndex := 106, descriptorIndex := 56, attributes := #[] }, { accessFlags := 26, nameIndex := 109, descriptorIndex := 110, attributes := #[] }, { accessFlags := 24, nameIndex := 62, descriptorIndex := 63, attributes := #[] }, { accessFlags := 24, nameIndex := 72, descriptorIndex := 63, attributes := #[] }, { accessFlags := 24, nameIndex := 118, descriptorIndex := 119, attributes := #[] }, { accessFlags := 24, nameIndex := 125, descriptorIndex := 126, attributes := #[] }, { accessFlags := 24, nameIndex := 131, descriptorIndex := 132, attributes := #[] }, { accessFlags := 4120, nameIndex := 50, descriptorIndex := 17, attributes := #[] }])
  fields := #[{ name := "SALT32L", type := .long, accessFlags := 26, slot := 0, constantValue := 0 }, { name := "REVERSE", type := .boolean, accessFlags := 26, slot := 1, constantValue := 0 }, { name := "archivedObjects", type := (.array (.object "java/lang/Object")), accessFlags := 10, slot := 2, constantValue := 0 }, { name := "EMPTY", type := (.object "java/lang/Object"), accessFlags := 26, slot := 3, constantValue := 0 }, { name := "EMPTY_LIST", type := (.object "java/util/ImmutableCollections$ListN"), accessFlags := 24, slot := 4, constantValue := 0 }, { name := "EMPTY_LIST_NULLS", type := (.object "java/util/ImmutableCollections$ListN"), accessFlags := 24, slot := 5, constantValue := 0 }, { name := "EMPTY_SET", type := (.object "java/util/ImmutableCollections$SetN"), accessFlags := 24, slot := 6, constantValue := 0 }, { name := "EMPTY_MAP", type := (.object "java/util/ImmutableCollections$MapN"), accessFlags := 24, slot := 7, constantValue := 0 }, { name := "EXPAND_FACTOR", type := .int, accessFlags := 24, slot := 8, constantValue := 0 }, { name := "$assertionsDisabled", type := .boolean, accessFlags := 4120, slot := 9, constantValue := 0 }]
  methods := #[k21m0, k21m1, k21m2]
  instanceTypes := #[]
  staticTypes := #[.long, .boolean, (.array (.object "java/lang/Object")), (.object "java/lang/Object"), (.object "java/util/ImmutableCollections$ListN"), (.object "java/util/ImmutableCollections$ListN"), (.object "java/util/ImmutableCollections$SetN"), (.object "java/util/ImmutableCollections$MapN"), .int, .boolean]
  resolved := Array.replicate 213 none
  statics := some 2 }

def pool22 : Array CpInfo := pool [(1, .methodref 2 3), (0, .class_ 4), (0, .nameAndType 5 6), (0, u "java/util/AbstractCollection"), (0, u "<init>"), (0, u "()V"), (1, .class_ 10), (1, u "java/util/ImmutableCollections"), (2, .class_ 14), (0, u "java/util/ImmutableCollections$AbstractImmutableCollection")] 41

def k22c0 : Code := { maxStack := 1, maxLocals := 1, code := jdk_47_method_1_code, exceptionTable := #[], attributes := #[] }
def k22m0 : Method := { name := "<init>", desc := "()V", sig := { parameters := [], returnType := none }, accessFlags := 0, code := some k22c0 }
/-- java/util/ImmutableCollections$AbstractImmutableCollection -/
def k22 : Class := { plain "java/util/ImmutableCollections$AbstractImmutableCollection" (some 13) with
  accessFlags := 1056
  interfaces := #[]
  cf := some (fileOf pool22 13 #[.nestHost 8] #[{ accessFlags := 0, nameIndex := 5, descriptorIndex := 6, attributes := #[] }] 1056 2 #[] #[])
  fields := #[]
  methods := #[k22m0]
  instanceTypes := #[]
  staticTypes := #[]
  resolved := Array.replicate 56 none
  statics := none }

def pool23 : Array CpInfo := pool [(1, .methodref 2 3), (0, .class_ 4), (0, .nameAndType 5 6), (0, u "java/util/ImmutableCollections$AbstractImmutableCollection"), (0, u "<init>"), (0, u "()V"), (1, .class_ 10), (1, u "java/util/ImmutableCollections"), (3, .class_ 16), (1, u "java/util/ImmutableCollections$AbstractImmutableList"), (60, .class_ 78), (0, u "java/util/List"), (45, .class_ 125), (0, u "java/util/RandomAccess")] 70

def k23c0 : Code := { maxStack := 1, maxLocals := 1, code := jdk_46_method_1_code, exceptionTable := #[], attributes := #[] }
def k23m0 : Method := { name := "<init>", desc := "()V", sig := { parameters := [], returnType := none }, accessFlags := 0, code := some k23c0 }
/-- java/util/ImmutableCollections$AbstractImmutableList -/
def k23 : Class := { plain "java/util/ImmutableCollections$AbstractImmutableList" (some 22) with
  accessFlags := 1056
  interfaces := #[15, 17]
  cf := some (fileOf pool23 14 #[.nestHost 8] #[{ accessFlags := 0, nameIndex := 5, descriptorIndex := 6, attributes := #[] }] 1056 2 #[77, 124] #[])
  fields := #[]
  methods := #[k23m0]
  instanceTypes := #[]
  staticTypes := #[]
  resolved := Array.replicate 196 none
  statics := none }

def pool24 : Array CpInfo := pool [(1, .methodref 2 3), (0, .class_ 4), (0, .nameAndType 5 6), (0, u "java/util/ImmutableCollections$AbstractImmutableList"), (0, u "<init>"), (0, u "()V"), (0, .methodref 8 9), (0, .class_ 10), (0, .nameAndType 11 12), (0, u "java/util/Objects"), (0, u "requireNonNull"), (0, u "(Ljava/lang/Object;)Ljava/lang/Object;"), (0, .fieldref 14 15), (0, .class_ 16), (0, .nameAndType 17 18), (0, u "java/util/ImmutableCollections$List12"), (0, u "e0"), (0, u "Ljava/lang/Object;"), (0, .fieldref 20 21), (0, .class_ 22), (0, .nameAndType 23 18), (0, u "java/util/ImmutableCollections"), (0, u "EMPTY"), (0, .fieldref 14 25), (0, .nameAndType 26 18), (0, u "e1"), (43, .class_ 71), (0, u "java/io/Serializable"), (4, u "(Ljava/lang/Object;)V"), (8, u "(Ljava/lang/Object;Ljava/lang/Object;)V"), (2, u "isEmpty"), (0, u "()Z")] 35

def k24c0 : Code := { maxStack := 2, maxLocals := 2, code := jdk_44_method_1_code, exceptionTable := #[], attributes := #[] }
def k24m0 : Method := { name := "<init>", desc := "(Ljava/lang/Object;)V", sig := { parameters := [(.object "java/lang/Object")], returnType := none }, accessFlags := 0, code := some k24c0 }
def k24c1 : Code := { maxStack := 2, maxLocals := 3, code := jdk_44_method_2_code, exceptionTable := #[], attributes := #[] }
def k24m1 : Method := { name := "<init>", desc := "(Ljava/lang/Object;Ljava/lang/Object;)V", sig := { parameters := [(.object "java/lang/Object"), (.object "java/lang/Object")], returnType := none }, accessFlags := 0, code := some k24c1 }
def k24c2 : Code := { maxStack := 1, maxLocals := 1, code := jdk_44_method_4_code, exceptionTable := #[], attributes := #[] }
def k24m2 : Method := { name := "isEmpty", desc := "()Z", sig := { parameters := [], returnType := some .boolean }, accessFlags := 1, code := some k24c2 }
/-- java/util/ImmutableCollections$List12 -/
def k24 : Class := { plain "java/util/ImmutableCollections$List12" (some 23) with
  accessFlags := 48
  interfaces := #[3]
  cf := some (fileOf pool24 14 #[.nestHost 20] #[{ accessFlags := 0, nameIndex := 5, descriptorIndex := 76, attributes := #[] }, { accessFlags := 0, nameIndex := 5, descriptorIndex := 85, attributes := #[] }, { accessFlags := 1, nameIndex := 88, descriptorIndex := 89, attributes := #[] }] 48 2 #[70] #[{ accessFlags := 18, nameIndex := 17, descriptorIndex := 18, attributes := #[] }, { accessFlags := 18, nameIndex := 26, descriptorIndex := 18, attributes := #[] }])
  fields := #[{ name := "e0", type := (.object "java/lang/Object"), accessFlags := 18, slot := 0, constantValue := 0 }, { name := "e1", type := (.object "java/lang/Object"), accessFlags := 18, slot := 1, constantValue := 0 }]
  methods := #[k24m0, k24m1, k24m2]
  instanceTypes := #[(.object "java/lang/Object"), (.object "java/lang/Object")]
  staticTypes := #[]
  resolved := Array.replicate 125 none
  statics := none }

def pool25 : Array CpInfo := pool [(1, .methodref 2 3), (0, .class_ 4), (0, .nameAndType 5 6), (0, u "java/util/ImmutableCollections$AbstractImmutableList"), (0, u "<init>"), (0, u "()V"), (0, .fieldref 8 9), (0, .class_ 10), (0, .nameAndType 11 12), (0, u "java/util/ImmutableCollections$ListN"), (0, u "elements"), (0, u "[Ljava/lang/Object;"), (0, .fieldref 8 14), (0, .nameAndType 15 16), (0, u "allowNulls"), (0, u "Z"), (42, .class_ 60), (0, u "java/io/Serializable"), (4, u "([Ljava/lang/Object;Z)V"), (8, u "isEmpty"), (0, u "()Z"), (38, .class_ 115), (0, u "java/util/ImmutableCollections")] 3

def k25c0 : Code := { maxStack := 2, maxLocals := 3, code := jdk_45_method_1_code, exceptionTable := #[], attributes := #[] }
def k25m0 : Method := { name := "<init>", desc := "([Ljava/lang/Object;Z)V", sig := { parameters := [(.array (.object "java/lang/Object")), .boolean], returnType := none }, accessFlags := 2, code := some k25c0 }
def k25c1 : Code := { maxStack := 1, maxLocals := 1, code := jdk_45_method_2_code, exceptionTable := #[], attributes := #[] }
def k25m1 : Method := { name := "isEmpty", desc := "()Z", sig := { parameters := [], returnType := some .boolean }, accessFlags := 1, code := some k25c1 }
/-- java/util/ImmutableCollections$ListN -/
def k25 : Class := { plain "java/util/ImmutableCollections$ListN" (some 23) with
  accessFlags := 48
  interfaces := #[3]
  cf := some (fileOf pool25 8 #[.nestHost 114] #[{ accessFlags := 2, nameIndex := 5, descriptorIndex := 65, attributes := #[] }, { accessFlags := 1, nameIndex := 74, descriptorIndex := 75, attributes := #[] }] 48 2 #[59] #[{ accessFlags := 18, nameIndex := 11, descriptorIndex := 12, attributes := #[] }, { accessFlags := 18, nameIndex := 15, descriptorIndex := 16, attributes := #[] }])
  fields := #[{ name := "elements", type := (.array (.object "java/lang/Object")), accessFlags := 18, slot := 0, constantValue := 0 }, { name := "allowNulls", type := .boolean, accessFlags := 18, slot := 1, constantValue := 0 }]
  methods := #[k25m0, k25m1]
  instanceTypes := #[(.array (.object "java/lang/Object")), .boolean]
  staticTypes := #[]
  resolved := Array.replicate 119 none
  statics := none }

def pool26 : Array CpInfo := pool [(1, .class_ 2), (0, u "java/lang/Math"), (1, .class_ 6), (1, u "java/lang/Object"), (0, u "<init>"), (0, u "()V"), (89, .class_ 100), (1, u "java/lang/Math$RandomNumberGeneratorHolder"), (71, u "negativeZeroFloatBits"), (0, u "J"), (2, u "negativeZeroDoubleBits"), (21, u "max"), (2, u "min"), (43, u "$assertionsDisabled"), (0, u "Z"), (88, u "(II)I"), (2, u "twoToTheDoubleScaleDown"), (0, u "D"), (4, u "twoToTheDoubleScaleUp"), (9, u "E"), (3, u "PI"), (2, u "TAU"), (2, u "DEGREES_TO_RADIANS"), (0, u "RADIANS_TO_DEGREES")] 94

def k26m0 : Method := { name := "<init>", desc := "()V", sig := { parameters := [], returnType := none }, accessFlags := 2, code := none }
def k26c1 : Code := { maxStack := 2, maxLocals := 2, code := jdk_29_method_65_code, exceptionTable := #[], attributes := #[] }
def k26m1 : Method := { name := "max", desc := "(II)I", sig := { parameters := [.int, .int], returnType := some .int }, accessFlags := 9, code := some k26c1 }
def k26c2 : Code := { maxStack := 2, maxLocals := 2, code := jdk_29_method_69_code, exceptionTable := #[], attributes := #[] }
def k26m2 : Method := { name := "min", desc := "(II)I", sig := { parameters := [.int, .int], returnType := some .int }, accessFlags := 9, code := some k26c2 }
/-- java/lang/Math -/
def k26 : Class := { plain "java/lang/Math" (some 0) with
  accessFlags := 49
  interfaces := #[]
  cf := some (fileOf pool26 1 #[.nestMembers #[98]] #[{ accessFlags := 2, nameIndex := 7, descriptorIndex := 8, attributes := #[] }, { accessFlags := 9, nameIndex := 198, descriptorIndex := 335, attributes := #[] }, { accessFlags := 9, nameIndex := 201, descriptorIndex := 335, attributes := #[] }] 49 4 #[] #[{ accessFlags := 25, nameIndex := 354, descriptorIndex := 339, attributes := #[] }, { accessFlags := 25, nameIndex := 358, descriptorIndex := 339, attributes := #[] }, { accessFlags := 25, nameIndex := 361, descriptorIndex := 339, attributes := #[] }, { accessFlags := 26, nameIndex := 364, descriptorIndex := 339, attributes := #[] }, { accessFlags := 26, nameIndex := 365, descriptorIndex := 339, attributes := #[] }, { accessFlags := 26, nameIndex := 172, descriptorIndex := 173, attributes := #[] }, { accessFlags := 26, nameIndex := 176, descriptorIndex := 173, attributes := #[] }, { accessFlags := 8, nameIndex := 344, descriptorIndex := 339, attributes := #[] }, { accessFlags := 8, nameIndex := 338, descriptorIndex := 339, attributes := #[] }, { accessFlags := 4120, nameIndex := 245, descriptorIndex := 246, attributes := #[] }])
  fields := #[{ name := "E", type := .double, accessFlags := 25, slot := 0, constantValue := 0 }, { name := "PI", type := .double, accessFlags := 25, slot := 1, constantValue := 0 }, { name := "TAU", type := .double, accessFlags := 25, slot := 2, constantValue := 0 }, { name := "DEGREES_TO_RADIANS", type := .double, accessFlags := 26, slot := 3, constantValue := 0 }, { name := "RADIANS_TO_DEGREES", type := .double, accessFlags := 26, slot := 4, constantValue := 0 }, { name := "negativeZeroFloatBits", type := .long, accessFlags := 26, slot := 5, constantValue := 0 }, { name := "negativeZeroDoubleBits", type := .long, accessFlags := 26, slot := 6, constantValue := 0 }, { name := "twoToTheDoubleScaleUp", type := .double, accessFlags := 8, slot := 7, constantValue := 0 }, { name := "twoToTheDoubleScaleDown", type := .double, accessFlags := 8, slot := 8, constantValue := 0 }, { name := "$assertionsDisabled", type := .boolean, accessFlags := 4120, slot := 9, constantValue := 0 }]
  methods := #[k26m0, k26m1, k26m2]
  instanceTypes := #[]
  staticTypes := #[.double, .double, .double, .double, .double, .long, .long, .double, .double, .boolean]
  resolved := Array.replicate 460 none
  statics := none }

def pool27 : Array CpInfo := pool [(2, .class_ 4), (1, u "java/lang/Object"), (0, u "<init>"), (0, u "()V"), (7, .class_ 16), (1, u "java/util/Arrays"), (57, .class_ 76), (1, u "java/util/Arrays$NaturalOrder"), (9, .methodref 2 87), (0, .nameAndType 88 89), (0, u "getClass"), (0, u "()Ljava/lang/Class;"), (20, .class_ 111), (0, u "[Ljava/lang/Object;"), (1, .class_ 115), (1, u "java/util/Arrays$LegacyMergeSort"), (1, u "Z"), (32, .methodref 151 152), (0, .class_ 153), (0, .nameAndType 154 155), (0, u "java/lang/System"), (0, u "arraycopy"), (0, u "(Ljava/lang/Object;ILjava/lang/Object;II)V"), (144, .methodref 14 301), (0, .nameAndType 302 303), (0, u "copyOf"), (0, u "([Ljava/lang/Object;ILjava/lang/Class;)[Ljava/lang/Object;"), (0, .methodref 305 306), (0, .class_ 307), (0, .nameAndType 308 309), (0, u "java/lang/Math"), (0, u "min"), (0, u "(II)I"), (65, .class_ 376), (0, u "java/util/Arrays$ArrayList"), (68, u "$assertionsDisabled"), (269, u "MIN_ARRAY_SORT_GRAN"), (0, u "I"), (2, u "INSERTIONSORT_THRESHOLD"), (140, u "([Ljava/lang/Object;I)[Ljava/lang/Object;"), (114, .class_ 976), (0, u "java/util/Arrays$ArrayItr")] 52

def k27m0 : Method := { name := "<init>", desc := "()V", sig := { parameters := [], returnType := none }, accessFlags := 2, code := none }
def k27c1 : Code := { maxStack := 3, maxLocals := 2, code := jdk_65_method_119_code, exceptionTable := #[], attributes := #[] }
def k27m1 : Method := { name := "copyOf", desc := "([Ljava/lang/Object;I)[Ljava/lang/Object;", sig := { parameters := [(.array (.object "java/lang/Object")), .int], returnType := some (.array (.object "java/lang/Object")) }, accessFlags := 9, code := some k27c1 }
def k27c2 : Code := { maxStack := 6, maxLocals := 4, code := jdk_65_method_120_code, exceptionTable := #[], attributes := #[] }
def k27m2 : Method := { name := "copyOf", desc := "([Ljava/lang/Object;ILjava/lang/Class;)[Ljava/lang/Object;", sig := { parameters := [(.array (.object "java/lang/Object")), .int, (.object "java/lang/Class")], returnType := some (.array (.object "java/lang/Object")) }, accessFlags := 9, code := some k27c2 }
/-- java/util/Arrays -/
def k27 : Class := { plain "java/util/Arrays" (some 0) with
  accessFlags := 49
  interfaces := #[]
  cf := some (fileOf pool27 14 #[.nestMembers #[975, 375, 113, 74]] #[{ accessFlags := 2, nameIndex := 5, descriptorIndex := 6, attributes := #[] }, { accessFlags := 9, nameIndex := 302, descriptorIndex := 860, attributes := #[] }, { accessFlags := 9, nameIndex := 302, descriptorIndex := 303, attributes := #[] }] 49 2 #[] #[{ accessFlags := 26, nameIndex := 715, descriptorIndex := 716, attributes := #[] }, { accessFlags := 26, nameIndex := 719, descriptorIndex := 716, attributes := #[] }, { accessFlags := 4120, nameIndex := 445, descriptorIndex := 117, attributes := #[] }])
  fields := #[{ name := "MIN_ARRAY_SORT_GRAN", type := .int, accessFlags := 26, slot := 0, constantValue := 0 }, { name := "INSERTIONSORT_THRESHOLD", type := .int, accessFlags := 26, slot := 1, constantValue := 0 }, { name := "$assertionsDisabled", type := .boolean, accessFlags := 4120, slot := 2, constantValue := 0 }]
  methods := #[k27m0, k27m1, k27m2]
  instanceTypes := #[]
  staticTypes := #[.int, .int, .boolean]
  resolved := Array.replicate 1029 none
  statics := none }

def pool28 : Array CpInfo := pool [(2, .class_ 4), (1, u "java/lang/Object"), (0, u "<init>"), (0, u "()V"), (1, .class_ 10), (1, u "java/lang/System"), (0, u "allowSecurityManager"), (0, u "I"), (16, u "cons"), (0, u "Ljava/io/Console;"), (77, .class_ 110), (1, u "java/lang/System$CallersHolder"), (43, u "initialErrStream"), (0, u "Ljava/io/PrintStream;"), (19, u "security"), (0, u "Ljava/lang/SecurityManager;"), (31, .class_ 209), (0, u "java/lang/System$1"), (7, u "props"), (0, u "Ljava/util/Properties;"), (2, u "lineSeparator"), (0, u "Ljava/lang/String;"), (96, .class_ 321), (1, u "java/lang/System$LoggerFinder"), (5, .class_ 328), (0, u "java/lang/System$Logger"), (67, u "err"), (2, u "out"), (91, u "notSupportedJnuEncoding"), (15, u "in"), (17, u "initialIn"), (0, u "Ljava/io/InputStream;"), (35, u "bootLayer"), (0, u "Ljava/lang/ModuleLayer;"), (99, .class_ 664), (0, u "java/lang/System$2"), (9, u "NEVER"), (2, u "MAYBE"), (49, u "arraycopy"), (0, u "(Ljava/lang/Object;ILjava/lang/Object;II)V"), (72, .class_ 802), (0, u "java/lang/System$Logger$Level")] 31

def k28m0 : Method := { name := "<init>", desc := "()V", sig := { parameters := [], returnType := none }, accessFlags := 2, code := none }
def k28m1 : Method := { name := "arraycopy", desc := "(Ljava/lang/Object;ILjava/lang/Object;II)V", sig := { parameters := [(.object "java/lang/Object"), .int, (.object "java/lang/Object"), .int, .int], returnType := none }, accessFlags := 265, code := none }
/-- java/lang/System -/
def k28 : Class := { plain "java/lang/System" (some 0) with
  accessFlags := 49
  interfaces := #[]
  cf := some (fileOf pool28 8 #[.nestMembers #[319, 327, 801, 108, 663, 208]] #[{ accessFlags := 2, nameIndex := 5, descriptorIndex := 6, attributes := #[] }, { accessFlags := 265, nameIndex := 727, descriptorIndex := 728, attributes := #[] }] 49 2 #[] #[{ accessFlags := 25, nameIndex := 507, descriptorIndex := 526, attributes := #[] }, { accessFlags := 25, nameIndex := 399, descriptorIndex := 155, attributes := #[] }, { accessFlags := 25, nameIndex := 396, descriptorIndex := 155, attributes := #[] }, { accessFlags := 10, nameIndex := 525, descriptorIndex := 526, attributes := #[] }, { accessFlags := 26, nameIndex := 674, descriptorIndex := 12, attributes := #[] }, { accessFlags := 26, nameIndex := 677, descriptorIndex := 12, attributes := #[] }, { accessFlags := 10, nameIndex := 11, descriptorIndex := 12, attributes := #[] }, { accessFlags := 74, nameIndex := 175, descriptorIndex := 176, attributes := #[] }, { accessFlags := 10, nameIndex := 491, descriptorIndex := 222, attributes := #[] }, { accessFlags := 74, nameIndex := 29, descriptorIndex := 30, attributes := #[] }, { accessFlags := 74, nameIndex := 154, descriptorIndex := 155, attributes := #[] }, { accessFlags := 10, nameIndex := 217, descriptorIndex := 218, attributes := #[] }, { accessFlags := 10, nameIndex := 221, descriptorIndex := 222, attributes := #[] }, { accessFlags := 8, nameIndex := 562, descriptorIndex := 563, attributes := #[] }])
  fields := #[{ name := "in", type := (.object "java/io/InputStream"), accessFlags := 25, slot := 0, constantValue := 0 }, { name := "out", type := (.object "java/io/PrintStream"), accessFlags := 25, slot := 1, constantValue := 0 }, { name := "err", type := (.object "java/io/PrintStream"), accessFlags := 25, slot := 2, constantValue := 0 }, { name := "initialIn", type := (.object "java/io/InputStream"), accessFlags := 10, slot := 3, constantValue := 0 }, { name := "NEVER", type := .int, accessFlags := 26, slot := 4, constantValue := 0 }, { name := "MAYBE", type := .int, accessFlags := 26, slot := 5, constantValue := 0 }, { name := "allowSecurityManager", type := .int, accessFlags := 10, slot := 6, constantValue := 0 }, { name := "security", type := (.object "java/lang/SecurityManager"), accessFlags := 74, slot := 7, constantValue := 0 }, { name := "notSupportedJnuEncoding", type := (.object "java/lang/String"), accessFlags := 10, slot := 8, constantValue := 0 }, { name := "cons", type := (.object "java/io/Console"), accessFlags := 74, slot := 9, constantValue := 0 }, { name := "initialErrStream", type := (.object "java/io/PrintStream"), accessFlags := 74, slot := 10, constantValue := 0 }, { name := "props", type := (.object "java/util/Properties"), accessFlags := 10, slot := 11, constantValue := 0 }, { name := "lineSeparator", type := (.object "java/lang/String"), accessFlags := 10, slot := 12, constantValue := 0 }, { name := "bootLayer", type := (.object "java/lang/ModuleLayer"), accessFlags := 8, slot := 13, constantValue := 0 }]
  methods := #[k28m0, k28m1]
  instanceTypes := #[]
  staticTypes := #[(.object "java/io/InputStream"), (.object "java/io/PrintStream"), (.object "java/io/PrintStream"), (.object "java/io/InputStream"), .int, .int, .int, (.object "java/lang/SecurityManager"), (.object "java/lang/String"), (.object "java/io/Console"), (.object "java/io/PrintStream"), (.object "java/util/Properties"), (.object "java/lang/String"), (.object "java/lang/ModuleLayer")]
  resolved := Array.replicate 834 none
  statics := none }

def pool29 : Array CpInfo := pool [(2, .class_ 4), (1, u "java/lang/Object"), (0, u "<init>"), (0, u "()V"), (17, .class_ 26), (1, u "jdk/internal/util/Preconditions"), (28, .class_ 56), (0, u "jdk/internal/util/Preconditions$4"), (57, .class_ 115), (0, u "jdk/internal/util/Preconditions$1"), (7, u "SIOOBE_FORMATTER"), (0, u "Ljava/util/function/BiFunction;"), (0, .class_ 126), (0, u "jdk/internal/util/Preconditions$2"), (3, u "AIOOBE_FORMATTER"), (0, .class_ 132), (0, u "jdk/internal/util/Preconditions$3"), (3, u "IOOBE_FORMATTER")] 57

def k29m0 : Method := { name := "<init>", desc := "()V", sig := { parameters := [], returnType := none }, accessFlags := 1, code := none }
/-- jdk/internal/util/Preconditions -/
def k29 : Class := { plain "jdk/internal/util/Preconditions" (some 0) with
  accessFlags := 33
  interfaces := #[]
  cf := some (fileOf pool29 24 #[.nestMembers #[55, 131, 125, 114]] #[{ accessFlags := 1, nameIndex := 5, descriptorIndex := 6, attributes := #[] }] 33 2 #[] #[{ accessFlags := 25, nameIndex := 123, descriptorIndex := 124, attributes := #[] }, { accessFlags := 25, nameIndex := 130, descriptorIndex := 124, attributes := #[] }, { accessFlags := 25, nameIndex := 136, descriptorIndex := 124, attributes := #[] }])
  fields := #[{ name := "SIOOBE_FORMATTER", type := (.object "java/util/function/BiFunction"), accessFlags := 25, slot := 0, constantValue := 0 }, { name := "AIOOBE_FORMATTER", type := (.object "java/util/function/BiFunction"), accessFlags := 25, slot := 1, constantValue := 0 }, { name := "IOOBE_FORMATTER", type := (.object "java/util/function/BiFunction"), accessFlags := 25, slot := 2, constantValue := 0 }]
  methods := #[k29m0]
  instanceTypes := #[]
  staticTypes := #[(.object "java/util/function/BiFunction"), (.object "java/util/function/BiFunction"), (.object "java/util/function/BiFunction")]
  resolved := Array.replicate 194 none
  statics := some 3 }

def pool30 : Array CpInfo := pool [(9, u "<init>"), (6, .class_ 18), (1, u "java/lang/Object"), (0, u "()V"), (1, .class_ 23), (1, u "jdk/internal/util/ArraysSupport"), (0, u "LOG2_ARRAY_LONG_INDEX_SCALE"), (0, u "I"), (2, u "U"), (0, u "Ljdk/internal/misc/Unsafe;"), (8, u "BIG_ENDIAN"), (0, u "Z"), (8, u "LOG2_BYTE_BIT_SIZE"), (4, u "LOG2_ARRAY_INT_INDEX_SCALE"), (54, u "JLA"), (0, u "Ljdk/internal/access/JavaLangAccess;"), (11, u "LOG2_ARRAY_BOOLEAN_INDEX_SCALE"), (9, u "LOG2_ARRAY_BYTE_INDEX_SCALE"), (5, u "LOG2_ARRAY_CHAR_INDEX_SCALE"), (5, u "LOG2_ARRAY_SHORT_INDEX_SCALE"), (18, u "LOG2_ARRAY_FLOAT_INDEX_SCALE"), (24, u "LOG2_ARRAY_DOUBLE_INDEX_SCALE"), (89, u "T_BOOLEAN"), (2, u "T_CHAR"), (1, u "T_FLOAT"), (1, u "T_DOUBLE"), (1, u "T_BYTE"), (1, u "T_SHORT"), (1, u "T_INT"), (1, u "T_LONG"), (1, u "SOFT_MAX_ARRAY_LENGTH")] 83

def k30m0 : Method := { name := "<init>", desc := "()V", sig := { parameters := [], returnType := none }, accessFlags := 2, code := none }
/-- jdk/internal/util/ArraysSupport -/
def k30 : Class := { plain "jdk/internal/util/ArraysSupport" (some 0) with
  accessFlags := 33
  interfaces := #[]
  cf := some (fileOf pool30 21 #[] #[{ accessFlags := 2, nameIndex := 9, descriptorIndex := 19, attributes := #[] }] 33 16 #[] #[{ accessFlags := 24, nameIndex := 28, descriptorIndex := 29, attributes := #[] }, { accessFlags := 26, nameIndex := 38, descriptorIndex := 39, attributes := #[] }, { accessFlags := 25, nameIndex := 121, descriptorIndex := 25, attributes := #[] }, { accessFlags := 25, nameIndex := 131, descriptorIndex := 25, attributes := #[] }, { accessFlags := 25, nameIndex := 137, descriptorIndex := 25, attributes := #[] }, { accessFlags := 25, nameIndex := 143, descriptorIndex := 25, attributes := #[] }, { accessFlags := 25, nameIndex := 53, descriptorIndex := 25, attributes := #[] }, { accessFlags := 25, nameIndex := 24, descriptorIndex := 25, attributes := #[] }, { accessFlags := 25, nameIndex := 162, descriptorIndex := 25, attributes := #[] }, { accessFlags := 25, nameIndex := 187, descriptorIndex := 25, attributes := #[] }, { accessFlags := 26, nameIndex := 48, descriptorIndex := 25, attributes := #[] }, { accessFlags := 25, nameIndex := 277, descriptorIndex := 25, attributes := #[] }, { accessFlags := 25, nameIndex := 280, descriptorIndex := 25, attributes := #[] }, { accessFlags := 25, nameIndex := 282, descriptorIndex := 25, attributes := #[] }, { accessFlags := 25, nameIndex := 284, descriptorIndex := 25, attributes := #[] }, { accessFlags := 25, nameIndex := 286, descriptorIndex := 25, attributes := #[] }, { accessFlags := 25, nameIndex := 288, descriptorIndex := 25, attributes := #[] }, { accessFlags := 25, nameIndex := 290, descriptorIndex := 25, attributes := #[] }, { accessFlags := 25, nameIndex := 292, descriptorIndex := 25, attributes := #[] }, { accessFlags := 26, nameIndex := 108, descriptorIndex := 109, attributes := #[] }, { accessFlags := 25, nameIndex := 294, descriptorIndex := 25, attributes := #[] }])
  fields := #[{ name := "U", type := (.object "jdk/internal/misc/Unsafe"), accessFlags := 24, slot := 0, constantValue := 0 }, { name := "BIG_ENDIAN", type := .boolean, accessFlags := 26, slot := 1, constantValue := 0 }, { name := "LOG2_ARRAY_BOOLEAN_INDEX_SCALE", type := .int, accessFlags := 25, slot := 2, constantValue := 0 }, { name := "LOG2_ARRAY_BYTE_INDEX_SCALE", type := .int, accessFlags := 25, slot := 3, constantValue := 0 }, { name := "LOG2_ARRAY_CHAR_INDEX_SCALE", type := .int, accessFlags := 25, slot := 4, constantValue := 0 }, { name := "LOG2_ARRAY_SHORT_INDEX_SCALE", type := .int, accessFlags := 25, slot := 5, constantValue := 0 }, { name := "LOG2_ARRAY_INT_INDEX_SCALE", type := .int, accessFlags := 25, slot := 6, constantValue := 0 }, { name := "LOG2_ARRAY_LONG_INDEX_SCALE", type := .int, accessFlags := 25, slot := 7, constantValue := 0 }, { name := "LOG2_ARRAY_FLOAT_INDEX_SCALE", type := .int, accessFlags := 25, slot := 8, constantValue := 0 }, { name := "LOG2_ARRAY_DOUBLE_INDEX_SCALE", type := .int, accessFlags := 25, slot := 9, constantValue := 0 }, { name := "LOG2_BYTE_BIT_SIZE", type := .int, accessFlags := 26, slot := 10, constantValue := 0 }, { name := "T_BOOLEAN", type := .int, accessFlags := 25, slot := 11, constantValue := 0 }, { name := "T_CHAR", type := .int, accessFlags := 25, slot := 12, constantValue := 0 }, { name := "T_FLOAT", type := .int, accessFlags := 25, slot := 13, constantValue := 0 }, { name := "T_DOUBLE", type := .int, accessFlags := 25, slot := 14, constantValue := 0 }, { name := "T_BYTE", type := .int, accessFlags := 25, slot := 15, constantValue := 0 }, { name := "T_SHORT", type := .int, accessFlags := 25, slot := 16, constantValue := 0 }, { name := "T_INT", type := .int, accessFlags := 25, slot := 17, constantValue := 0 }, { name := "T_LONG", type := .int, accessFlags := 25, slot := 18, constantValue := 0 }, { name := "JLA", type := (.object "jdk/internal/access/JavaLangAccess"), accessFlags := 26, slot := 19, constantValue := 0 }, { name := "SOFT_MAX_ARRAY_LENGTH", type := .int, accessFlags := 25, slot := 20, constantValue := 0 }]
  methods := #[k30m0]
  instanceTypes := #[]
  staticTypes := #[(.object "jdk/internal/misc/Unsafe"), .boolean, .int, .int, .int, .int, .int, .int, .int, .int, .int, .int, .int, .int, .int, .int, .int, .int, .int, (.object "jdk/internal/access/JavaLangAccess"), .int]
  resolved := Array.replicate 378 none
  statics := none }

def pool31 : Array CpInfo := pool [(1, u "java/lang/Class"), (0, .class_ 1), (0, u "java/lang/Object"), (0, .class_ 3)] 0

/-- java/lang/Class -/
def k31 : Class := { plain "java/lang/Class" (some 0) with
  accessFlags := 49
  interfaces := #[]
  cf := some (fileOf pool31 2 #[] #[] 49 4 #[] #[])
  fields := #[]
  methods := #[]
  instanceTypes := #[]
  staticTypes := #[]
  resolved := Array.replicate 5 none
  statics := none }

/-- the primitive byte -/
def k32 : Class := { plain "byte" none with kind := .primitive 'B', accessFlags := 0x411 }
/-- [B -/
def k33 : Class := { plain "[B" (some 0) with kind := .array 32 .byte, interfaces := #[18, 3], accessFlags := 1041 }

/-- the primitive int -/
def k34 : Class := { plain "int" none with kind := .primitive 'I', accessFlags := 0x411 }
/-- [I -/
def k35 : Class := { plain "[I" (some 0) with kind := .array 34 .int, interfaces := #[18, 3], accessFlags := 1041 }

/-- [Ljava/lang/Object; -/
def k36 : Class := { plain "[Ljava/lang/Object;" (some 0) with kind := .array 0 (.object "java/lang/Object"), interfaces := #[18, 3], accessFlags := 1041, mirror := some 4 }

def heap : Heap := #[{ cls := 8, slots := #[.long 0, .int 1, .null, .int 0, .null, .int 0, .int 0], vm := .statics 8 },
  { cls := 19, slots := #[.long 0, .int 0, .ref 7, .ref 8], vm := .statics 19 },
  { cls := 21, slots := #[.long 0, .int 0, .null, .ref 9, .ref 6, .null, .null, .null, .int 0, .int 1], vm := .statics 21 },
  { cls := 29, slots := #[.null, .null, .null], vm := .statics 29 },
  { cls := 31, slots := #[], vm := .mirror 36 },
  { cls := 36, slots := #[], vm := .none },
  { cls := 25, slots := #[.ref 5, .int 0], vm := .none },
  { cls := 36, slots := #[], vm := .none },
  { cls := 36, slots := #[], vm := .none },
  { cls := 0, slots := #[], vm := .none }]
def classes : Array Class := #[k0, k1, k2, k3, k4, k5, k6, k7, k8, k9, k10, k11, k12, k13, k14, k15, k16, k17, k18, k19, k20, k21, k22, k23, k24, k25, k26, k27, k28, k29, k30, k31, k32, k33, k34, k35, k36]
def interned : List (Array UInt16 × Addr) := []
def slotsUsed : Nat := 26
def theMethod : MethodId := ⟨1, 1⟩
def args0 : Array Value := #[.int 5, .int 6, .int 7]
def aboutOver (below : List Frame) : State where
  vm := { classes := classes, interned := interned.toArray }
  heap := heap
  slotsUsed := slotsUsed
  threads := #[{ frames := .invoking theMethod args0 :: below }]
def below0 : List Frame := [.native { method := ⟨0, 0⟩, args := #[] }]
def about1 : State := aboutOver below0
def p0 : Program := .bare "" "" ""
def e0 : Env := launch0.env 0 0 0
theorem w_frames : about1.frames = Frame.invoking theMethod args0 :: below0 := rfl
set_option maxRecDepth 65536 in
theorem w_args : argsFit about1.vm theMethod args0 = true := by decide +kernel
set_option maxRecDepth 65536 in
theorem w_heap : heapFits about1 = true := by decide +kernel
set_option maxRecDepth 65536 in
theorem w_runnable : about1.curStatus? = some .runnable := by decide +kernel
set_option maxRecDepth 65536 in
theorem w_alone : about1.alone = true := by decide +kernel
set_option maxRecDepth 65536 in
theorem w_named : about1.methodNamed? x = some theMethod := by decide +kernel
set_option maxRecDepth 65536 in
theorem w_hears : about1.hears theMethod below0 = true := by decide +kernel
set_option maxRecDepth 65536 in
theorem w_ripe : about1.ripe theMethod args0 below0 = true := by decide +kernel
theorem w_running : about1.status = .running := rfl
set_option maxRecDepth 65536 in
theorem w_room : about1.hasRoom e0.platform room_1 = true :=
  launch0.hasRoom_least _ room_1 (by decide +kernel) (by decide +kernel) (by decide +kernel) (by decide +kernel) (by decide +kernel) (by decide +kernel)
theorem allAtoms_all (ts : List Jvm.Cond) (a : Array Jvm.Value) (st : Jvm.State) : (allAtoms ts).before a st = ts.all (fun c => c.before a st) := by
  induction ts with
  | nil => rfl
  | cons c t ih =>
    show (Jvm.Cond.and c (allAtoms t)).before a st = _
    rw [Jvm.Cond.before_and, ih, List.all_cons]
def words1 : List Jvm.Cond := Jvm.Cond.code x code maxLocals ret :: tables_1
/-- a 'code' word, met by the world's own term for the bytes: nothing is compared byte by byte -/
theorem code_word {y : MethodName} {bytes : ByteArray} {mx : Nat} {rt : Option FieldType} {a : Array Value} {s : State} {m : MethodId} {meth : Method} {c : Code} (h1 : s.methodNamed? y = some m) (h2 : s.vm.method? m = some meth) (h3 : meth.code = some c) (h4 : c.code = bytes)
    (h5 : (c.maxLocals == mx && c.exceptionTable.isEmpty && decide (c.maxStack ≤ mostOperands) && decide (meth.sig.returnType = rt) && !meth.locks && decide (parseMethodDescriptor y.desc = some meth.sig)) = true) : (Jvm.Cond.code y bytes mx rt).before a s = true := by
  simp only [Bool.and_eq_true, beq_iff_eq, Bool.not_eq_true', decide_eq_true_eq] at h5
  obtain ⟨⟨⟨⟨⟨g1, g2⟩, g3⟩, g4⟩, g5⟩, g6⟩ := h5
  simp [Cond.before, Cond.holds, Cond.value, h1, h2, h3, h4, g1, g2, g3, g4, g5, g6]
def isCode : Jvm.Cond → Bool
  | .code _ _ _ _ => true
  | _ => false
theorem all_split {L : List Jvm.Cond} {P : Jvm.Cond → Bool} (h1 : L.all (fun c => isCode c || P c) = true) (h2 : ∀ c ∈ L.filter isCode, P c = true) : L.all P = true := by
  refine List.all_eq_true.mpr fun c hc => ?_
  have h := List.all_eq_true.mp h1 c hc
  rcases Bool.eq_false_or_eq_true (isCode c) with hi | hi
  · exact h2 c (List.mem_filter.mpr ⟨hc, hi⟩)
  · simpa [hi] using h
set_option maxRecDepth 65536 in
theorem w_c0 : (Jvm.Cond.code x code maxLocals ret).before args0 about1 = true := code_word (m := ⟨1, 1⟩) (meth := k1m1) (c := k1c1) (by decide +kernel) rfl rfl rfl (by decide +kernel)
set_option maxRecDepth 65536 in
theorem w_c1 : (Jvm.Cond.code ({ cls := "java/lang/String", name := "valueOf", desc := "(C)Ljava/lang/String;" } : Jvm.MethodName) jdk_42_method_139_code (1 : Nat) (Option.some (Jvm.ClassFile.FieldType.object "java/lang/String"))).before args0 about1 = true := code_word (m := ⟨8, 1⟩) (meth := k8m1) (c := k8c1) (by decide +kernel) rfl rfl rfl (by decide +kernel)
set_option maxRecDepth 65536 in
theorem w_c2 : (Jvm.Cond.code ({ cls := "java/lang/StringLatin1", name := "canEncode", desc := "(C)Z" } : Jvm.MethodName) jdk_43_method_3_code (1 : Nat) (Option.some Jvm.ClassFile.FieldType.boolean)).before args0 about1 = true := code_word (m := ⟨9, 1⟩) (meth := k9m1) (c := k9c1) (by decide +kernel) rfl rfl rfl (by decide +kernel)
set_option maxRecDepth 65536 in
theorem w_c3 : (Jvm.Cond.code ({ cls := "java/lang/StringLatin1", name := "toBytes", desc := "(C)[B" } : Jvm.MethodName) jdk_43_method_46_code (1 : Nat) (Option.some (Jvm.ClassFile.FieldType.array Jvm.ClassFile.FieldType.byte))).before args0 about1 = true := code_word (m := ⟨9, 2⟩) (meth := k9m2) (c := k9c2) (by decide +kernel) rfl rfl rfl (by decide +kernel)
set_option maxRecDepth 65536 in
theorem w_c4 : (Jvm.Cond.code ({ cls := "java/lang/String", name := "<init>", desc := "([BB)V" } : Jvm.MethodName) jdk_42_method_151_code (3 : Nat) (Option.none : Option Jvm.ClassFile.FieldType)).before args0 about1 = true := code_word (m := ⟨8, 2⟩) (meth := k8m2) (c := k8c2) (by decide +kernel) rfl rfl rfl (by decide +kernel)
set_option maxRecDepth 65536 in
theorem w_c5 : (Jvm.Cond.code ({ cls := "java/lang/Object", name := "<init>", desc := "()V" } : Jvm.MethodName) object_method_1_code (1 : Nat) (Option.none : Option Jvm.ClassFile.FieldType)).before args0 about1 = true := code_word (m := ⟨0, 0⟩) (meth := k0m0) (c := k0c0) (by decide +kernel) rfl rfl rfl (by decide +kernel)
set_option maxRecDepth 65536 in
theorem w_c6 : (Jvm.Cond.code ({ cls := "com/example/dispatcher/dispatcher/web/FieldError", name := "<init>", desc := "(Ljava/lang/String;Ljava/lang/String;)V" } : Jvm.MethodName) prog_72_method_1_code (3 : Nat) (Option.none : Option Jvm.ClassFile.FieldType)).before args0 about1 = true := code_word (m := ⟨2, 0⟩) (meth := k2m0) (c := k2c0) (by decide +kernel) rfl rfl rfl (by decide +kernel)
set_option maxRecDepth 65536 in
theorem w_c7 : (Jvm.Cond.code ({ cls := "java/util/Objects", name := "requireNonNull", desc := "(Ljava/lang/Object;Ljava/lang/String;)Ljava/lang/Object;" } : Jvm.MethodName) jdk_31_method_11_code (2 : Nat) (Option.some (Jvm.ClassFile.FieldType.object "java/lang/Object"))).before args0 about1 = true := code_word (m := ⟨10, 2⟩) (meth := k10m2) (c := k10c2) (by decide +kernel) rfl rfl rfl (by decide +kernel)
set_option maxRecDepth 65536 in
theorem w_c8 : (Jvm.Cond.code ({ cls := "java/util/ArrayList", name := "<init>", desc := "()V" } : Jvm.MethodName) jdk_38_method_2_code (1 : Nat) (Option.none : Option Jvm.ClassFile.FieldType)).before args0 about1 = true := code_word (m := ⟨19, 0⟩) (meth := k19m0) (c := k19c0) (by decide +kernel) rfl rfl rfl (by decide +kernel)
set_option maxRecDepth 65536 in
theorem w_c9 : (Jvm.Cond.code ({ cls := "java/util/AbstractList", name := "<init>", desc := "()V" } : Jvm.MethodName) jdk_39_method_1_code (1 : Nat) (Option.none : Option Jvm.ClassFile.FieldType)).before args0 about1 = true := code_word (m := ⟨16, 0⟩) (meth := k16m0) (c := k16c0) (by decide +kernel) rfl rfl rfl (by decide +kernel)
set_option maxRecDepth 65536 in
theorem w_c10 : (Jvm.Cond.code ({ cls := "java/util/AbstractCollection", name := "<init>", desc := "()V" } : Jvm.MethodName) jdk_22_method_1_code (1 : Nat) (Option.none : Option Jvm.ClassFile.FieldType)).before args0 about1 = true := code_word (m := ⟨13, 0⟩) (meth := k13m0) (c := k13c0) (by decide +kernel) rfl rfl rfl (by decide +kernel)
set_option maxRecDepth 65536 in
theorem w_c11 : (Jvm.Cond.code ({ cls := "com/example/dispatcher/dispatcher/web/BindingResult", name := "<init>", desc := "(Ljava/util/List;)V" } : Jvm.MethodName) prog_67_method_1_code (2 : Nat) (Option.none : Option Jvm.ClassFile.FieldType)).before args0 about1 = true := code_word (m := ⟨20, 0⟩) (meth := k20m0) (c := k20c0) (by decide +kernel) rfl rfl rfl (by decide +kernel)
set_option maxRecDepth 65536 in
theorem w_c12 : (Jvm.Cond.code ({ cls := "java/util/List", name := "copyOf", desc := "(Ljava/util/Collection;)Ljava/util/List;" } : Jvm.MethodName) jdk_40_method_48_code (1 : Nat) (Option.some (Jvm.ClassFile.FieldType.object "java/util/List"))).before args0 about1 = true := code_word (m := ⟨15, 3⟩) (meth := k15m3) (c := k15c3) (by decide +kernel) rfl rfl rfl (by decide +kernel)
set_option maxRecDepth 65536 in
theorem w_c13 : (Jvm.Cond.code ({ cls := "java/util/ImmutableCollections", name := "listCopy", desc := "(Ljava/util/Collection;)Ljava/util/List;" } : Jvm.MethodName) jdk_56_method_3_code (2 : Nat) (Option.some (Jvm.ClassFile.FieldType.object "java/util/List"))).before args0 about1 = true := code_word (m := ⟨21, 1⟩) (meth := k21m1) (c := k21c1) (by decide +kernel) rfl rfl rfl (by decide +kernel)
set_option maxRecDepth 65536 in
theorem w_c14 : (Jvm.Cond.code ({ cls := "java/util/ArrayList", name := "isEmpty", desc := "()Z" } : Jvm.MethodName) jdk_38_method_9_code (1 : Nat) (Option.some Jvm.ClassFile.FieldType.boolean)).before args0 about1 = true := code_word (m := ⟨19, 3⟩) (meth := k19m3) (c := k19c3) (by decide +kernel) rfl rfl rfl (by decide +kernel)
set_option maxRecDepth 65536 in
theorem w_c15 : (Jvm.Cond.code ({ cls := "java/util/List", name := "of", desc := "()Ljava/util/List;" } : Jvm.MethodName) jdk_40_method_36_code (0 : Nat) (Option.some (Jvm.ClassFile.FieldType.object "java/util/List"))).before args0 about1 = true := code_word (m := ⟨15, 1⟩) (meth := k15m1) (c := k15c1) (by decide +kernel) rfl rfl rfl (by decide +kernel)
set_option maxRecDepth 65536 in
theorem w_c16 : (Jvm.Cond.code ({ cls := "com/example/dispatcher/dispatcher/web/BindingResult", name := "hasErrors", desc := "()Z" } : Jvm.MethodName) prog_67_method_3_code (1 : Nat) (Option.some Jvm.ClassFile.FieldType.boolean)).before args0 about1 = true := code_word (m := ⟨20, 1⟩) (meth := k20m1) (c := k20c1) (by decide +kernel) rfl rfl rfl (by decide +kernel)
set_option maxRecDepth 65536 in
theorem w_c17 : (Jvm.Cond.code ({ cls := "java/util/ImmutableCollections$ListN", name := "isEmpty", desc := "()Z" } : Jvm.MethodName) jdk_45_method_2_code (1 : Nat) (Option.some Jvm.ClassFile.FieldType.boolean)).before args0 about1 = true := code_word (m := ⟨25, 1⟩) (meth := k25m1) (c := k25c1) (by decide +kernel) rfl rfl rfl (by decide +kernel)
set_option maxRecDepth 65536 in
theorem w_c18 : (Jvm.Cond.code ({ cls := "java/util/ArrayList", name := "add", desc := "(Ljava/lang/Object;)Z" } : Jvm.MethodName) jdk_38_method_25_code (2 : Nat) (Option.some Jvm.ClassFile.FieldType.boolean)).before args0 about1 = true := code_word (m := ⟨19, 6⟩) (meth := k19m6) (c := k19c6) (by decide +kernel) rfl rfl rfl (by decide +kernel)
set_option maxRecDepth 65536 in
theorem w_c19 : (Jvm.Cond.code ({ cls := "java/util/ArrayList", name := "add", desc := "(Ljava/lang/Object;[Ljava/lang/Object;I)V" } : Jvm.MethodName) jdk_38_method_24_code (4 : Nat) (Option.none : Option Jvm.ClassFile.FieldType)).before args0 about1 = true := code_word (m := ⟨19, 5⟩) (meth := k19m5) (c := k19c5) (by decide +kernel) rfl rfl rfl (by decide +kernel)
set_option maxRecDepth 65536 in
theorem w_c20 : (Jvm.Cond.code ({ cls := "java/util/ArrayList", name := "grow", desc := "()[Ljava/lang/Object;" } : Jvm.MethodName) jdk_38_method_7_code (1 : Nat) (Option.some (Jvm.ClassFile.FieldType.array (Jvm.ClassFile.FieldType.object "java/lang/Object")))).before args0 about1 = true := code_word (m := ⟨19, 2⟩) (meth := k19m2) (c := k19c2) (by decide +kernel) rfl rfl rfl (by decide +kernel)
set_option maxRecDepth 65536 in
theorem w_c21 : (Jvm.Cond.code ({ cls := "java/util/ArrayList", name := "grow", desc := "(I)[Ljava/lang/Object;" } : Jvm.MethodName) jdk_38_method_6_code (4 : Nat) (Option.some (Jvm.ClassFile.FieldType.array (Jvm.ClassFile.FieldType.object "java/lang/Object")))).before args0 about1 = true := code_word (m := ⟨19, 1⟩) (meth := k19m1) (c := k19c1) (by decide +kernel) rfl rfl rfl (by decide +kernel)
set_option maxRecDepth 65536 in
theorem w_c22 : (Jvm.Cond.code ({ cls := "java/lang/Math", name := "max", desc := "(II)I" } : Jvm.MethodName) jdk_29_method_65_code (2 : Nat) (Option.some Jvm.ClassFile.FieldType.int)).before args0 about1 = true := code_word (m := ⟨26, 1⟩) (meth := k26m1) (c := k26c1) (by decide +kernel) rfl rfl rfl (by decide +kernel)
set_option maxRecDepth 65536 in
theorem w_c23 : (Jvm.Cond.code ({ cls := "java/util/ArrayList", name := "toArray", desc := "()[Ljava/lang/Object;" } : Jvm.MethodName) jdk_38_method_16_code (1 : Nat) (Option.some (Jvm.ClassFile.FieldType.array (Jvm.ClassFile.FieldType.object "java/lang/Object")))).before args0 about1 = true := code_word (m := ⟨19, 4⟩) (meth := k19m4) (c := k19c4) (by decide +kernel) rfl rfl rfl (by decide +kernel)
set_option maxRecDepth 65536 in
theorem w_c24 : (Jvm.Cond.code ({ cls := "java/util/Arrays", name := "copyOf", desc := "([Ljava/lang/Object;I)[Ljava/lang/Object;" } : Jvm.MethodName) jdk_65_method_119_code (2 : Nat) (Option.some (Jvm.ClassFile.FieldType.array (Jvm.ClassFile.FieldType.object "java/lang/Object")))).before args0 about1 = true := code_word (m := ⟨27, 1⟩) (meth := k27m1) (c := k27c1) (by decide +kernel) rfl rfl rfl (by decide +kernel)
set_option maxRecDepth 65536 in
theorem w_c25 : (Jvm.Cond.code ({ cls := "java/util/Arrays", name := "copyOf", desc := "([Ljava/lang/Object;ILjava/lang/Class;)[Ljava/lang/Object;" } : Jvm.MethodName) jdk_65_method_120_code (4 : Nat) (Option.some (Jvm.ClassFile.FieldType.array (Jvm.ClassFile.FieldType.object "java/lang/Object")))).before args0 about1 = true := code_word (m := ⟨27, 2⟩) (meth := k27m2) (c := k27c2) (by decide +kernel) rfl rfl rfl (by decide +kernel)
set_option maxRecDepth 65536 in
theorem w_c26 : (Jvm.Cond.code ({ cls := "java/lang/Math", name := "min", desc := "(II)I" } : Jvm.MethodName) jdk_29_method_69_code (2 : Nat) (Option.some Jvm.ClassFile.FieldType.int)).before args0 about1 = true := code_word (m := ⟨26, 2⟩) (meth := k26m2) (c := k26c2) (by decide +kernel) rfl rfl rfl (by decide +kernel)
set_option maxRecDepth 65536 in
theorem w_c27 : (Jvm.Cond.code ({ cls := "java/util/List", name := "of", desc := "([Ljava/lang/Object;)Ljava/util/List;" } : Jvm.MethodName) jdk_40_method_47_code (2 : Nat) (Option.some (Jvm.ClassFile.FieldType.object "java/util/List"))).before args0 about1 = true := code_word (m := ⟨15, 2⟩) (meth := k15m2) (c := k15c2) (by decide +kernel) rfl rfl rfl (by decide +kernel)
set_option maxRecDepth 65536 in
theorem w_c28 : (Jvm.Cond.code ({ cls := "java/util/ImmutableCollections$List12", name := "<init>", desc := "(Ljava/lang/Object;)V" } : Jvm.MethodName) jdk_44_method_1_code (2 : Nat) (Option.none : Option Jvm.ClassFile.FieldType)).before args0 about1 = true := code_word (m := ⟨24, 0⟩) (meth := k24m0) (c := k24c0) (by decide +kernel) rfl rfl rfl (by decide +kernel)
set_option maxRecDepth 65536 in
theorem w_c29 : (Jvm.Cond.code ({ cls := "java/util/ImmutableCollections$AbstractImmutableList", name := "<init>", desc := "()V" } : Jvm.MethodName) jdk_46_method_1_code (1 : Nat) (Option.none : Option Jvm.ClassFile.FieldType)).before args0 about1 = true := code_word (m := ⟨23, 0⟩) (meth := k23m0) (c := k23c0) (by decide +kernel) rfl rfl rfl (by decide +kernel)
set_option maxRecDepth 65536 in
theorem w_c30 : (Jvm.Cond.code ({ cls := "java/util/ImmutableCollections$AbstractImmutableCollection", name := "<init>", desc := "()V" } : Jvm.MethodName) jdk_47_method_1_code (1 : Nat) (Option.none : Option Jvm.ClassFile.FieldType)).before args0 about1 = true := code_word (m := ⟨22, 0⟩) (meth := k22m0) (c := k22c0) (by decide +kernel) rfl rfl rfl (by decide +kernel)
set_option maxRecDepth 65536 in
theorem w_c31 : (Jvm.Cond.code ({ cls := "java/util/Objects", name := "requireNonNull", desc := "(Ljava/lang/Object;)Ljava/lang/Object;" } : Jvm.MethodName) jdk_31_method_10_code (1 : Nat) (Option.some (Jvm.ClassFile.FieldType.object "java/lang/Object"))).before args0 about1 = true := code_word (m := ⟨10, 1⟩) (meth := k10m1) (c := k10c1) (by decide +kernel) rfl rfl rfl (by decide +kernel)
set_option maxRecDepth 65536 in
theorem w_c32 : (Jvm.Cond.code ({ cls := "java/util/ImmutableCollections$List12", name := "isEmpty", desc := "()Z" } : Jvm.MethodName) jdk_44_method_4_code (1 : Nat) (Option.some Jvm.ClassFile.FieldType.boolean)).before args0 about1 = true := code_word (m := ⟨24, 2⟩) (meth := k24m2) (c := k24c2) (by decide +kernel) rfl rfl rfl (by decide +kernel)
set_option maxRecDepth 65536 in
theorem w_c33 : (Jvm.Cond.code ({ cls := "java/util/ImmutableCollections", name := "listFromArray", desc := "([Ljava/lang/Object;)Ljava/util/List;" } : Jvm.MethodName) jdk_56_method_4_code (3 : Nat) (Option.some (Jvm.ClassFile.FieldType.object "java/util/List"))).before args0 about1 = true := code_word (m := ⟨21, 2⟩) (meth := k21m2) (c := k21c2) (by decide +kernel) rfl rfl rfl (by decide +kernel)
set_option maxRecDepth 65536 in
theorem w_c34 : (Jvm.Cond.code ({ cls := "java/util/ImmutableCollections$ListN", name := "<init>", desc := "([Ljava/lang/Object;Z)V" } : Jvm.MethodName) jdk_45_method_1_code (3 : Nat) (Option.none : Option Jvm.ClassFile.FieldType)).before args0 about1 = true := code_word (m := ⟨25, 0⟩) (meth := k25m0) (c := k25c0) (by decide +kernel) rfl rfl rfl (by decide +kernel)
set_option maxRecDepth 65536 in
theorem w_c35 : (Jvm.Cond.code ({ cls := "java/util/ImmutableCollections$List12", name := "<init>", desc := "(Ljava/lang/Object;Ljava/lang/Object;)V" } : Jvm.MethodName) jdk_44_method_2_code (3 : Nat) (Option.none : Option Jvm.ClassFile.FieldType)).before args0 about1 = true := code_word (m := ⟨24, 1⟩) (meth := k24m1) (c := k24c1) (by decide +kernel) rfl rfl rfl (by decide +kernel)
def codes1 : List Jvm.Cond := [Jvm.Cond.code x code maxLocals ret, Jvm.Cond.code ({ cls := "java/lang/String", name := "valueOf", desc := "(C)Ljava/lang/String;" } : Jvm.MethodName) jdk_42_method_139_code (1 : Nat) (Option.some (Jvm.ClassFile.FieldType.object "java/lang/String")), Jvm.Cond.code ({ cls := "java/lang/StringLatin1", name := "canEncode", desc := "(C)Z" } : Jvm.MethodName) jdk_43_method_3_code (1 : Nat) (Option.some Jvm.ClassFile.FieldType.boolean), Jvm.Cond.code ({ cls := "java/lang/StringLatin1", name := "toBytes", desc := "(C)[B" } : Jvm.MethodName) jdk_43_method_46_code (1 : Nat) (Option.some (Jvm.ClassFile.FieldType.array Jvm.ClassFile.FieldType.byte)), Jvm.Cond.code ({ cls := "java/lang/String", name := "<init>", desc := "([BB)V" } : Jvm.MethodName) jdk_42_method_151_code (3 : Nat) (Option.none : Option Jvm.ClassFile.FieldType), Jvm.Cond.code ({ cls := "java/lang/Object", name := "<init>", desc := "()V" } : Jvm.MethodName) object_method_1_code (1 : Nat) (Option.none : Option Jvm.ClassFile.FieldType), Jvm.Cond.code ({ cls := "com/example/dispatcher/dispatcher/web/FieldError", name := "<init>", desc := "(Ljava/lang/String;Ljava/lang/String;)V" } : Jvm.MethodName) prog_72_method_1_code (3 : Nat) (Option.none : Option Jvm.ClassFile.FieldType), Jvm.Cond.code ({ cls := "java/util/Objects", name := "requireNonNull", desc := "(Ljava/lang/Object;Ljava/lang/String;)Ljava/lang/Object;" } : Jvm.MethodName) jdk_31_method_11_code (2 : Nat) (Option.some (Jvm.ClassFile.FieldType.object "java/lang/Object")), Jvm.Cond.code ({ cls := "java/util/ArrayList", name := "<init>", desc := "()V" } : Jvm.MethodName) jdk_38_method_2_code (1 : Nat) (Option.none : Option Jvm.ClassFile.FieldType), Jvm.Cond.code ({ cls := "java/util/AbstractList", name := "<init>", desc := "()V" } : Jvm.MethodName) jdk_39_method_1_code (1 : Nat) (Option.none : Option Jvm.ClassFile.FieldType), Jvm.Cond.code ({ cls := "java/util/AbstractCollection", name := "<init>", desc := "()V" } : Jvm.MethodName) jdk_22_method_1_code (1 : Nat) (Option.none : Option Jvm.ClassFile.FieldType), Jvm.Cond.code ({ cls := "com/example/dispatcher/dispatcher/web/BindingResult", name := "<init>", desc := "(Ljava/util/List;)V" } : Jvm.MethodName) prog_67_method_1_code (2 : Nat) (Option.none : Option Jvm.ClassFile.FieldType), Jvm.Cond.code ({ cls := "java/util/List", name := "copyOf", desc := "(Ljava/util/Collection;)Ljava/util/List;" } : Jvm.MethodName) jdk_40_method_48_code (1 : Nat) (Option.some (Jvm.ClassFile.FieldType.object "java/util/List")), Jvm.Cond.code ({ cls := "java/util/ImmutableCollections", name := "listCopy", desc := "(Ljava/util/Collection;)Ljava/util/List;" } : Jvm.MethodName) jdk_56_method_3_code (2 : Nat) (Option.some (Jvm.ClassFile.FieldType.object "java/util/List")), Jvm.Cond.code ({ cls := "java/util/ArrayList", name := "isEmpty", desc := "()Z" } : Jvm.MethodName) jdk_38_method_9_code (1 : Nat) (Option.some Jvm.ClassFile.FieldType.boolean), Jvm.Cond.code ({ cls := "java/util/List", name := "of", desc := "()Ljava/util/List;" } : Jvm.MethodName) jdk_40_method_36_code (0 : Nat) (Option.some (Jvm.ClassFile.FieldType.object "java/util/List")), Jvm.Cond.code ({ cls := "com/example/dispatcher/dispatcher/web/BindingResult", name := "hasErrors", desc := "()Z" } : Jvm.MethodName) prog_67_method_3_code (1 : Nat) (Option.some Jvm.ClassFile.FieldType.boolean), Jvm.Cond.code ({ cls := "java/util/ImmutableCollections$ListN", name := "isEmpty", desc := "()Z" } : Jvm.MethodName) jdk_45_method_2_code (1 : Nat) (Option.some Jvm.ClassFile.FieldType.boolean), Jvm.Cond.code ({ cls := "java/util/ArrayList", name := "add", desc := "(Ljava/lang/Object;)Z" } : Jvm.MethodName) jdk_38_method_25_code (2 : Nat) (Option.some Jvm.ClassFile.FieldType.boolean), Jvm.Cond.code ({ cls := "java/util/ArrayList", name := "add", desc := "(Ljava/lang/Object;[Ljava/lang/Object;I)V" } : Jvm.MethodName) jdk_38_method_24_code (4 : Nat) (Option.none : Option Jvm.ClassFile.FieldType), Jvm.Cond.code ({ cls := "java/util/ArrayList", name := "grow", desc := "()[Ljava/lang/Object;" } : Jvm.MethodName) jdk_38_method_7_code (1 : Nat) (Option.some (Jvm.ClassFile.FieldType.array (Jvm.ClassFile.FieldType.object "java/lang/Object"))), Jvm.Cond.code ({ cls := "java/util/ArrayList", name := "grow", desc := "(I)[Ljava/lang/Object;" } : Jvm.MethodName) jdk_38_method_6_code (4 : Nat) (Option.some (Jvm.ClassFile.FieldType.array (Jvm.ClassFile.FieldType.object "java/lang/Object"))), Jvm.Cond.code ({ cls := "java/lang/Math", name := "max", desc := "(II)I" } : Jvm.MethodName) jdk_29_method_65_code (2 : Nat) (Option.some Jvm.ClassFile.FieldType.int), Jvm.Cond.code ({ cls := "java/util/ArrayList", name := "toArray", desc := "()[Ljava/lang/Object;" } : Jvm.MethodName) jdk_38_method_16_code (1 : Nat) (Option.some (Jvm.ClassFile.FieldType.array (Jvm.ClassFile.FieldType.object "java/lang/Object"))), Jvm.Cond.code ({ cls := "java/util/Arrays", name := "copyOf", desc := "([Ljava/lang/Object;I)[Ljava/lang/Object;" } : Jvm.MethodName) jdk_65_method_119_code (2 : Nat) (Option.some (Jvm.ClassFile.FieldType.array (Jvm.ClassFile.FieldType.object "java/lang/Object"))), Jvm.Cond.code ({ cls := "java/util/Arrays", name := "copyOf", desc := "([Ljava/lang/Object;ILjava/lang/Class;)[Ljava/lang/Object;" } : Jvm.MethodName) jdk_65_method_120_code (4 : Nat) (Option.some (Jvm.ClassFile.FieldType.array (Jvm.ClassFile.FieldType.object "java/lang/Object"))), Jvm.Cond.code ({ cls := "java/lang/Math", name := "min", desc := "(II)I" } : Jvm.MethodName) jdk_29_method_69_code (2 : Nat) (Option.some Jvm.ClassFile.FieldType.int), Jvm.Cond.code ({ cls := "java/util/List", name := "of", desc := "([Ljava/lang/Object;)Ljava/util/List;" } : Jvm.MethodName) jdk_40_method_47_code (2 : Nat) (Option.some (Jvm.ClassFile.FieldType.object "java/util/List")), Jvm.Cond.code ({ cls := "java/util/ImmutableCollections$List12", name := "<init>", desc := "(Ljava/lang/Object;)V" } : Jvm.MethodName) jdk_44_method_1_code (2 : Nat) (Option.none : Option Jvm.ClassFile.FieldType), Jvm.Cond.code ({ cls := "java/util/ImmutableCollections$AbstractImmutableList", name := "<init>", desc := "()V" } : Jvm.MethodName) jdk_46_method_1_code (1 : Nat) (Option.none : Option Jvm.ClassFile.FieldType), Jvm.Cond.code ({ cls := "java/util/ImmutableCollections$AbstractImmutableCollection", name := "<init>", desc := "()V" } : Jvm.MethodName) jdk_47_method_1_code (1 : Nat) (Option.none : Option Jvm.ClassFile.FieldType), Jvm.Cond.code ({ cls := "java/util/Objects", name := "requireNonNull", desc := "(Ljava/lang/Object;)Ljava/lang/Object;" } : Jvm.MethodName) jdk_31_method_10_code (1 : Nat) (Option.some (Jvm.ClassFile.FieldType.object "java/lang/Object")), Jvm.Cond.code ({ cls := "java/util/ImmutableCollections$List12", name := "isEmpty", desc := "()Z" } : Jvm.MethodName) jdk_44_method_4_code (1 : Nat) (Option.some Jvm.ClassFile.FieldType.boolean), Jvm.Cond.code ({ cls := "java/util/ImmutableCollections", name := "listFromArray", desc := "([Ljava/lang/Object;)Ljava/util/List;" } : Jvm.MethodName) jdk_56_method_4_code (3 : Nat) (Option.some (Jvm.ClassFile.FieldType.object "java/util/List")), Jvm.Cond.code ({ cls := "java/util/ImmutableCollections$ListN", name := "<init>", desc := "([Ljava/lang/Object;Z)V" } : Jvm.MethodName) jdk_45_method_1_code (3 : Nat) (Option.none : Option Jvm.ClassFile.FieldType), Jvm.Cond.code ({ cls := "java/util/ImmutableCollections$List12", name := "<init>", desc := "(Ljava/lang/Object;Ljava/lang/Object;)V" } : Jvm.MethodName) jdk_44_method_2_code (3 : Nat) (Option.none : Option Jvm.ClassFile.FieldType)]
set_option maxRecDepth 65536 in
theorem codes_eq : words1.filter isCode = codes1 := rfl
theorem w_codes : ∀ c ∈ words1.filter isCode, c.before args0 about1 = true := by
  rw [codes_eq]
  intro c hc
  simp only [codes1, List.mem_cons, List.not_mem_nil, or_false] at hc
  rcases hc with rfl | rfl | rfl | rfl | rfl | rfl | rfl | rfl | rfl | rfl | rfl | rfl | rfl | rfl | rfl | rfl | rfl | rfl | rfl | rfl | rfl | rfl | rfl | rfl | rfl | rfl | rfl | rfl | rfl | rfl | rfl | rfl | rfl | rfl | rfl | rfl
  · exact w_c0
  · exact w_c1
  · exact w_c2
  · exact w_c3
  · exact w_c4
  · exact w_c5
  · exact w_c6
  · exact w_c7
  · exact w_c8
  · exact w_c9
  · exact w_c10
  · exact w_c11
  · exact w_c12
  · exact w_c13
  · exact w_c14
  · exact w_c15
  · exact w_c16
  · exact w_c17
  · exact w_c18
  · exact w_c19
  · exact w_c20
  · exact w_c21
  · exact w_c22
  · exact w_c23
  · exact w_c24
  · exact w_c25
  · exact w_c26
  · exact w_c27
  · exact w_c28
  · exact w_c29
  · exact w_c30
  · exact w_c31
  · exact w_c32
  · exact w_c33
  · exact w_c34
  · exact w_c35
set_option maxRecDepth 65536 in
theorem w_t1 : (words1.take 24).all (fun c => isCode c || c.before args0 about1) = true := by decide +kernel
set_option maxRecDepth 65536 in
theorem w_t2 : ((words1.drop 24).take 24).all (fun c => isCode c || c.before args0 about1) = true := by decide +kernel
set_option maxRecDepth 65536 in
theorem w_t3 : (((words1.drop 24).drop 24).take 24).all (fun c => isCode c || c.before args0 about1) = true := by decide +kernel
set_option maxRecDepth 65536 in
theorem w_t4 : ((((words1.drop 24).drop 24).drop 24).take 24).all (fun c => isCode c || c.before args0 about1) = true := by decide +kernel
set_option maxRecDepth 65536 in
theorem w_t5 : (((((words1.drop 24).drop 24).drop 24).drop 24).take 24).all (fun c => isCode c || c.before args0 about1) = true := by decide +kernel
set_option maxRecDepth 65536 in
theorem w_t6 : ((((((words1.drop 24).drop 24).drop 24).drop 24).drop 24).take 24).all (fun c => isCode c || c.before args0 about1) = true := by decide +kernel
set_option maxRecDepth 65536 in
theorem w_t7 : (((((((words1.drop 24).drop 24).drop 24).drop 24).drop 24).drop 24).take 24).all (fun c => isCode c || c.before args0 about1) = true := by decide +kernel
set_option maxRecDepth 65536 in
theorem w_t8 : ((((((((words1.drop 24).drop 24).drop 24).drop 24).drop 24).drop 24).drop 24).take 24).all (fun c => isCode c || c.before args0 about1) = true := by decide +kernel
set_option maxRecDepth 65536 in
theorem w_t9 : (((((((((words1.drop 24).drop 24).drop 24).drop 24).drop 24).drop 24).drop 24).drop 24).take 24).all (fun c => isCode c || c.before args0 about1) = true := by decide +kernel
set_option maxRecDepth 65536 in
theorem w_t10 : ((((((((((words1.drop 24).drop 24).drop 24).drop 24).drop 24).drop 24).drop 24).drop 24).drop 24).take 24).all (fun c => isCode c || c.before args0 about1) = true := by decide +kernel
set_option maxRecDepth 65536 in
theorem w_t11 : ((((((((((words1.drop 24).drop 24).drop 24).drop 24).drop 24).drop 24).drop 24).drop 24).drop 24).drop 24).all (fun c => isCode c || c.before args0 about1) = true := by decide +kernel
theorem w_tables : (allAtoms (Jvm.Cond.code x code maxLocals ret :: tables_1)).before args0 about1 = true := by
  rw [allAtoms_all]
  show words1.all (fun c => c.before args0 about1) = true
  refine all_split ?_ w_codes
  rw [← List.take_append_drop 24 words1, List.all_append, w_t1, ← List.take_append_drop 24 (words1.drop 24), List.all_append, w_t2, ← List.take_append_drop 24 ((words1.drop 24).drop 24), List.all_append, w_t3, ← List.take_append_drop 24 (((words1.drop 24).drop 24).drop 24), List.all_append, w_t4, ← List.take_append_drop 24 ((((words1.drop 24).drop 24).drop 24).drop 24), List.all_append, w_t5, ← List.take_append_drop 24 (((((words1.drop 24).drop 24).drop 24).drop 24).drop 24), List.all_append, w_t6, ← List.take_append_drop 24 ((((((words1.drop 24).drop 24).drop 24).drop 24).drop 24).drop 24), List.all_append, w_t7, ← List.take_append_drop 24 (((((((words1.drop 24).drop 24).drop 24).drop 24).drop 24).drop 24).drop 24), List.all_append, w_t8, ← List.take_append_drop 24 ((((((((words1.drop 24).drop 24).drop 24).drop 24).drop 24).drop 24).drop 24).drop 24), List.all_append, w_t9, ← List.take_append_drop 24 (((((((((words1.drop 24).drop 24).drop 24).drop 24).drop 24).drop 24).drop 24).drop 24).drop 24), List.all_append, w_t10, w_t11]
  rfl
set_option maxRecDepth 65536 in
theorem w_rest : rest_1_c.before args0 about1 = true := by decide +kernel
set_option maxRecDepth 65536 in
theorem w_case : (Jvm.Cond.and given_1 narrow_1).before args0 about1 = true := by decide +kernel
theorem w_applies : (headSpec (Jvm.Cond.code x code maxLocals ret :: tables_1) room_1).applies x e0.platform about1 = true :=
  (Spec.applies_iff w_frames).mpr ⟨w_running, w_runnable, w_alone, w_named, w_hears, w_ripe, w_room, w_tables⟩
theorem atStart : AtStart classFile x code maxLocals ret World_1 tables_1 room_1 Calls_1 rest_1 Pre_1 launch0 p0 e0 about1 theMethod args0 below0 :=
  ⟨lists_1, trivial, launch0.admits_env _ _ _, launch0.least_env, fairChoices_fair.cas, fairChoices_fair.clock, w_frames, w_args, w_heap, w_applies, ⟨⟨36, k36, 4, by decide +kernel, rfl, rfl, _, rfl, rfl⟩, trivial⟩, w_rest, w_case⟩
end start1
theorem witness_1 : WitnessClaimed_1 := ⟨start1.p0, start1.e0, start1.about1, start1.theMethod, start1.args0, start1.below0, start1.atStart⟩
end Jvm.Pilot.@@N@@
