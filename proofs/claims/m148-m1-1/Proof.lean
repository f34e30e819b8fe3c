import JvmDerived
import JvmDerived.Pilot.@@N@@Statement
import JvmDerived.Pilot.@@N@@Code
set_option linter.unusedVariables false
set_option linter.unusedSimpArgs false

namespace Jvm.Pilot.@@N@@
open Jvm Jvm.ClassFile Sem Op Lib Jvm.Free Jvm.Stand Jvm.LawKit Jvm.RoadKit Bundle Jvm.Pilot.@@N@@.Jvm.D

section OwnKit
variable {p : Program} {l : Launch} {e : Env} {R : Room} {s : State} {m : MethodId} {args : Array Value} {below : List Frame} {meth : Method} {c : Code} {T T' : State} {locs : List Loc} {cells slots : Nat} {Z : State} {a0 : Array Value} {h : Heap} {K N : Nat} {Q : Option Value → Heap → List Loc → Prop} {g g' : JFrame}
/-- from the frame g over T the body comes to its end, and there Q holds -/
def Go (p : Program) (e : Env) (s : State) (below : List Frame) (K N : Nat) (Q : Option Value → Heap → List Loc → Prop) (T : State) (g : JFrame) : Prop :=
  ∃ s₂ o, Steps p.tables e below (T.setTop g) s₂ ∧ s₂.status = .running ∧ Ended s₂ below o ∧ ∃ v L, o = .returned v ∧ Q v s₂.heap L ∧ FrameEnd s o s₂ L K N
theorem Go.of (st : ∀ t, Steps p.tables e below (T'.setTop g') t → Steps p.tables e below (T.setTop g) t) (q : Go p e s below K N Q T' g') : Go p e s below K N Q T g := by
  obtain ⟨s2, o, h1, r⟩ := q
  exact ⟨s2, o, st _ h1, r⟩
theorem own_retI (X : Stand p l e R s m args below meth c T locs cells slots) (hx : p.tables.exec = Jvm.exec) {pc : Nat} {Ls : Array Slot} {z : Int32} {rest : List Value} (hret : meth.sig.returnType = some .int) (hd : decode c.code pc = .ok (.ireturn, 1)) {fs : List Frame}
    (hl : ∀ (f : JFrame) (acts : List Action), f.method = m → f.locked = none → f.entered = [] → (doReturn e (T.setTop f) acts (some (.int z))).1 = T.setFrames fs) : Steps p.tables e below (T.setTop (mkF m pc Ls (.int z :: rest))) (T.setFrames fs) := by
  have hm' : T.vm.method? m = some meth := X.method'
  have hn : narrow .int (.int z) = .int z := rfl
  show Steps p.tables e below (T.setTop { method := m, pc := pc, locals := Ls, stack := _ :: rest, locked := none }) _
  jvm_step X.here [X.here.top, hx, hd, hm', hret, hn]
  first | (intro acts; rw [hl _ acts rfl rfl rfl]) | rw [hl _ _ rfl rfl rfl]
  exact Steps.refl _
theorem Go.retI (X : Stand p l e R s m args below meth c T locs cells slots) (hx : p.tables.exec = Jvm.exec) (hlk : meth.locks = false) {pc : Nat} {Ls : Array Slot} {z : Int32} {rest : List Value} (hret : meth.sig.returnType = some .int) (hd : decode c.code pc = .ok (.ireturn, 1)) (hK : cells ≤ K) (hN : slots ≤ N)
    (hQ : Q (some (.int z)) T.heap locs) : Go p e s below K N Q T (mkF m pc Ls (.int z :: rest)) := by
  obtain ⟨fs, hr, hrun, hended, hW, hsame⟩ := X.leave (v := some (.int z)) (fun q => by rw [hret] at q; cases q) hlk
  exact ⟨_, _, own_retI X hx hret hd hr, hrun, hended, _, _, rfl, hQ, ⟨_, rfl⟩, hW, hsame.mono hK hN⟩
theorem Go.retN (X : Stand p l e R s m args below meth c T locs cells slots) (hx : p.tables.exec = Jvm.exec) (hlk : meth.locks = false) {pc : Nat} {Ls : Array Slot} {z z' : Int32} {t : FieldType} {rest : List Value} (hret : meth.sig.returnType = some t) (ht : t = .boolean ∨ t = .byte ∨ t = .char ∨ t = .short) (hd : decode c.code pc = .ok (.ireturn, 1)) (hz : nar t z = z') (hK : cells ≤ K) (hN : slots ≤ N)
    (hQ : Q (some (.int z')) T.heap locs) : Go p e s below K N Q T (mkF m pc Ls (.int z :: rest)) := by
  subst hz
  obtain ⟨fs, hr, hrun, hended, hW, hsame⟩ := X.leave (v := some (.int (nar t z))) (fun q => by rw [hret] at q; cases q) hlk
  exact ⟨_, _, Jvm.RoadKit.retN X hx hret ht hd hr, hrun, hended, _, _, rfl, hQ, ⟨_, rfl⟩, hW, hsame.mono hK hN⟩
theorem Go.retA (X : Stand p l e R s m args below meth c T locs cells slots) (hx : p.tables.exec = Jvm.exec) (hlk : meth.locks = false) {pc : Nat} {Ls : Array Slot} {w : Value} {t : FieldType} {rest : List Value} (hret : meth.sig.returnType = some t) (ht : t.isReference = true) (hw : w.isRef = true) (hd : decode c.code pc = .ok (.areturn, 1)) (hK : cells ≤ K) (hN : slots ≤ N)
    (hQ : Q (some w) T.heap locs) : Go p e s below K N Q T (mkF m pc Ls (w :: rest)) := by
  obtain ⟨fs, hr, hrun, hended, hW, hsame⟩ := X.leave (v := some w) (fun q => by rw [hret] at q; cases q) hlk
  have hn : narrow t w = w := by
    cases t <;> first | (cases ht; done) | (cases w <;> first | rfl | (cases hw; done))
  exact ⟨_, _, retOut X hx hret hn (Or.inr (Or.inr (Or.inr (Or.inr ⟨rfl, ht, hw⟩)))) hd hr, hrun, hended, _, _, rfl, hQ, ⟨_, rfl⟩, hW, hsame.mono hK hN⟩
theorem Go.retV (X : Stand p l e R s m args below meth c T locs cells slots) (hx : p.tables.exec = Jvm.exec) (hlk : meth.locks = false) {pc : Nat} {Ls : Array Slot} (hret : meth.sig.returnType = none) (hd : decode c.code pc = .ok (.return_, 1)) (hK : cells ≤ K) (hN : slots ≤ N)
    (hQ : Q none T.heap locs) : Go p e s below K N Q T (mkF m pc Ls []) := by
  obtain ⟨fs, hr, hrun, hended, hW, hsame⟩ := X.leave (v := none) (fun _ => rfl) hlk
  exact ⟨_, _, X.returnOut hx hret hd hr, hrun, hended, _, _, rfl, hQ, ⟨_, rfl⟩, hW, hsame.mono hK hN⟩
/-- a body's contract in this family -/
def Con (l : Launch) (Z : State) (y : MethodName) (bytes : ByteArray) (maxL : Nat) (ret : Option FieldType) (ws : List Jvm.Cond) (rm : Room) (as' : Array Value) (h : Heap) (Q : Option Value → Heap → List Loc → Prop) : Prop :=
  MetFree l y (head1 (Jvm.Cond.code y bytes maxL ret :: ws) rm) (fun a U => a = as' ∧ Z.Warmed39 U.vm ∧ U.heap = h) (fun _ _ _ _ _ => True) (fun _ U o U' => ∃ v L, o = .returned v ∧ Q v U'.heap L ∧ FrameEnd U o U' L rm.cells rm.slots)
/-- what a walk knows of the body that it walks -/
def Cx (Z : State) (p : Program) (s : State) (m : MethodId) (meth : Method) (c : Code) (own : String) (bytes : ByteArray) (ml : Nat) (nm : String) (rt : Option FieldType) : Prop :=
  p.tables.exec = Jvm.exec ∧ Z.Warmed39 s.vm ∧ s.vm.findClass own = some m.cls ∧ c.code = bytes ∧ c.maxLocals = ml ∧ meth.name = nm ∧ meth.sig.returnType = rt ∧ meth.locks = false
theorem Con.mk {y : MethodName} {bytes : ByteArray} {maxL : Nat} {ret : Option FieldType} {ws : List Jvm.Cond} {rm : Room} {as' : Array Value} (hp : plainFor y = true)
    (body : ∀ p e s m below meth c s₁, Cx Z p s m meth c y.cls bytes maxL y.name ret → Stand p l e rm s m as' below meth c s₁ [] 0 0 → s₁.heap = h → Go p e s below rm.cells rm.slots Q s₁ (entryFrame m as' maxL)) : Con l Z y bytes maxL ret ws rm as' h Q := by
  refine MetFree.of_bodySF hp hisR ?_
  intro p e s m args below meth c s₁ Bd hml0 hP hK
  obtain ⟨rfl, hZ, hh⟩ := hP
  exact body p e s m below meth c s₁ ⟨Bd.exec, hZ, findClass_of_methodNamed Bd.named, Bd.bytes, hml0, (name_of_methodNamed Bd.named Bd.method).1, Bd.returns, Bd.notSynchronized⟩ (Stand.of_body Bd) (by rw [← hh, Bd.state]; rfl)
section Calls
variable {y : MethodName} {bytes : ByteArray} {maxL : Nat} {ret : Option FieldType} {rm : Room} {own : String} {index W : Nat} {argsL rest : List Value} {Q' : Option Value → Heap → List Loc → Prop}
/-- what a call leaves -/
def Called (p : Program) (l : Launch) (e : Env) (R : Room) (s : State) (m : MethodId) (args : Array Value) (below : List Frame) (meth : Method) (c : Code) (locs : List Loc) (cells slots : Nat) (Q' : Option Value → Heap → List Loc → Prop) (T : State) (g : JFrame) (len : Nat) (rest : List Value) : Prop :=
  ∃ v T' L, Stand p l e R s m args below meth c T' (locs ++ L) cells slots ∧ Q' v T'.heap L ∧ ∀ t, Steps p.tables e below (T'.setTop { g with pc := g.pc + len, stack := v.toList ++ rest }) t → Steps p.tables e below (T.setTop g) t
theorem own_callS (X : Stand p l e R s m args below meth c T locs cells slots) (hx : p.tables.exec = Jvm.exec) (hZ : Z.Warmed39 s.vm) (hown : s.vm.findClass own = some m.cls)
    (wl : (Jvm.Cond.methodLink own index y).before a0 Z = true) (wst : (Jvm.Cond.static y).before a0 Z = true) (wi : (Jvm.Cond.initialized y.cls).before a0 Z = true) (wc : (Jvm.Cond.code y bytes maxL ret).before a0 Z = true) (hy : y.cls ≠ "java/lang/invoke/MethodHandle" ∧ y.cls ≠ "java/lang/invoke/VarHandle")
    (hM : Con l Z y bytes maxL ret [] rm argsL.toArray h Q') (eT : T.heap = h) (hg : g.method = m) (hsize : g.locals.size = c.maxLocals) (hlen : ∀ sig, parseMethodDescriptor y.desc = some sig → argsL.length = sig.parameters.length) (hstack : g.stack = argsL.reverse ++ rest)
    (hW : 2 * g.monitorRoom + (rest.map fun v => v.category).sum ≤ W) (hdg : decode c.code g.pc = .ok (.invokestatic index, 3)) (hf : rm.frames + 1 ≤ R.frames) (hl : W + (maxL + 11) + rm.locals ≤ R.locals) (hc : cells + rm.cells ≤ R.cells) (hs : slots + rm.slots ≤ R.slots) :
    Called p l e R s m args below meth c locs (cells + rm.cells) (slots + rm.slots) Q' T g 3 rest := by
  obtain ⟨v, _, ⟨T1, L1, k1, n1⟩, -, X1, ⟨Lc, hQ, l1, y1, z1⟩, st⟩ := Jvm.LawKit.callS X hx (y := y) hown (mvT hZ wl) (mvT hZ wst) (mvT hZ wi) (mvT hZ wc) hy (backOf (W := W) hM hZ wc wi hf hl) hg hsize (argsL := argsL) (rest := rest) hlen hstack hW hdg (fun _ _ => ⟨rfl, eT, hc, hs⟩)
  dsimp only [Pt.U, Pt.locs, Pt.cells, Pt.slots] at X1 l1 y1 z1 st hQ
  subst l1 y1 z1
  exact ⟨v, T1, Lc, X1, hQ, st⟩
theorem own_callI (X : Stand p l e R s m args below meth c T locs cells slots) (hx : p.tables.exec = Jvm.exec) (hZ : Z.Warmed39 s.vm) (hown : s.vm.findClass own = some m.cls) (hin : y.name = "<init>")
    (wl : (Jvm.Cond.methodLink own index y).before a0 Z = true) (wim : (Jvm.Cond.instanceMethod y).before a0 Z = true) (wi : (Jvm.Cond.initialized y.cls).before a0 Z = true) (wc : (Jvm.Cond.code y bytes maxL none).before a0 Z = true) (hy : y.cls ≠ "java/lang/invoke/MethodHandle" ∧ y.cls ≠ "java/lang/invoke/VarHandle")
    {a : Addr} (hM : Con l Z y bytes maxL none [] rm (Value.ref a :: argsL).toArray h Q') (eT : T.heap = h) (hg : g.method = m) (hsize : g.locals.size = c.maxLocals) (hlen : ∀ sig, parseMethodDescriptor y.desc = some sig → argsL.length = sig.parameters.length) (hstack : g.stack = argsL.reverse ++ .ref a :: rest)
    (hW : 2 * g.monitorRoom + (rest.map fun v => v.category).sum ≤ W) (hdg : decode c.code g.pc = .ok (.invokespecial index, 3)) (hf : rm.frames + 1 ≤ R.frames) (hl : W + (maxL + 11) + rm.locals ≤ R.locals) (hc : cells + rm.cells ≤ R.cells) (hs : slots + rm.slots ≤ R.slots) :
    Called p l e R s m args below meth c locs (cells + rm.cells) (slots + rm.slots) Q' T g 3 rest := by
  obtain ⟨v, _, ⟨T1, L1, k1, n1⟩, -, X1, ⟨Lc, hQ, l1, y1, z1⟩, st⟩ := X.specialBack hx (y := y) hin hown (mvT hZ wl) (mvT hZ wim) (mvT hZ wc) hy (backOf (W := W) hM hZ wc wi hf hl) hg hsize (Steps.refl _) (a := a) (argsL := argsL) (rest := rest) hlen hstack hW hdg (fun _ _ => ⟨rfl, eT, hc, hs⟩)
  dsimp only [Pt.U, Pt.locs, Pt.cells, Pt.slots] at X1 l1 y1 z1 st hQ
  subst l1 y1 z1
  exact ⟨v, T1, Lc, X1, hQ, fun _ hr => st.trans hr⟩
theorem own_callV (X : Stand p l e R s m args below meth c T locs cells slots) (hx : p.tables.exec = Jvm.exec) (hZ : Z.Warmed39 s.vm) (hown : s.vm.findClass own = some m.cls) {z : MethodName} {C : String}
    (wl : (Jvm.Cond.methodLink own index y).before a0 Z = true) (wd : (Jvm.Cond.declares y).before a0 Z = true) (nf : NotFace s y) (wsel : (Jvm.Cond.selects C y z).before a0 Z = true) (wim : (Jvm.Cond.instanceMethod z).before a0 Z = true) (wi : (Jvm.Cond.initialized z.cls).before a0 Z = true) (wc : (Jvm.Cond.code z bytes maxL ret).before a0 Z = true) (hy : y.cls ≠ "java/lang/invoke/MethodHandle" ∧ y.cls ≠ "java/lang/invoke/VarHandle")
    {a : Addr} (E : Exa Z h a C) (hM : Con l Z z bytes maxL ret [] rm (Value.ref a :: argsL).toArray h Q') (eT : T.heap = h) (hg : g.method = m) (hsize : g.locals.size = c.maxLocals) (hlen : ∀ sig, parseMethodDescriptor y.desc = some sig → argsL.length = sig.parameters.length) (hstack : g.stack = argsL.reverse ++ .ref a :: rest)
    (hW : 2 * g.monitorRoom + (rest.map fun v => v.category).sum ≤ W) (hdg : decode c.code g.pc = .ok (.invokevirtual index, 3)) (hf : rm.frames + 1 ≤ R.frames) (hl : W + (maxL + 11) + rm.locals ≤ R.locals) (hc : cells + rm.cells ≤ R.cells) (hs : slots + rm.slots ≤ R.slots) :
    Called p l e R s m args below meth c locs (cells + rm.cells) (slots + rm.slots) Q' T g 3 rest := by
  obtain ⟨cq, kq, qa, qb, qc⟩ := isOf hZ eT E
  obtain ⟨v, _, ⟨T1, L1, k1, n1⟩, -, X1, ⟨Lc, hQ, l1, y1, z1⟩, st⟩ := X.virtualBack hx (y := y) (z := z) hown (mvT hZ wl) (mvT hZ wd) nf (mvT hZ wsel) (mvT hZ wim) hy (backOf (W := W) hM hZ wc wi hf hl) qa qc hg hsize (Steps.refl _) (argsL := argsL) (rest := rest) hlen hstack hW hdg (fun _ _ => ⟨rfl, eT, hc, hs⟩)
  dsimp only [Pt.U, Pt.locs, Pt.cells, Pt.slots] at X1 l1 y1 z1 st hQ
  subst l1 y1 z1
  exact ⟨v, T1, Lc, X1, hQ, fun _ hr => st.trans hr⟩
/-- an inherited method, by the class that the entry names -/
theorem own_callU (X : Stand p l e R s m args below meth c T locs cells slots) (hx : p.tables.exec = Jvm.exec) (hZ : Z.Warmed39 s.vm) (hown : s.vm.findClass own = some m.cls) {z : MethodName} {C owner : String}
    (wl : (Jvm.Cond.methodLink own index y).before a0 Z = true) (wsm : (Jvm.Cond.sameMethod y.cls owner y.name y.desc).before a0 Z = true) (wd : (Jvm.Cond.declares ⟨owner, y.name, y.desc⟩).before a0 Z = true) (wsel : (Jvm.Cond.selects C y z).before a0 Z = true) (wim : (Jvm.Cond.instanceMethod z).before a0 Z = true) (wi : (Jvm.Cond.initialized z.cls).before a0 Z = true) (wc : (Jvm.Cond.code z bytes maxL ret).before a0 Z = true) (ho : owner ≠ "java/lang/invoke/MethodHandle" ∧ owner ≠ "java/lang/invoke/VarHandle")
    {a : Addr} (E : Exa Z h a C) (hM : Con l Z z bytes maxL ret [] rm (Value.ref a :: argsL).toArray h Q') (eT : T.heap = h) (hg : g.method = m) (hsize : g.locals.size = c.maxLocals) (hlen : ∀ sig, parseMethodDescriptor y.desc = some sig → argsL.length = sig.parameters.length) (hstack : g.stack = argsL.reverse ++ .ref a :: rest)
    (hW : 2 * g.monitorRoom + (rest.map fun v => v.category).sum ≤ W) (hdg : decode c.code g.pc = .ok (.invokevirtual index, 3)) (hf : rm.frames + 1 ≤ R.frames) (hl : W + (maxL + 11) + rm.locals ≤ R.locals) (hc : cells + rm.cells ≤ R.cells) (hs : slots + rm.slots ≤ R.slots) :
    Called p l e R s m args below meth c locs (cells + rm.cells) (slots + rm.slots) Q' T g 3 rest := by
  obtain ⟨cq, kq, qa, qb, cellB, hcellT, hclsB, hstatB⟩ := isOf hZ eT E
  obtain ⟨r0, r, hn, hrm, hstR, hsigR⟩ := Cond.declares_spec (mv (args := args) hZ wd)
  obtain ⟨mk, methM, hnamed, hmethM, -, habM⟩ := Cond.instanceMethod_spec (mv (args := args) hZ wim)
  obtain ⟨c2, r2, m2, q1, q2, q3, q4, kP, hkP, hkPi⟩ := Cond.selects_spec (mv (args := args) hZ wsel)
  obtain ⟨cn, ck, r1, hcn, hck, hni, hfd, hn1⟩ := Cond.sameMethod_found (mv (args := args) hZ wsm)
  cases qa.symm.trans q1
  cases hn.symm.trans hn1
  cases hfd.symm.trans q2
  cases hnamed.symm.trans q3
  have hselP : selectMethod e.platform s.vm cellB.cls r0 = .method mk := by rw [Launch.admits_selectMethod X.admits, hclsB]; exact q4
  obtain ⟨vm₁, X₁, hstep₁⟩ := X.invokevirtualUp hx hown (mv hZ wl) (mv hZ wsm) ho hn hrm hstR (a := a) (cell := cellB) hcellT
    (fun z h => by rw [h] at hstatB; cases hstatB) hselP hmethM habM hkP hkPi (g := g) hg (argsL := argsL) (rest := rest) (hlen _ hsigR) hstack hdg
  obtain ⟨v, ⟨T1, L1, k1, n1⟩, X1, ⟨Lc, hQ, l1, y1, z1⟩, st⟩ := (backOf (p := p) (e := e) (below := below) (s := s) (args := args) (len := 3) (W := W) hM hZ wc wi hf hl) m meth c ⟨T.setVm vm₁, locs, cells, slots⟩ { g with stack := rest } (.invokevirtual index) mk (.ref a :: argsL).toArray X₁ hg hsize hdg hW (X₁.named hnamed) ⟨rfl, eT, hc, hs⟩
  dsimp only [Pt.U, Pt.locs, Pt.cells, Pt.slots] at X1 l1 y1 z1 st hQ
  subst l1 y1 z1
  exact ⟨v, T1, Lc, X1, hQ, fun t hr => hstep₁ _ fun acts => by rw [doInvoke_state]; exact st.trans hr⟩
end Calls
/-- an equation of the case's words -/
theorem own_eqI {t : Term} {n : Int32} (q : (Jvm.Cond.eq t (.int n)).value args s none s [] = some true) : t.eval args s none [] s = some (.int n) := by
  cases ha : t.eval args s none [] s with
  | none => simp [Cond.value, ha] at q
  | some x => cases x <;> simp [Cond.value, Term.eval, ha] at q ⊢; exact q
end OwnKit

def selP (k : Int32) (w_INTERNALS w_NATIVE_CODE w_CLASS_LOADER w_REFLECTION w_THREADS w_PROCESS w_NETWORK_IO w_FILE_IO w_JVM_STATE w_STATIC_STATE w_CLOSURE_STATE : Addr) : Addr := if k = 0 then w_INTERNALS else if k = 1 then w_NATIVE_CODE else if k = 2 then w_CLASS_LOADER else if k = 3 then w_REFLECTION else if k = 4 then w_THREADS else if k = 5 then w_PROCESS else if k = 6 then w_NETWORK_IO else if k = 7 then w_FILE_IO else if k = 8 then w_JVM_STATE else if k = 9 then w_STATIC_STATE else w_CLOSURE_STATE
theorem selP_exa {Z : State} {h0 : Heap} {k : Int32} {w_INTERNALS w_NATIVE_CODE w_CLASS_LOADER w_REFLECTION w_THREADS w_PROCESS w_NETWORK_IO w_FILE_IO w_JVM_STATE w_STATIC_STATE w_CLOSURE_STATE : Addr} (E_INTERNALS : Exa Z h0 w_INTERNALS "com/example/measured_flow/measuredflow/CodeRule") (E_NATIVE_CODE : Exa Z h0 w_NATIVE_CODE "com/example/measured_flow/measuredflow/CodeRule") (E_CLASS_LOADER : Exa Z h0 w_CLASS_LOADER "com/example/measured_flow/measuredflow/CodeRule") (E_REFLECTION : Exa Z h0 w_REFLECTION "com/example/measured_flow/measuredflow/CodeRule") (E_THREADS : Exa Z h0 w_THREADS "com/example/measured_flow/measuredflow/CodeRule") (E_PROCESS : Exa Z h0 w_PROCESS "com/example/measured_flow/measuredflow/CodeRule") (E_NETWORK_IO : Exa Z h0 w_NETWORK_IO "com/example/measured_flow/measuredflow/CodeRule") (E_FILE_IO : Exa Z h0 w_FILE_IO "com/example/measured_flow/measuredflow/CodeRule") (E_JVM_STATE : Exa Z h0 w_JVM_STATE "com/example/measured_flow/measuredflow/CodeRule") (E_STATIC_STATE : Exa Z h0 w_STATIC_STATE "com/example/measured_flow/measuredflow/CodeRule") (E_CLOSURE_STATE : Exa Z h0 w_CLOSURE_STATE "com/example/measured_flow/measuredflow/CodeRule") : Exa Z h0 (selP k w_INTERNALS w_NATIVE_CODE w_CLASS_LOADER w_REFLECTION w_THREADS w_PROCESS w_NETWORK_IO w_FILE_IO w_JVM_STATE w_STATIC_STATE w_CLOSURE_STATE) "com/example/measured_flow/measuredflow/CodeRule" := by
  unfold selP
  by_cases h0 : k = 0
  · simp only [if_pos h0]; exact E_INTERNALS
  simp only [if_neg h0]
  by_cases h1 : k = 1
  · simp only [if_pos h1]; exact E_NATIVE_CODE
  simp only [if_neg h1]
  by_cases h2 : k = 2
  · simp only [if_pos h2]; exact E_CLASS_LOADER
  simp only [if_neg h2]
  by_cases h3 : k = 3
  · simp only [if_pos h3]; exact E_REFLECTION
  simp only [if_neg h3]
  by_cases h4 : k = 4
  · simp only [if_pos h4]; exact E_THREADS
  simp only [if_neg h4]
  by_cases h5 : k = 5
  · simp only [if_pos h5]; exact E_PROCESS
  simp only [if_neg h5]
  by_cases h6 : k = 6
  · simp only [if_pos h6]; exact E_NETWORK_IO
  simp only [if_neg h6]
  by_cases h7 : k = 7
  · simp only [if_pos h7]; exact E_FILE_IO
  simp only [if_neg h7]
  by_cases h8 : k = 8
  · simp only [if_pos h8]; exact E_JVM_STATE
  simp only [if_neg h8]
  by_cases h9 : k = 9
  · simp only [if_pos h9]; exact E_STATIC_STATE
  simp only [if_neg h9]
  exact E_CLOSURE_STATE
def ordP (k : Int32) : Int32 := if k = 0 then 0 else if k = 1 then 1 else if k = 2 then 2 else if k = 3 then 3 else if k = 4 then 4 else if k = 5 then 5 else if k = 6 then 6 else if k = 7 then 7 else if k = 8 then 8 else if k = 9 then 9 else 10
theorem selP_ord {Z : State} {h0 : Heap} {k : Int32} {w_INTERNALS w_NATIVE_CODE w_CLASS_LOADER w_REFLECTION w_THREADS w_PROCESS w_NETWORK_IO w_FILE_IO w_JVM_STATE w_STATIC_STATE w_CLOSURE_STATE : Addr} (O_INTERNALS : Fld Z h0 w_INTERNALS "java/lang/Enum" "ordinal" "I" (.int (0 : Int32))) (O_NATIVE_CODE : Fld Z h0 w_NATIVE_CODE "java/lang/Enum" "ordinal" "I" (.int (1 : Int32))) (O_CLASS_LOADER : Fld Z h0 w_CLASS_LOADER "java/lang/Enum" "ordinal" "I" (.int (2 : Int32))) (O_REFLECTION : Fld Z h0 w_REFLECTION "java/lang/Enum" "ordinal" "I" (.int (3 : Int32))) (O_THREADS : Fld Z h0 w_THREADS "java/lang/Enum" "ordinal" "I" (.int (4 : Int32))) (O_PROCESS : Fld Z h0 w_PROCESS "java/lang/Enum" "ordinal" "I" (.int (5 : Int32))) (O_NETWORK_IO : Fld Z h0 w_NETWORK_IO "java/lang/Enum" "ordinal" "I" (.int (6 : Int32))) (O_FILE_IO : Fld Z h0 w_FILE_IO "java/lang/Enum" "ordinal" "I" (.int (7 : Int32))) (O_JVM_STATE : Fld Z h0 w_JVM_STATE "java/lang/Enum" "ordinal" "I" (.int (8 : Int32))) (O_STATIC_STATE : Fld Z h0 w_STATIC_STATE "java/lang/Enum" "ordinal" "I" (.int (9 : Int32))) (O_CLOSURE_STATE : Fld Z h0 w_CLOSURE_STATE "java/lang/Enum" "ordinal" "I" (.int (10 : Int32))) : Fld Z h0 (selP k w_INTERNALS w_NATIVE_CODE w_CLASS_LOADER w_REFLECTION w_THREADS w_PROCESS w_NETWORK_IO w_FILE_IO w_JVM_STATE w_STATIC_STATE w_CLOSURE_STATE) "java/lang/Enum" "ordinal" "I" (.int (ordP k)) := by
  unfold selP ordP
  by_cases h0 : k = 0
  · simp only [if_pos h0]; exact O_INTERNALS
  simp only [if_neg h0]
  by_cases h1 : k = 1
  · simp only [if_pos h1]; exact O_NATIVE_CODE
  simp only [if_neg h1]
  by_cases h2 : k = 2
  · simp only [if_pos h2]; exact O_CLASS_LOADER
  simp only [if_neg h2]
  by_cases h3 : k = 3
  · simp only [if_pos h3]; exact O_REFLECTION
  simp only [if_neg h3]
  by_cases h4 : k = 4
  · simp only [if_pos h4]; exact O_THREADS
  simp only [if_neg h4]
  by_cases h5 : k = 5
  · simp only [if_pos h5]; exact O_PROCESS
  simp only [if_neg h5]
  by_cases h6 : k = 6
  · simp only [if_pos h6]; exact O_NETWORK_IO
  simp only [if_neg h6]
  by_cases h7 : k = 7
  · simp only [if_pos h7]; exact O_FILE_IO
  simp only [if_neg h7]
  by_cases h8 : k = 8
  · simp only [if_pos h8]; exact O_JVM_STATE
  simp only [if_neg h8]
  by_cases h9 : k = 9
  · simp only [if_pos h9]; exact O_STATIC_STATE
  simp only [if_neg h9]
  exact O_CLOSURE_STATE

theorem rng11 {x k : Int32} (hk : (x &&& (2147483647 : Int32)) % (11 : Int32) = k) : k = 0 ∨ k = 1 ∨ k = 2 ∨ k = 3 ∨ k = 4 ∨ k = 5 ∨ k = 6 ∨ k = 7 ∨ k = 8 ∨ k = 9 ∨ k = 10 := by
  have a1 := c_mask x 2147483647 31 (by decide) (by decide)
  have a2 := (c_irem (x &&& 2147483647) 11 11 (by decide)).1 (by rw [a1]; omega)
  rw [hk, a1] at a2
  have a3 : k.toInt = 0 ∨ k.toInt = 1 ∨ k.toInt = 2 ∨ k.toInt = 3 ∨ k.toInt = 4 ∨ k.toInt = 5 ∨ k.toInt = 6 ∨ k.toInt = 7 ∨ k.toInt = 8 ∨ k.toInt = 9 ∨ k.toInt = 10 := by omega
  rcases a3 with q | q | q | q | q | q | q | q | q | q | q
  all_goals simp only [← Int32.toInt_inj, q]; decide
theorem ordP_eq {k : Int32} (q : k = 0 ∨ k = 1 ∨ k = 2 ∨ k = 3 ∨ k = 4 ∨ k = 5 ∨ k = 6 ∨ k = 7 ∨ k = 8 ∨ k = 9 ∨ k = 10) : ordP k = k := by
  rcases q with rfl | rfl | rfl | rfl | rfl | rfl | rfl | rfl | rfl | rfl | rfl <;> decide

theorem pn0 : plainName "com/example/measured_flow/measuredflow/CodeRuleFirstPinLaw" = true := by first | (simp [plainName, overriddenIn]; done) | decide +kernel
theorem d1_0 : decode method_2_code 0 = .ok (.iload_n 0, 1) := by decide +kernel
theorem d1_1 : decode method_2_code 1 = .ok (.ifCond .ne 7, 3) := by decide +kernel
theorem d1_4 : decode method_2_code 4 = .ok (.getstatic 7, 3) := by decide +kernel
theorem d1_7 : decode method_2_code 7 = .ok (.areturn, 1) := by decide +kernel
theorem d1_8 : decode method_2_code 8 = .ok (.iload_n 0, 1) := by decide +kernel
theorem d1_9 : decode method_2_code 9 = .ok (.iconst 1, 1) := by decide +kernel
theorem d1_10 : decode method_2_code 10 = .ok (.if_icmp .ne 7, 3) := by decide +kernel
theorem d1_13 : decode method_2_code 13 = .ok (.getstatic 13, 3) := by decide +kernel
theorem d1_16 : decode method_2_code 16 = .ok (.areturn, 1) := by decide +kernel
theorem d1_17 : decode method_2_code 17 = .ok (.iload_n 0, 1) := by decide +kernel
theorem d1_18 : decode method_2_code 18 = .ok (.iconst 2, 1) := by decide +kernel
theorem d1_19 : decode method_2_code 19 = .ok (.if_icmp .ne 7, 3) := by decide +kernel
theorem d1_22 : decode method_2_code 22 = .ok (.getstatic 16, 3) := by decide +kernel
theorem d1_25 : decode method_2_code 25 = .ok (.areturn, 1) := by decide +kernel
theorem d1_26 : decode method_2_code 26 = .ok (.iload_n 0, 1) := by decide +kernel
theorem d1_27 : decode method_2_code 27 = .ok (.iconst 3, 1) := by decide +kernel
theorem d1_28 : decode method_2_code 28 = .ok (.if_icmp .ne 7, 3) := by decide +kernel
theorem d1_31 : decode method_2_code 31 = .ok (.getstatic 19, 3) := by decide +kernel
theorem d1_34 : decode method_2_code 34 = .ok (.areturn, 1) := by decide +kernel
theorem d1_35 : decode method_2_code 35 = .ok (.iload_n 0, 1) := by decide +kernel
theorem d1_36 : decode method_2_code 36 = .ok (.iconst 4, 1) := by decide +kernel
theorem d1_37 : decode method_2_code 37 = .ok (.if_icmp .ne 7, 3) := by decide +kernel
theorem d1_40 : decode method_2_code 40 = .ok (.getstatic 22, 3) := by decide +kernel
theorem d1_43 : decode method_2_code 43 = .ok (.areturn, 1) := by decide +kernel
theorem d1_44 : decode method_2_code 44 = .ok (.iload_n 0, 1) := by decide +kernel
theorem d1_45 : decode method_2_code 45 = .ok (.iconst 5, 1) := by decide +kernel
theorem d1_46 : decode method_2_code 46 = .ok (.if_icmp .ne 7, 3) := by decide +kernel
theorem d1_49 : decode method_2_code 49 = .ok (.getstatic 25, 3) := by decide +kernel
theorem d1_52 : decode method_2_code 52 = .ok (.areturn, 1) := by decide +kernel
theorem d1_53 : decode method_2_code 53 = .ok (.iload_n 0, 1) := by decide +kernel
theorem d1_54 : decode method_2_code 54 = .ok (.bipush 6, 2) := by decide +kernel
theorem d1_56 : decode method_2_code 56 = .ok (.if_icmp .ne 7, 3) := by decide +kernel
theorem d1_59 : decode method_2_code 59 = .ok (.getstatic 28, 3) := by decide +kernel
theorem d1_62 : decode method_2_code 62 = .ok (.areturn, 1) := by decide +kernel
theorem d1_63 : decode method_2_code 63 = .ok (.iload_n 0, 1) := by decide +kernel
theorem d1_64 : decode method_2_code 64 = .ok (.bipush 7, 2) := by decide +kernel
theorem d1_66 : decode method_2_code 66 = .ok (.if_icmp .ne 7, 3) := by decide +kernel
theorem d1_69 : decode method_2_code 69 = .ok (.getstatic 31, 3) := by decide +kernel
theorem d1_72 : decode method_2_code 72 = .ok (.areturn, 1) := by decide +kernel
theorem d1_73 : decode method_2_code 73 = .ok (.iload_n 0, 1) := by decide +kernel
theorem d1_74 : decode method_2_code 74 = .ok (.bipush 8, 2) := by decide +kernel
theorem d1_76 : decode method_2_code 76 = .ok (.if_icmp .ne 7, 3) := by decide +kernel
theorem d1_79 : decode method_2_code 79 = .ok (.getstatic 34, 3) := by decide +kernel
theorem d1_82 : decode method_2_code 82 = .ok (.areturn, 1) := by decide +kernel
theorem d1_83 : decode method_2_code 83 = .ok (.iload_n 0, 1) := by decide +kernel
theorem d1_84 : decode method_2_code 84 = .ok (.bipush 9, 2) := by decide +kernel
theorem d1_86 : decode method_2_code 86 = .ok (.if_icmp .ne 7, 3) := by decide +kernel
theorem d1_89 : decode method_2_code 89 = .ok (.getstatic 37, 3) := by decide +kernel
theorem d1_92 : decode method_2_code 92 = .ok (.areturn, 1) := by decide +kernel
theorem d1_93 : decode method_2_code 93 = .ok (.getstatic 40, 3) := by decide +kernel
theorem d1_96 : decode method_2_code 96 = .ok (.areturn, 1) := by decide +kernel
set_option maxRecDepth 65536 in
set_option maxHeartbeats 40000000 in
theorem rm1 (l : Launch) (Z : State) (a0 : Array Value) (hw : ∀ d ∈ tables_1, d.before a0 Z = true) (ws : List Jvm.Cond) (k : Int32) (w_INTERNALS w_NATIVE_CODE w_CLASS_LOADER w_REFLECTION w_THREADS w_PROCESS w_NETWORK_IO w_FILE_IO w_JVM_STATE w_STATIC_STATE w_CLOSURE_STATE : Addr) (h0 : Heap) (n0 : Nat) (Z0 : n0 ≤ h0.size) (S_INTERNALS : Sta Z h0 "com/example/measured_flow/measuredflow/CodeRule" "INTERNALS" "Lcom/example/measured_flow/measuredflow/CodeRule;" (.ref w_INTERNALS)) (S_NATIVE_CODE : Sta Z h0 "com/example/measured_flow/measuredflow/CodeRule" "NATIVE_CODE" "Lcom/example/measured_flow/measuredflow/CodeRule;" (.ref w_NATIVE_CODE)) (S_CLASS_LOADER : Sta Z h0 "com/example/measured_flow/measuredflow/CodeRule" "CLASS_LOADER" "Lcom/example/measured_flow/measuredflow/CodeRule;" (.ref w_CLASS_LOADER)) (S_REFLECTION : Sta Z h0 "com/example/measured_flow/measuredflow/CodeRule" "REFLECTION" "Lcom/example/measured_flow/measuredflow/CodeRule;" (.ref w_REFLECTION)) (S_THREADS : Sta Z h0 "com/example/measured_flow/measuredflow/CodeRule" "THREADS" "Lcom/example/measured_flow/measuredflow/CodeRule;" (.ref w_THREADS)) (S_PROCESS : Sta Z h0 "com/example/measured_flow/measuredflow/CodeRule" "PROCESS" "Lcom/example/measured_flow/measuredflow/CodeRule;" (.ref w_PROCESS)) (S_NETWORK_IO : Sta Z h0 "com/example/measured_flow/measuredflow/CodeRule" "NETWORK_IO" "Lcom/example/measured_flow/measuredflow/CodeRule;" (.ref w_NETWORK_IO)) (S_FILE_IO : Sta Z h0 "com/example/measured_flow/measuredflow/CodeRule" "FILE_IO" "Lcom/example/measured_flow/measuredflow/CodeRule;" (.ref w_FILE_IO)) (S_JVM_STATE : Sta Z h0 "com/example/measured_flow/measuredflow/CodeRule" "JVM_STATE" "Lcom/example/measured_flow/measuredflow/CodeRule;" (.ref w_JVM_STATE)) (S_STATIC_STATE : Sta Z h0 "com/example/measured_flow/measuredflow/CodeRule" "STATIC_STATE" "Lcom/example/measured_flow/measuredflow/CodeRule;" (.ref w_STATIC_STATE)) (S_CLOSURE_STATE : Sta Z h0 "com/example/measured_flow/measuredflow/CodeRule" "CLOSURE_STATE" "Lcom/example/measured_flow/measuredflow/CodeRule;" (.ref w_CLOSURE_STATE)) :
    Con l Z (⟨"com/example/measured_flow/measuredflow/CodeRuleFirstPinLaw", "pick", "(I)Lcom/example/measured_flow/measuredflow/CodeRule;"⟩ : MethodName) method_2_code 1 (some (.object "com/example/measured_flow/measuredflow/CodeRule")) ws ({ frames := 0, cells := 0, slots := 0, locals := 0 } : Room) #[(.int k)] h0 (fun v h L => v = some (.ref (selP k w_INTERNALS w_NATIVE_CODE w_CLASS_LOADER w_REFLECTION w_THREADS w_PROCESS w_NETWORK_IO w_FILE_IO w_JVM_STATE w_STATIC_STATE w_CLOSURE_STATE)) ∧ Fr n0 L ∧ h = h0) := by
  refine Con.mk (plainFor_of_name pn0) ?_
  intro p e s m below meth c s₁ Cc X0 e0
  obtain ⟨hx, hZ, hown, hby, hml, hnm, hret, hlk⟩ := Cc
  have N0 := Fr.nil n0
  show Go p e s below _ _ _ s₁ (mkF m 0 #[.val (.int k)] [])
  refine Go.of (fun _ hr => XS.iloadN X0.here hx rfl (hb hby d1_0) rfl  hr) ?_
  show Go p e s below _ _ _ s₁ (mkF m 1 #[.val (.int k)] [(.int k)])
  by_cases hb1_101 : k = (0 : Int32)
  · refine Go.of (fun _ hr => XS.ifNo X0.here hx rfl (hb hby d1_1) rfl ((if0 _ _).trans (teq hb1_101).2) hr) ?_
    show Go p e s below _ _ _ s₁ (mkF m 4 #[.val (.int k)] [])
    obtain ⟨T102, X102, e102, st102⟩ := getS2 X0 hx hZ hown (host := "") (Or.inl (hw _ (List.mem_of_getElem? (i := 5) rfl))) Via.refl e0 S_INTERNALS (g := (mkF m 4 #[.val (.int k)] [])) rfl (hb hby d1_4)
    refine Go.of (fun _ hr => st102 _ hr) ?_
    show Go p e s below _ _ _ T102 (mkF m 7 #[.val (.int k)] [(.ref w_INTERNALS)])
    exact Go.retA X102 hx hlk hret rfl rfl (hb hby d1_7) (by decide) (by decide) ⟨by simp [selP, hb1_101], N0, e102⟩
  · refine Go.of (fun _ hr => XS.ifYes X0.here hx rfl (pc0 := 1) (pc' := 8) rfl (hb hby d1_1) rfl ((if0 _ _).trans (feq hb1_101).2) (by decide) (by decide) hr) ?_
    show Go p e s below _ _ _ s₁ (mkF m 8 #[.val (.int k)] [])
    refine Go.of (fun _ hr => XS.iloadN X0.here hx rfl (hb hby d1_8) rfl  hr) ?_
    show Go p e s below _ _ _ s₁ (mkF m 9 #[.val (.int k)] [(.int k)])
    refine Go.of (fun _ hr => XS.iconst X0.here hx rfl (hb hby d1_9) hr) ?_
    show Go p e s below _ _ _ s₁ (mkF m 10 #[.val (.int k)] [(.int (1 : Int32)), (.int k)])
    by_cases hb10_103 : k = (1 : Int32)
    · refine Go.of (fun _ hr => XS.icmpNo X0.here hx rfl (hb hby d1_10) rfl (teq hb10_103).2 hr) ?_
      show Go p e s below _ _ _ s₁ (mkF m 13 #[.val (.int k)] [])
      obtain ⟨T104, X104, e104, st104⟩ := getS2 X0 hx hZ hown (host := "") (Or.inl (hw _ (List.mem_of_getElem? (i := 28) rfl))) Via.refl e0 S_NATIVE_CODE (g := (mkF m 13 #[.val (.int k)] [])) rfl (hb hby d1_13)
      refine Go.of (fun _ hr => st104 _ hr) ?_
      show Go p e s below _ _ _ T104 (mkF m 16 #[.val (.int k)] [(.ref w_NATIVE_CODE)])
      exact Go.retA X104 hx hlk hret rfl rfl (hb hby d1_16) (by decide) (by decide) ⟨by simp [selP, hb1_101, hb10_103], N0, e104⟩
    · refine Go.of (fun _ hr => XS.icmpYes X0.here hx rfl (pc0 := 10) (pc' := 17) rfl (hb hby d1_10) rfl (feq hb10_103).2 (by decide) (by decide) hr) ?_
      show Go p e s below _ _ _ s₁ (mkF m 17 #[.val (.int k)] [])
      refine Go.of (fun _ hr => XS.iloadN X0.here hx rfl (hb hby d1_17) rfl  hr) ?_
      show Go p e s below _ _ _ s₁ (mkF m 18 #[.val (.int k)] [(.int k)])
      refine Go.of (fun _ hr => XS.iconst X0.here hx rfl (hb hby d1_18) hr) ?_
      show Go p e s below _ _ _ s₁ (mkF m 19 #[.val (.int k)] [(.int (2 : Int32)), (.int k)])
      by_cases hb19_105 : k = (2 : Int32)
      · refine Go.of (fun _ hr => XS.icmpNo X0.here hx rfl (hb hby d1_19) rfl (teq hb19_105).2 hr) ?_
        show Go p e s below _ _ _ s₁ (mkF m 22 #[.val (.int k)] [])
        obtain ⟨T106, X106, e106, st106⟩ := getS2 X0 hx hZ hown (host := "") (Or.inl (hw _ (List.mem_of_getElem? (i := 36) rfl))) Via.refl e0 S_CLASS_LOADER (g := (mkF m 22 #[.val (.int k)] [])) rfl (hb hby d1_22)
        refine Go.of (fun _ hr => st106 _ hr) ?_
        show Go p e s below _ _ _ T106 (mkF m 25 #[.val (.int k)] [(.ref w_CLASS_LOADER)])
        exact Go.retA X106 hx hlk hret rfl rfl (hb hby d1_25) (by decide) (by decide) ⟨by simp [selP, hb1_101, hb10_103, hb19_105], N0, e106⟩
      · refine Go.of (fun _ hr => XS.icmpYes X0.here hx rfl (pc0 := 19) (pc' := 26) rfl (hb hby d1_19) rfl (feq hb19_105).2 (by decide) (by decide) hr) ?_
        show Go p e s below _ _ _ s₁ (mkF m 26 #[.val (.int k)] [])
        refine Go.of (fun _ hr => XS.iloadN X0.here hx rfl (hb hby d1_26) rfl  hr) ?_
        show Go p e s below _ _ _ s₁ (mkF m 27 #[.val (.int k)] [(.int k)])
        refine Go.of (fun _ hr => XS.iconst X0.here hx rfl (hb hby d1_27) hr) ?_
        show Go p e s below _ _ _ s₁ (mkF m 28 #[.val (.int k)] [(.int (3 : Int32)), (.int k)])
        by_cases hb28_107 : k = (3 : Int32)
        · refine Go.of (fun _ hr => XS.icmpNo X0.here hx rfl (hb hby d1_28) rfl (teq hb28_107).2 hr) ?_
          show Go p e s below _ _ _ s₁ (mkF m 31 #[.val (.int k)] [])
          obtain ⟨T108, X108, e108, st108⟩ := getS2 X0 hx hZ hown (host := "") (Or.inl (hw _ (List.mem_of_getElem? (i := 8) rfl))) Via.refl e0 S_REFLECTION (g := (mkF m 31 #[.val (.int k)] [])) rfl (hb hby d1_31)
          refine Go.of (fun _ hr => st108 _ hr) ?_
          show Go p e s below _ _ _ T108 (mkF m 34 #[.val (.int k)] [(.ref w_REFLECTION)])
          exact Go.retA X108 hx hlk hret rfl rfl (hb hby d1_34) (by decide) (by decide) ⟨by simp [selP, hb1_101, hb10_103, hb19_105, hb28_107], N0, e108⟩
        · refine Go.of (fun _ hr => XS.icmpYes X0.here hx rfl (pc0 := 28) (pc' := 35) rfl (hb hby d1_28) rfl (feq hb28_107).2 (by decide) (by decide) hr) ?_
          show Go p e s below _ _ _ s₁ (mkF m 35 #[.val (.int k)] [])
          refine Go.of (fun _ hr => XS.iloadN X0.here hx rfl (hb hby d1_35) rfl  hr) ?_
          show Go p e s below _ _ _ s₁ (mkF m 36 #[.val (.int k)] [(.int k)])
          refine Go.of (fun _ hr => XS.iconst X0.here hx rfl (hb hby d1_36) hr) ?_
          show Go p e s below _ _ _ s₁ (mkF m 37 #[.val (.int k)] [(.int (4 : Int32)), (.int k)])
          by_cases hb37_109 : k = (4 : Int32)
          · refine Go.of (fun _ hr => XS.icmpNo X0.here hx rfl (hb hby d1_37) rfl (teq hb37_109).2 hr) ?_
            show Go p e s below _ _ _ s₁ (mkF m 40 #[.val (.int k)] [])
            obtain ⟨T110, X110, e110, st110⟩ := getS2 X0 hx hZ hown (host := "") (Or.inl (hw _ (List.mem_of_getElem? (i := 44) rfl))) Via.refl e0 S_THREADS (g := (mkF m 40 #[.val (.int k)] [])) rfl (hb hby d1_40)
            refine Go.of (fun _ hr => st110 _ hr) ?_
            show Go p e s below _ _ _ T110 (mkF m 43 #[.val (.int k)] [(.ref w_THREADS)])
            exact Go.retA X110 hx hlk hret rfl rfl (hb hby d1_43) (by decide) (by decide) ⟨by simp [selP, hb1_101, hb10_103, hb19_105, hb28_107, hb37_109], N0, e110⟩
          · refine Go.of (fun _ hr => XS.icmpYes X0.here hx rfl (pc0 := 37) (pc' := 44) rfl (hb hby d1_37) rfl (feq hb37_109).2 (by decide) (by decide) hr) ?_
            show Go p e s below _ _ _ s₁ (mkF m 44 #[.val (.int k)] [])
            refine Go.of (fun _ hr => XS.iloadN X0.here hx rfl (hb hby d1_44) rfl  hr) ?_
            show Go p e s below _ _ _ s₁ (mkF m 45 #[.val (.int k)] [(.int k)])
            refine Go.of (fun _ hr => XS.iconst X0.here hx rfl (hb hby d1_45) hr) ?_
            show Go p e s below _ _ _ s₁ (mkF m 46 #[.val (.int k)] [(.int (5 : Int32)), (.int k)])
            by_cases hb46_111 : k = (5 : Int32)
            · refine Go.of (fun _ hr => XS.icmpNo X0.here hx rfl (hb hby d1_46) rfl (teq hb46_111).2 hr) ?_
              show Go p e s below _ _ _ s₁ (mkF m 49 #[.val (.int k)] [])
              obtain ⟨T112, X112, e112, st112⟩ := getS2 X0 hx hZ hown (host := "") (Or.inl (hw _ (List.mem_of_getElem? (i := 34) rfl))) Via.refl e0 S_PROCESS (g := (mkF m 49 #[.val (.int k)] [])) rfl (hb hby d1_49)
              refine Go.of (fun _ hr => st112 _ hr) ?_
              show Go p e s below _ _ _ T112 (mkF m 52 #[.val (.int k)] [(.ref w_PROCESS)])
              exact Go.retA X112 hx hlk hret rfl rfl (hb hby d1_52) (by decide) (by decide) ⟨by simp [selP, hb1_101, hb10_103, hb19_105, hb28_107, hb37_109, hb46_111], N0, e112⟩
            · refine Go.of (fun _ hr => XS.icmpYes X0.here hx rfl (pc0 := 46) (pc' := 53) rfl (hb hby d1_46) rfl (feq hb46_111).2 (by decide) (by decide) hr) ?_
              show Go p e s below _ _ _ s₁ (mkF m 53 #[.val (.int k)] [])
              refine Go.of (fun _ hr => XS.iloadN X0.here hx rfl (hb hby d1_53) rfl  hr) ?_
              show Go p e s below _ _ _ s₁ (mkF m 54 #[.val (.int k)] [(.int k)])
              refine Go.of (fun _ hr => XS.bipush X0.here hx rfl (hb hby d1_54) hr) ?_
              show Go p e s below _ _ _ s₁ (mkF m 56 #[.val (.int k)] [(.int (6 : Int32)), (.int k)])
              by_cases hb56_113 : k = (6 : Int32)
              · refine Go.of (fun _ hr => XS.icmpNo X0.here hx rfl (hb hby d1_56) rfl (teq hb56_113).2 hr) ?_
                show Go p e s below _ _ _ s₁ (mkF m 59 #[.val (.int k)] [])
                obtain ⟨T114, X114, e114, st114⟩ := getS2 X0 hx hZ hown (host := "") (Or.inl (hw _ (List.mem_of_getElem? (i := 38) rfl))) Via.refl e0 S_NETWORK_IO (g := (mkF m 59 #[.val (.int k)] [])) rfl (hb hby d1_59)
                refine Go.of (fun _ hr => st114 _ hr) ?_
                show Go p e s below _ _ _ T114 (mkF m 62 #[.val (.int k)] [(.ref w_NETWORK_IO)])
                exact Go.retA X114 hx hlk hret rfl rfl (hb hby d1_62) (by decide) (by decide) ⟨by simp [selP, hb1_101, hb10_103, hb19_105, hb28_107, hb37_109, hb46_111, hb56_113], N0, e114⟩
              · refine Go.of (fun _ hr => XS.icmpYes X0.here hx rfl (pc0 := 56) (pc' := 63) rfl (hb hby d1_56) rfl (feq hb56_113).2 (by decide) (by decide) hr) ?_
                show Go p e s below _ _ _ s₁ (mkF m 63 #[.val (.int k)] [])
                refine Go.of (fun _ hr => XS.iloadN X0.here hx rfl (hb hby d1_63) rfl  hr) ?_
                show Go p e s below _ _ _ s₁ (mkF m 64 #[.val (.int k)] [(.int k)])
                refine Go.of (fun _ hr => XS.bipush X0.here hx rfl (hb hby d1_64) hr) ?_
                show Go p e s below _ _ _ s₁ (mkF m 66 #[.val (.int k)] [(.int (7 : Int32)), (.int k)])
                by_cases hb66_115 : k = (7 : Int32)
                · refine Go.of (fun _ hr => XS.icmpNo X0.here hx rfl (hb hby d1_66) rfl (teq hb66_115).2 hr) ?_
                  show Go p e s below _ _ _ s₁ (mkF m 69 #[.val (.int k)] [])
                  obtain ⟨T116, X116, e116, st116⟩ := getS2 X0 hx hZ hown (host := "") (Or.inl (hw _ (List.mem_of_getElem? (i := 40) rfl))) Via.refl e0 S_FILE_IO (g := (mkF m 69 #[.val (.int k)] [])) rfl (hb hby d1_69)
                  refine Go.of (fun _ hr => st116 _ hr) ?_
                  show Go p e s below _ _ _ T116 (mkF m 72 #[.val (.int k)] [(.ref w_FILE_IO)])
                  exact Go.retA X116 hx hlk hret rfl rfl (hb hby d1_72) (by decide) (by decide) ⟨by simp [selP, hb1_101, hb10_103, hb19_105, hb28_107, hb37_109, hb46_111, hb56_113, hb66_115], N0, e116⟩
                · refine Go.of (fun _ hr => XS.icmpYes X0.here hx rfl (pc0 := 66) (pc' := 73) rfl (hb hby d1_66) rfl (feq hb66_115).2 (by decide) (by decide) hr) ?_
                  show Go p e s below _ _ _ s₁ (mkF m 73 #[.val (.int k)] [])
                  refine Go.of (fun _ hr => XS.iloadN X0.here hx rfl (hb hby d1_73) rfl  hr) ?_
                  show Go p e s below _ _ _ s₁ (mkF m 74 #[.val (.int k)] [(.int k)])
                  refine Go.of (fun _ hr => XS.bipush X0.here hx rfl (hb hby d1_74) hr) ?_
                  show Go p e s below _ _ _ s₁ (mkF m 76 #[.val (.int k)] [(.int (8 : Int32)), (.int k)])
                  by_cases hb76_117 : k = (8 : Int32)
                  · refine Go.of (fun _ hr => XS.icmpNo X0.here hx rfl (hb hby d1_76) rfl (teq hb76_117).2 hr) ?_
                    show Go p e s below _ _ _ s₁ (mkF m 79 #[.val (.int k)] [])
                    obtain ⟨T118, X118, e118, st118⟩ := getS2 X0 hx hZ hown (host := "") (Or.inl (hw _ (List.mem_of_getElem? (i := 32) rfl))) Via.refl e0 S_JVM_STATE (g := (mkF m 79 #[.val (.int k)] [])) rfl (hb hby d1_79)
                    refine Go.of (fun _ hr => st118 _ hr) ?_
                    show Go p e s below _ _ _ T118 (mkF m 82 #[.val (.int k)] [(.ref w_JVM_STATE)])
                    exact Go.retA X118 hx hlk hret rfl rfl (hb hby d1_82) (by decide) (by decide) ⟨by simp [selP, hb1_101, hb10_103, hb19_105, hb28_107, hb37_109, hb46_111, hb56_113, hb66_115, hb76_117], N0, e118⟩
                  · refine Go.of (fun _ hr => XS.icmpYes X0.here hx rfl (pc0 := 76) (pc' := 83) rfl (hb hby d1_76) rfl (feq hb76_117).2 (by decide) (by decide) hr) ?_
                    show Go p e s below _ _ _ s₁ (mkF m 83 #[.val (.int k)] [])
                    refine Go.of (fun _ hr => XS.iloadN X0.here hx rfl (hb hby d1_83) rfl  hr) ?_
                    show Go p e s below _ _ _ s₁ (mkF m 84 #[.val (.int k)] [(.int k)])
                    refine Go.of (fun _ hr => XS.bipush X0.here hx rfl (hb hby d1_84) hr) ?_
                    show Go p e s below _ _ _ s₁ (mkF m 86 #[.val (.int k)] [(.int (9 : Int32)), (.int k)])
                    by_cases hb86_119 : k = (9 : Int32)
                    · refine Go.of (fun _ hr => XS.icmpNo X0.here hx rfl (hb hby d1_86) rfl (teq hb86_119).2 hr) ?_
                      show Go p e s below _ _ _ s₁ (mkF m 89 #[.val (.int k)] [])
                      obtain ⟨T120, X120, e120, st120⟩ := getS2 X0 hx hZ hown (host := "") (Or.inl (hw _ (List.mem_of_getElem? (i := 42) rfl))) Via.refl e0 S_STATIC_STATE (g := (mkF m 89 #[.val (.int k)] [])) rfl (hb hby d1_89)
                      refine Go.of (fun _ hr => st120 _ hr) ?_
                      show Go p e s below _ _ _ T120 (mkF m 92 #[.val (.int k)] [(.ref w_STATIC_STATE)])
                      exact Go.retA X120 hx hlk hret rfl rfl (hb hby d1_92) (by decide) (by decide) ⟨by simp [selP, hb1_101, hb10_103, hb19_105, hb28_107, hb37_109, hb46_111, hb56_113, hb66_115, hb76_117, hb86_119], N0, e120⟩
                    · refine Go.of (fun _ hr => XS.icmpYes X0.here hx rfl (pc0 := 86) (pc' := 93) rfl (hb hby d1_86) rfl (feq hb86_119).2 (by decide) (by decide) hr) ?_
                      show Go p e s below _ _ _ s₁ (mkF m 93 #[.val (.int k)] [])
                      obtain ⟨T121, X121, e121, st121⟩ := getS2 X0 hx hZ hown (host := "") (Or.inl (hw _ (List.mem_of_getElem? (i := 30) rfl))) Via.refl e0 S_CLOSURE_STATE (g := (mkF m 93 #[.val (.int k)] [])) rfl (hb hby d1_93)
                      refine Go.of (fun _ hr => st121 _ hr) ?_
                      show Go p e s below _ _ _ T121 (mkF m 96 #[.val (.int k)] [(.ref w_CLOSURE_STATE)])
                      exact Go.retA X121 hx hlk hret rfl rfl (hb hby d1_96) (by decide) (by decide) ⟨by simp [selP, hb1_101, hb10_103, hb19_105, hb28_107, hb37_109, hb46_111, hb56_113, hb66_115, hb76_117, hb86_119], N0, e121⟩

theorem pn1 : plainName "java/lang/Enum" = true := by first | (simp [plainName, overriddenIn]; done) | decide +kernel
theorem d4_0 : decode jdk_37_method_2_code 0 = .ok (.aload_n 0, 1) := by decide +kernel
theorem d4_1 : decode jdk_37_method_2_code 1 = .ok (.getfield 7, 3) := by decide +kernel
theorem d4_4 : decode jdk_37_method_2_code 4 = .ok (.ireturn, 1) := by decide +kernel
set_option maxRecDepth 65536 in
set_option maxHeartbeats 40000000 in
theorem rm4 (l : Launch) (Z : State) (a0 : Array Value) (hw : ∀ d ∈ tables_1, d.before a0 Z = true) (ws : List Jvm.Cond) (a1 : Addr) (o1 : Int32) (h0 : Heap) (n0 : Nat) (Z0 : n0 ≤ h0.size) (F1 : Fld Z h0 a1 "java/lang/Enum" "ordinal" "I" (.int o1)) :
    Con l Z (⟨"java/lang/Enum", "ordinal", "()I"⟩ : MethodName) jdk_37_method_2_code 1 (some .int) ws ({ frames := 0, cells := 0, slots := 0, locals := 0 } : Room) #[(.ref a1)] h0 (fun v h L => v = some (.int o1) ∧ Fr n0 L ∧ h = h0) := by
  refine Con.mk (plainFor_of_name pn1) ?_
  intro p e s m below meth c s₁ Cc X0 e0
  obtain ⟨hx, hZ, hown, hby, hml, hnm, hret, hlk⟩ := Cc
  have N0 := Fr.nil n0
  show Go p e s below _ _ _ s₁ (mkF m 0 #[.val (.ref a1)] [])
  refine Go.of (fun _ hr => XS.aloadN X0.here hx rfl (hb hby d4_0) rfl rfl hr) ?_
  show Go p e s below _ _ _ s₁ (mkF m 1 #[.val (.ref a1)] [(.ref a1)])
  obtain ⟨T101, X101, e101, st101⟩ := getF X0 hx hZ hown (host := "") (Or.inl (hw _ (List.mem_of_getElem? (i := 26) rfl))) Via.refl e0 F1 (g := (mkF m 1 #[.val (.ref a1)] [(.ref a1)])) rfl rfl (hb hby d4_1)
  refine Go.of (fun _ hr => st101 _ hr) ?_
  show Go p e s below _ _ _ T101 (mkF m 4 #[.val (.ref a1)] [(.int o1)])
  exact Go.retI X101 hx hlk hret (hb hby d4_4) (by decide) (by decide) ⟨rfl, N0, e101⟩

theorem d2_0 : decode jdk_29_method_69_code 0 = .ok (.iload_n 0, 1) := by decide +kernel
theorem d2_1 : decode jdk_29_method_69_code 1 = .ok (.iload_n 1, 1) := by decide +kernel
theorem d2_2 : decode jdk_29_method_69_code 2 = .ok (.if_icmp .gt 7, 3) := by decide +kernel
theorem d2_9 : decode jdk_29_method_69_code 9 = .ok (.iload_n 1, 1) := by decide +kernel
theorem d2_10 : decode jdk_29_method_69_code 10 = .ok (.ireturn, 1) := by decide +kernel
theorem d2_5 : decode jdk_29_method_69_code 5 = .ok (.iload_n 0, 1) := by decide +kernel
theorem d2_6 : decode jdk_29_method_69_code 6 = .ok (.goto 4, 3) := by decide +kernel
set_option maxRecDepth 65536 in
set_option maxHeartbeats 40000000 in
theorem rm2 (l : Launch) (Z : State) (a0 : Array Value) (hw : ∀ d ∈ tables_1, d.before a0 Z = true) (ws : List Jvm.Cond) (i j : Int32) (h0 : Heap) (n0 : Nat) (Z0 : n0 ≤ h0.size)  :
    Con l Z (⟨"java/lang/Math", "min", "(II)I"⟩ : MethodName) jdk_29_method_69_code 2 (some .int) ws ({ frames := 0, cells := 0, slots := 0, locals := 0 } : Room) #[(.int i), (.int j)] h0 (fun v h L => v = some (.int (if j < i then j else i)) ∧ Fr n0 L ∧ h = h0) := by
  refine Con.mk (by decide +kernel) ?_
  intro p e s m below meth c s₁ Cc X0 e0
  obtain ⟨hx, hZ, hown, hby, hml, hnm, hret, hlk⟩ := Cc
  have N0 := Fr.nil n0
  show Go p e s below _ _ _ s₁ (mkF m 0 #[.val (.int i), .val (.int j)] [])
  refine Go.of (fun _ hr => XS.iloadN X0.here hx rfl (hb hby d2_0) rfl  hr) ?_
  show Go p e s below _ _ _ s₁ (mkF m 1 #[.val (.int i), .val (.int j)] [(.int i)])
  refine Go.of (fun _ hr => XS.iloadN X0.here hx rfl (hb hby d2_1) rfl  hr) ?_
  show Go p e s below _ _ _ s₁ (mkF m 2 #[.val (.int i), .val (.int j)] [(.int j), (.int i)])
  by_cases hb2_101 : j < i
  · refine Go.of (fun _ hr => XS.icmpYes X0.here hx rfl (pc0 := 2) (pc' := 9) rfl (hb hby d2_2) rfl (tlt hb2_101).2.2.1 (by decide) (by decide) hr) ?_
    show Go p e s below _ _ _ s₁ (mkF m 9 #[.val (.int i), .val (.int j)] [])
    refine Go.of (fun _ hr => XS.iloadN X0.here hx rfl (hb hby d2_9) rfl  hr) ?_
    show Go p e s below _ _ _ s₁ (mkF m 10 #[.val (.int i), .val (.int j)] [(.int j)])
    exact Go.retI X0 hx hlk hret (hb hby d2_10) (by decide) (by decide) ⟨by simp [hb2_101], N0, e0⟩
  · refine Go.of (fun _ hr => XS.icmpNo X0.here hx rfl (hb hby d2_2) rfl (flt hb2_101).2.2.1 hr) ?_
    show Go p e s below _ _ _ s₁ (mkF m 5 #[.val (.int i), .val (.int j)] [])
    refine Go.of (fun _ hr => XS.iloadN X0.here hx rfl (hb hby d2_5) rfl  hr) ?_
    show Go p e s below _ _ _ s₁ (mkF m 6 #[.val (.int i), .val (.int j)] [(.int i)])
    refine Go.of (fun _ hr => XS.goto X0.here hx rfl (pc0 := 6) (pc' := 10) rfl (hb hby d2_6) (by decide) (by decide) hr) ?_
    show Go p e s below _ _ _ s₁ (mkF m 10 #[.val (.int i), .val (.int j)] [(.int i)])
    exact Go.retI X0 hx hlk hret (hb hby d2_10) (by decide) (by decide) ⟨by simp [hb2_101], N0, e0⟩

theorem pn2 : plainName "com/example/measured_flow/measuredflow/CodeRule" = true := by first | (simp [plainName, overriddenIn]; done) | decide +kernel
theorem d3_0 : decode prog_4_method_5_code 0 = .ok (.aload_n 1, 1) := by decide +kernel
theorem d3_1 : decode prog_4_method_5_code 1 = .ok (.ifnull 14, 3) := by decide +kernel
theorem d3_15 : decode prog_4_method_5_code 15 = .ok (.aload_n 0, 1) := by decide +kernel
theorem d3_16 : decode prog_4_method_5_code 16 = .ok (.astore_n 2, 1) := by decide +kernel
theorem d3_17 : decode prog_4_method_5_code 17 = .ok (.goto 5, 3) := by decide +kernel
theorem d3_22 : decode prog_4_method_5_code 22 = .ok (.aload_n 2, 1) := by decide +kernel
theorem d3_23 : decode prog_4_method_5_code 23 = .ok (.areturn, 1) := by decide +kernel
set_option maxRecDepth 65536 in
set_option maxHeartbeats 40000000 in
theorem rmN (l : Launch) (Z : State) (a0 : Array Value) (hw : ∀ d ∈ tables_1, d.before a0 Z = true) (ws : List Jvm.Cond) (a1 : Addr) (h0 : Heap) (n0 : Nat) (Z0 : n0 ≤ h0.size)  :
    Con l Z (⟨"com/example/measured_flow/measuredflow/CodeRule", "first", "(Lcom/example/measured_flow/measuredflow/CodeRule;)Lcom/example/measured_flow/measuredflow/CodeRule;"⟩ : MethodName) prog_4_method_5_code 3 (some (.object "com/example/measured_flow/measuredflow/CodeRule")) ws ({ frames := 1, cells := 0, slots := 0, locals := 14 } : Room) #[(.ref a1), .null] h0 (fun v h L => v = some (.ref a1) ∧ Fr n0 L ∧ h = h0) := by
  refine Con.mk (plainFor_of_name pn2) ?_
  intro p e s m below meth c s₁ Cc X0 e0
  obtain ⟨hx, hZ, hown, hby, hml, hnm, hret, hlk⟩ := Cc
  have N0 := Fr.nil n0
  show Go p e s below _ _ _ s₁ (mkF m 0 #[.val (.ref a1), .val .null, .unset] [])
  refine Go.of (fun _ hr => XS.aloadN X0.here hx rfl (hb hby d3_0) rfl rfl hr) ?_
  show Go p e s below _ _ _ s₁ (mkF m 1 #[.val (.ref a1), .val .null, .unset] [.null])
  refine Go.of (fun _ hr => XS.ifnullYes X0.here hx rfl (pc0 := 1) (pc' := 15) rfl (hb hby d3_1) rfl (by decide) (by decide) hr) ?_
  show Go p e s below _ _ _ s₁ (mkF m 15 #[.val (.ref a1), .val .null, .unset] [])
  refine Go.of (fun _ hr => XS.aloadN X0.here hx rfl (hb hby d3_15) rfl rfl hr) ?_
  show Go p e s below _ _ _ s₁ (mkF m 16 #[.val (.ref a1), .val .null, .unset] [(.ref a1)])
  refine Go.of (fun _ hr => XS.astoreN X0.here hx rfl (hb hby d3_16) rfl rfl (l' := #[.val (.ref a1), .val .null, .val (.ref a1)]) rfl hr) ?_
  show Go p e s below _ _ _ s₁ (mkF m 17 #[.val (.ref a1), .val .null, .val (.ref a1)] [])
  refine Go.of (fun _ hr => XS.goto X0.here hx rfl (pc0 := 17) (pc' := 22) rfl (hb hby d3_17) (by decide) (by decide) hr) ?_
  show Go p e s below _ _ _ s₁ (mkF m 22 #[.val (.ref a1), .val .null, .val (.ref a1)] [])
  refine Go.of (fun _ hr => XS.aloadN X0.here hx rfl (hb hby d3_22) rfl rfl hr) ?_
  show Go p e s below _ _ _ s₁ (mkF m 23 #[.val (.ref a1), .val .null, .val (.ref a1)] [(.ref a1)])
  exact Go.retA X0 hx hlk hret rfl rfl (hb hby d3_23) (by decide) (by decide) ⟨rfl, N0, e0⟩

theorem d3_4 : decode prog_4_method_5_code 4 = .ok (.aload_n 0, 1) := by decide +kernel
theorem d3_5 : decode prog_4_method_5_code 5 = .ok (.invokevirtual 60, 3) := by decide +kernel
theorem pd0 : parseMethodDescriptor "()I" = some ⟨[], some .int⟩ := by decide +kernel
theorem d3_8 : decode prog_4_method_5_code 8 = .ok (.aload_n 1, 1) := by decide +kernel
theorem d3_9 : decode prog_4_method_5_code 9 = .ok (.invokevirtual 60, 3) := by decide +kernel
theorem d3_12 : decode prog_4_method_5_code 12 = .ok (.if_icmp .gt 8, 3) := by decide +kernel
theorem d3_20 : decode prog_4_method_5_code 20 = .ok (.aload_n 1, 1) := by decide +kernel
theorem d3_21 : decode prog_4_method_5_code 21 = .ok (.astore_n 2, 1) := by decide +kernel
set_option maxRecDepth 65536 in
set_option maxHeartbeats 40000000 in
theorem rm3 (l : Launch) (Z : State) (a0 : Array Value) (hw : ∀ d ∈ tables_1, d.before a0 Z = true) (ws : List Jvm.Cond) (a1 a2 : Addr) (o1 o2 : Int32) (h0 : Heap) (n0 : Nat) (Z0 : n0 ≤ h0.size) (F1 : Fld Z h0 a1 "java/lang/Enum" "ordinal" "I" (.int o1)) (F2 : Fld Z h0 a2 "java/lang/Enum" "ordinal" "I" (.int o2)) (E1 : Exa Z h0 a1 "com/example/measured_flow/measuredflow/CodeRule") (E2 : Exa Z h0 a2 "com/example/measured_flow/measuredflow/CodeRule") :
    Con l Z (⟨"com/example/measured_flow/measuredflow/CodeRule", "first", "(Lcom/example/measured_flow/measuredflow/CodeRule;)Lcom/example/measured_flow/measuredflow/CodeRule;"⟩ : MethodName) prog_4_method_5_code 3 (some (.object "com/example/measured_flow/measuredflow/CodeRule")) ws ({ frames := 1, cells := 0, slots := 0, locals := 14 } : Room) #[(.ref a1), (.ref a2)] h0 (fun v h L => v = some (.ref (if o2 < o1 then a2 else a1)) ∧ Fr n0 L ∧ h = h0) := by
  refine Con.mk (plainFor_of_name pn2) ?_
  intro p e s m below meth c s₁ Cc X0 e0
  obtain ⟨hx, hZ, hown, hby, hml, hnm, hret, hlk⟩ := Cc
  have N0 := Fr.nil n0
  show Go p e s below _ _ _ s₁ (mkF m 0 #[.val (.ref a1), .val (.ref a2), .unset] [])
  refine Go.of (fun _ hr => XS.aloadN X0.here hx rfl (hb hby d3_0) rfl rfl hr) ?_
  show Go p e s below _ _ _ s₁ (mkF m 1 #[.val (.ref a1), .val (.ref a2), .unset] [(.ref a2)])
  refine Go.of (fun _ hr => XS.ifnullNo X0.here hx rfl (hb hby d3_1) rfl hr) ?_
  show Go p e s below _ _ _ s₁ (mkF m 4 #[.val (.ref a1), .val (.ref a2), .unset] [])
  refine Go.of (fun _ hr => XS.aloadN X0.here hx rfl (hb hby d3_4) rfl rfl hr) ?_
  show Go p e s below _ _ _ s₁ (mkF m 5 #[.val (.ref a1), .val (.ref a2), .unset] [(.ref a1)])
  obtain ⟨_, T101, L101, X101, hQ101, st101⟩ := own_callU X0 hx hZ hown (y := (⟨"com/example/measured_flow/measuredflow/CodeRule", "ordinal", "()I"⟩ : MethodName)) (z := (⟨"java/lang/Enum", "ordinal", "()I"⟩ : MethodName)) (owner := "java/lang/Enum") (hw _ (List.mem_of_getElem? (i := 19) rfl)) (hw _ (List.mem_of_getElem? (i := 20) rfl)) (hw _ (List.mem_of_getElem? (i := 21) rfl)) (hw _ (List.mem_of_getElem? (i := 23) rfl)) (hw _ (List.mem_of_getElem? (i := 22) rfl)) (hw _ (List.mem_of_getElem? (i := 24) rfl)) (hw _ (List.mem_of_getElem? (i := 25) rfl)) (by decide) E1 (rm4 l Z a0 hw [] a1 o1 h0 n0 Z0 F1) e0 (g := (mkF m 5 #[.val (.ref a1), .val (.ref a2), .unset] [(.ref a1)])) rfl (by rw [hml]; rfl) (argsL := []) (rest := []) (lenOf pd0 rfl) rfl (W := 0) (by show 2 * 0 + _ ≤ _; exact Nat.le_of_eq rfl) (hb hby d3_5) (by decide) (by decide) (by decide) (by decide)
  obtain ⟨rfl, N101, e101⟩ := hQ101
  refine Go.of st101 ?_
  have NF101 := Fr.app N0 N101
  show Go p e s below _ _ _ T101 (mkF m 8 #[.val (.ref a1), .val (.ref a2), .unset] [(.int o1)])
  refine Go.of (fun _ hr => XS.aloadN X101.here hx rfl (hb hby d3_8) rfl rfl hr) ?_
  show Go p e s below _ _ _ T101 (mkF m 9 #[.val (.ref a1), .val (.ref a2), .unset] [(.ref a2), (.int o1)])
  obtain ⟨_, T102, L102, X102, hQ102, st102⟩ := own_callU X101 hx hZ hown (y := (⟨"com/example/measured_flow/measuredflow/CodeRule", "ordinal", "()I"⟩ : MethodName)) (z := (⟨"java/lang/Enum", "ordinal", "()I"⟩ : MethodName)) (owner := "java/lang/Enum") (hw _ (List.mem_of_getElem? (i := 19) rfl)) (hw _ (List.mem_of_getElem? (i := 20) rfl)) (hw _ (List.mem_of_getElem? (i := 21) rfl)) (hw _ (List.mem_of_getElem? (i := 23) rfl)) (hw _ (List.mem_of_getElem? (i := 22) rfl)) (hw _ (List.mem_of_getElem? (i := 24) rfl)) (hw _ (List.mem_of_getElem? (i := 25) rfl)) (by decide) E2 (rm4 l Z a0 hw [] a2 o2 h0 n0 Z0 F2) e101 (g := (mkF m 9 #[.val (.ref a1), .val (.ref a2), .unset] [(.ref a2), (.int o1)])) rfl (by rw [hml]; rfl) (argsL := []) (rest := [(.int o1)]) (lenOf pd0 rfl) rfl (W := 1) (by show 2 * 0 + _ ≤ _; exact Nat.le_of_eq rfl) (hb hby d3_9) (by decide) (by decide) (by decide) (by decide)
  obtain ⟨rfl, N102, e102⟩ := hQ102
  refine Go.of st102 ?_
  have NF102 := Fr.app NF101 N102
  show Go p e s below _ _ _ T102 (mkF m 12 #[.val (.ref a1), .val (.ref a2), .unset] [(.int o2), (.int o1)])
  by_cases hb12_103 : o2 < o1
  · refine Go.of (fun _ hr => XS.icmpYes X102.here hx rfl (pc0 := 12) (pc' := 20) rfl (hb hby d3_12) rfl (tlt hb12_103).2.2.1 (by decide) (by decide) hr) ?_
    show Go p e s below _ _ _ T102 (mkF m 20 #[.val (.ref a1), .val (.ref a2), .unset] [])
    refine Go.of (fun _ hr => XS.aloadN X102.here hx rfl (hb hby d3_20) rfl rfl hr) ?_
    show Go p e s below _ _ _ T102 (mkF m 21 #[.val (.ref a1), .val (.ref a2), .unset] [(.ref a2)])
    refine Go.of (fun _ hr => XS.astoreN X102.here hx rfl (hb hby d3_21) rfl rfl (l' := #[.val (.ref a1), .val (.ref a2), .val (.ref a2)]) rfl hr) ?_
    show Go p e s below _ _ _ T102 (mkF m 22 #[.val (.ref a1), .val (.ref a2), .val (.ref a2)] [])
    refine Go.of (fun _ hr => XS.aloadN X102.here hx rfl (hb hby d3_22) rfl rfl hr) ?_
    show Go p e s below _ _ _ T102 (mkF m 23 #[.val (.ref a1), .val (.ref a2), .val (.ref a2)] [(.ref a2)])
    exact Go.retA X102 hx hlk hret rfl rfl (hb hby d3_23) (by decide) (by decide) ⟨by simp [hb12_103], NF102, e102⟩
  · refine Go.of (fun _ hr => XS.icmpNo X102.here hx rfl (hb hby d3_12) rfl (flt hb12_103).2.2.1 hr) ?_
    show Go p e s below _ _ _ T102 (mkF m 15 #[.val (.ref a1), .val (.ref a2), .unset] [])
    refine Go.of (fun _ hr => XS.aloadN X102.here hx rfl (hb hby d3_15) rfl rfl hr) ?_
    show Go p e s below _ _ _ T102 (mkF m 16 #[.val (.ref a1), .val (.ref a2), .unset] [(.ref a1)])
    refine Go.of (fun _ hr => XS.astoreN X102.here hx rfl (hb hby d3_16) rfl rfl (l' := #[.val (.ref a1), .val (.ref a2), .val (.ref a1)]) rfl hr) ?_
    show Go p e s below _ _ _ T102 (mkF m 17 #[.val (.ref a1), .val (.ref a2), .val (.ref a1)] [])
    refine Go.of (fun _ hr => XS.goto X102.here hx rfl (pc0 := 17) (pc' := 22) rfl (hb hby d3_17) (by decide) (by decide) hr) ?_
    show Go p e s below _ _ _ T102 (mkF m 22 #[.val (.ref a1), .val (.ref a2), .val (.ref a1)] [])
    refine Go.of (fun _ hr => XS.aloadN X102.here hx rfl (hb hby d3_22) rfl rfl hr) ?_
    show Go p e s below _ _ _ T102 (mkF m 23 #[.val (.ref a1), .val (.ref a2), .val (.ref a1)] [(.ref a1)])
    exact Go.retA X102 hx hlk hret rfl rfl (hb hby d3_23) (by decide) (by decide) ⟨by simp [hb12_103], NF102, e102⟩

theorem pd1 : parseMethodDescriptor "(I)Lcom/example/measured_flow/measuredflow/CodeRule;" = some ⟨[.int], some (.object "com/example/measured_flow/measuredflow/CodeRule")⟩ := by decide +kernel
theorem pd2 : parseMethodDescriptor "(II)I" = some ⟨[.int, .int], some .int⟩ := by decide +kernel
theorem pd3 : parseMethodDescriptor "(Lcom/example/measured_flow/measuredflow/CodeRule;)Lcom/example/measured_flow/measuredflow/CodeRule;" = some ⟨[(.object "com/example/measured_flow/measuredflow/CodeRule")], some (.object "com/example/measured_flow/measuredflow/CodeRule")⟩ := by decide +kernel
set_option maxRecDepth 65536 in
set_option maxHeartbeats 40000000 in
theorem rm0 (l : Launch) (Z : State) (a0 : Array Value) (hw : ∀ d ∈ tables_1, d.before a0 Z = true) (ws : List Jvm.Cond) (p1 p2 p3 : Int32) (w_INTERNALS w_NATIVE_CODE w_CLASS_LOADER w_REFLECTION w_THREADS w_PROCESS w_NETWORK_IO w_FILE_IO w_JVM_STATE w_STATIC_STATE w_CLOSURE_STATE : Addr) (h0 : Heap) (n0 : Nat) (Z0 : n0 ≤ h0.size) (S_INTERNALS : Sta Z h0 "com/example/measured_flow/measuredflow/CodeRule" "INTERNALS" "Lcom/example/measured_flow/measuredflow/CodeRule;" (.ref w_INTERNALS)) (S_NATIVE_CODE : Sta Z h0 "com/example/measured_flow/measuredflow/CodeRule" "NATIVE_CODE" "Lcom/example/measured_flow/measuredflow/CodeRule;" (.ref w_NATIVE_CODE)) (S_CLASS_LOADER : Sta Z h0 "com/example/measured_flow/measuredflow/CodeRule" "CLASS_LOADER" "Lcom/example/measured_flow/measuredflow/CodeRule;" (.ref w_CLASS_LOADER)) (S_REFLECTION : Sta Z h0 "com/example/measured_flow/measuredflow/CodeRule" "REFLECTION" "Lcom/example/measured_flow/measuredflow/CodeRule;" (.ref w_REFLECTION)) (S_THREADS : Sta Z h0 "com/example/measured_flow/measuredflow/CodeRule" "THREADS" "Lcom/example/measured_flow/measuredflow/CodeRule;" (.ref w_THREADS)) (S_PROCESS : Sta Z h0 "com/example/measured_flow/measuredflow/CodeRule" "PROCESS" "Lcom/example/measured_flow/measuredflow/CodeRule;" (.ref w_PROCESS)) (S_NETWORK_IO : Sta Z h0 "com/example/measured_flow/measuredflow/CodeRule" "NETWORK_IO" "Lcom/example/measured_flow/measuredflow/CodeRule;" (.ref w_NETWORK_IO)) (S_FILE_IO : Sta Z h0 "com/example/measured_flow/measuredflow/CodeRule" "FILE_IO" "Lcom/example/measured_flow/measuredflow/CodeRule;" (.ref w_FILE_IO)) (S_JVM_STATE : Sta Z h0 "com/example/measured_flow/measuredflow/CodeRule" "JVM_STATE" "Lcom/example/measured_flow/measuredflow/CodeRule;" (.ref w_JVM_STATE)) (S_STATIC_STATE : Sta Z h0 "com/example/measured_flow/measuredflow/CodeRule" "STATIC_STATE" "Lcom/example/measured_flow/measuredflow/CodeRule;" (.ref w_STATIC_STATE)) (S_CLOSURE_STATE : Sta Z h0 "com/example/measured_flow/measuredflow/CodeRule" "CLOSURE_STATE" "Lcom/example/measured_flow/measuredflow/CodeRule;" (.ref w_CLOSURE_STATE)) (E_INTERNALS : Exa Z h0 w_INTERNALS "com/example/measured_flow/measuredflow/CodeRule") (E_NATIVE_CODE : Exa Z h0 w_NATIVE_CODE "com/example/measured_flow/measuredflow/CodeRule") (E_CLASS_LOADER : Exa Z h0 w_CLASS_LOADER "com/example/measured_flow/measuredflow/CodeRule") (E_REFLECTION : Exa Z h0 w_REFLECTION "com/example/measured_flow/measuredflow/CodeRule") (E_THREADS : Exa Z h0 w_THREADS "com/example/measured_flow/measuredflow/CodeRule") (E_PROCESS : Exa Z h0 w_PROCESS "com/example/measured_flow/measuredflow/CodeRule") (E_NETWORK_IO : Exa Z h0 w_NETWORK_IO "com/example/measured_flow/measuredflow/CodeRule") (E_FILE_IO : Exa Z h0 w_FILE_IO "com/example/measured_flow/measuredflow/CodeRule") (E_JVM_STATE : Exa Z h0 w_JVM_STATE "com/example/measured_flow/measuredflow/CodeRule") (E_STATIC_STATE : Exa Z h0 w_STATIC_STATE "com/example/measured_flow/measuredflow/CodeRule") (E_CLOSURE_STATE : Exa Z h0 w_CLOSURE_STATE "com/example/measured_flow/measuredflow/CodeRule") (O_INTERNALS : Fld Z h0 w_INTERNALS "java/lang/Enum" "ordinal" "I" (.int (0 : Int32))) (O_NATIVE_CODE : Fld Z h0 w_NATIVE_CODE "java/lang/Enum" "ordinal" "I" (.int (1 : Int32))) (O_CLASS_LOADER : Fld Z h0 w_CLASS_LOADER "java/lang/Enum" "ordinal" "I" (.int (2 : Int32))) (O_REFLECTION : Fld Z h0 w_REFLECTION "java/lang/Enum" "ordinal" "I" (.int (3 : Int32))) (O_THREADS : Fld Z h0 w_THREADS "java/lang/Enum" "ordinal" "I" (.int (4 : Int32))) (O_PROCESS : Fld Z h0 w_PROCESS "java/lang/Enum" "ordinal" "I" (.int (5 : Int32))) (O_NETWORK_IO : Fld Z h0 w_NETWORK_IO "java/lang/Enum" "ordinal" "I" (.int (6 : Int32))) (O_FILE_IO : Fld Z h0 w_FILE_IO "java/lang/Enum" "ordinal" "I" (.int (7 : Int32))) (O_JVM_STATE : Fld Z h0 w_JVM_STATE "java/lang/Enum" "ordinal" "I" (.int (8 : Int32))) (O_STATIC_STATE : Fld Z h0 w_STATIC_STATE "java/lang/Enum" "ordinal" "I" (.int (9 : Int32))) (O_CLOSURE_STATE : Fld Z h0 w_CLOSURE_STATE "java/lang/Enum" "ordinal" "I" (.int (10 : Int32))) :
    Con l Z x code maxLocals ret ws room_1 #[(.int p1), (.int p2), (.int p3)] h0 (fun v h L => v = some (.int 1) ∧ Fr n0 L) := by
  refine Con.mk (plainFor_of_name pn0) ?_
  intro p e s m below meth c s₁ Cc X0 e0
  obtain ⟨hx, hZ, hown, hby, hml, hnm, hret, hlk⟩ := Cc
  replace hown : s.vm.findClass "com/example/measured_flow/measuredflow/CodeRuleFirstPinLaw" = some m.cls := hown
  replace hml : c.maxLocals = 9 := hml
  have N0 := Fr.nil n0
  show Go p e s below _ _ _ s₁ (mkF m 0 #[.val (.int p1), .val (.int p2), .val (.int p3), .unset, .unset, .unset, .unset, .unset, .unset] [])
  refine Go.of (fun _ hr => XS.iloadN X0.here hx rfl (hb hby at_0) rfl  hr) ?_
  show Go p e s below _ _ _ s₁ (mkF m 1 #[.val (.int p1), .val (.int p2), .val (.int p3), .unset, .unset, .unset, .unset, .unset, .unset] [(.int p1)])
  refine Go.of (fun _ hr => X0.ldcI hx hown (mvT hZ (hw _ (List.mem_of_getElem? (i := 0) rfl))) rfl (hb hby at_1) hr) ?_
  show Go p e s below _ _ _ s₁ (mkF m 3 #[.val (.int p1), .val (.int p2), .val (.int p3), .unset, .unset, .unset, .unset, .unset, .unset] [(.int (2147483647 : Int32)), (.int p1)])
  refine Go.of (fun _ hr => XS.iand X0.here hx rfl (hb hby at_3) rfl hr) ?_
  show Go p e s below _ _ _ s₁ (mkF m 4 #[.val (.int p1), .val (.int p2), .val (.int p3), .unset, .unset, .unset, .unset, .unset, .unset] [(.int (p1 &&& (2147483647 : Int32)))])
  refine Go.of (fun _ hr => XS.bipush X0.here hx rfl (hb hby at_4) hr) ?_
  show Go p e s below _ _ _ s₁ (mkF m 6 #[.val (.int p1), .val (.int p2), .val (.int p3), .unset, .unset, .unset, .unset, .unset, .unset] [(.int (11 : Int32)), (.int (p1 &&& (2147483647 : Int32)))])
  refine Go.of (fun _ hr => iremM X0 hx rfl (hb hby at_6) rfl (by decide) hr) ?_
  show Go p e s below _ _ _ s₁ (mkF m 7 #[.val (.int p1), .val (.int p2), .val (.int p3), .unset, .unset, .unset, .unset, .unset, .unset] [(.int ((p1 &&& (2147483647 : Int32)) % (11 : Int32)))])
  generalize hi : ((p1 &&& (2147483647 : Int32)) % (11 : Int32)) = i
  show Go p e s below _ _ _ s₁ (mkF m 7 #[.val (.int p1), .val (.int p2), .val (.int p3), .unset, .unset, .unset, .unset, .unset, .unset] [(.int i)])
  refine Go.of (fun _ hr => XS.istoreN X0.here hx rfl (hb hby at_7) rfl (l' := #[.val (.int p1), .val (.int p2), .val (.int p3), .val (.int i), .unset, .unset, .unset, .unset, .unset]) rfl hr) ?_
  show Go p e s below _ _ _ s₁ (mkF m 8 #[.val (.int p1), .val (.int p2), .val (.int p3), .val (.int i), .unset, .unset, .unset, .unset, .unset] [])
  refine Go.of (fun _ hr => XS.iloadN X0.here hx rfl (hb hby at_8) rfl  hr) ?_
  show Go p e s below _ _ _ s₁ (mkF m 9 #[.val (.int p1), .val (.int p2), .val (.int p3), .val (.int i), .unset, .unset, .unset, .unset, .unset] [(.int p2)])
  refine Go.of (fun _ hr => X0.ldcI hx hown (mvT hZ (hw _ (List.mem_of_getElem? (i := 0) rfl))) rfl (hb hby at_9) hr) ?_
  show Go p e s below _ _ _ s₁ (mkF m 11 #[.val (.int p1), .val (.int p2), .val (.int p3), .val (.int i), .unset, .unset, .unset, .unset, .unset] [(.int (2147483647 : Int32)), (.int p2)])
  refine Go.of (fun _ hr => XS.iand X0.here hx rfl (hb hby at_11) rfl hr) ?_
  show Go p e s below _ _ _ s₁ (mkF m 12 #[.val (.int p1), .val (.int p2), .val (.int p3), .val (.int i), .unset, .unset, .unset, .unset, .unset] [(.int (p2 &&& (2147483647 : Int32)))])
  refine Go.of (fun _ hr => XS.bipush X0.here hx rfl (hb hby at_12) hr) ?_
  show Go p e s below _ _ _ s₁ (mkF m 14 #[.val (.int p1), .val (.int p2), .val (.int p3), .val (.int i), .unset, .unset, .unset, .unset, .unset] [(.int (11 : Int32)), (.int (p2 &&& (2147483647 : Int32)))])
  refine Go.of (fun _ hr => iremM X0 hx rfl (hb hby at_14) rfl (by decide) hr) ?_
  show Go p e s below _ _ _ s₁ (mkF m 15 #[.val (.int p1), .val (.int p2), .val (.int p3), .val (.int i), .unset, .unset, .unset, .unset, .unset] [(.int ((p2 &&& (2147483647 : Int32)) % (11 : Int32)))])
  generalize hj : ((p2 &&& (2147483647 : Int32)) % (11 : Int32)) = j
  show Go p e s below _ _ _ s₁ (mkF m 15 #[.val (.int p1), .val (.int p2), .val (.int p3), .val (.int i), .unset, .unset, .unset, .unset, .unset] [(.int j)])
  refine Go.of (fun _ hr => XS.istore X0.here hx rfl (hb hby at_15) rfl (l' := #[.val (.int p1), .val (.int p2), .val (.int p3), .val (.int i), .val (.int j), .unset, .unset, .unset, .unset]) rfl hr) ?_
  show Go p e s below _ _ _ s₁ (mkF m 17 #[.val (.int p1), .val (.int p2), .val (.int p3), .val (.int i), .val (.int j), .unset, .unset, .unset, .unset] [])
  refine Go.of (fun _ hr => XS.iloadN X0.here hx rfl (hb hby at_17) rfl  hr) ?_
  show Go p e s below _ _ _ s₁ (mkF m 18 #[.val (.int p1), .val (.int p2), .val (.int p3), .val (.int i), .val (.int j), .unset, .unset, .unset, .unset] [(.int p3)])
  refine Go.of (fun _ hr => XS.iconst X0.here hx rfl (hb hby at_18) hr) ?_
  show Go p e s below _ _ _ s₁ (mkF m 19 #[.val (.int p1), .val (.int p2), .val (.int p3), .val (.int i), .val (.int j), .unset, .unset, .unset, .unset] [(.int (1 : Int32)), (.int p3)])
  refine Go.of (fun _ hr => XS.iand X0.here hx rfl (hb hby at_19) rfl hr) ?_
  show Go p e s below _ _ _ s₁ (mkF m 20 #[.val (.int p1), .val (.int p2), .val (.int p3), .val (.int i), .val (.int j), .unset, .unset, .unset, .unset] [(.int (p3 &&& (1 : Int32)))])
  by_cases hb20_101 : (p3 &&& (1 : Int32)) = (0 : Int32)
  · refine Go.of (fun _ hr => XS.ifYes X0.here hx rfl (pc0 := 20) (pc' := 27) rfl (hb hby at_20) rfl ((if0 _ _).trans (teq hb20_101).1) (by decide) (by decide) hr) ?_
    show Go p e s below _ _ _ s₁ (mkF m 27 #[.val (.int p1), .val (.int p2), .val (.int p3), .val (.int i), .val (.int j), .unset, .unset, .unset, .unset] [])
    refine Go.of (fun _ hr => XS.iconst X0.here hx rfl (hb hby at_27) hr) ?_
    show Go p e s below _ _ _ s₁ (mkF m 28 #[.val (.int p1), .val (.int p2), .val (.int p3), .val (.int i), .val (.int j), .unset, .unset, .unset, .unset] [(.int (0 : Int32))])
    refine Go.of (fun _ hr => XS.istore X0.here hx rfl (hb hby at_28) rfl (l' := #[.val (.int p1), .val (.int p2), .val (.int p3), .val (.int i), .val (.int j), .val (.int (0 : Int32)), .unset, .unset, .unset]) rfl hr) ?_
    show Go p e s below _ _ _ s₁ (mkF m 30 #[.val (.int p1), .val (.int p2), .val (.int p3), .val (.int i), .val (.int j), .val (.int (0 : Int32)), .unset, .unset, .unset] [])
    refine Go.of (fun _ hr => XS.iloadN X0.here hx rfl (hb hby at_30) rfl  hr) ?_
    show Go p e s below _ _ _ s₁ (mkF m 31 #[.val (.int p1), .val (.int p2), .val (.int p3), .val (.int i), .val (.int j), .val (.int (0 : Int32)), .unset, .unset, .unset] [(.int i)])
    obtain ⟨_, T102, L102, X102, hQ102, st102⟩ := own_callS X0 hx hZ hown (hw _ (List.mem_of_getElem? (i := 1) rfl)) (hw _ (List.mem_of_getElem? (i := 2) rfl)) (hw _ (List.mem_of_getElem? (i := 3) rfl)) (hw _ (List.mem_of_getElem? (i := 4) rfl)) (by decide) (rm1 l Z a0 hw [] i w_INTERNALS w_NATIVE_CODE w_CLASS_LOADER w_REFLECTION w_THREADS w_PROCESS w_NETWORK_IO w_FILE_IO w_JVM_STATE w_STATIC_STATE w_CLOSURE_STATE h0 n0 Z0 S_INTERNALS S_NATIVE_CODE S_CLASS_LOADER S_REFLECTION S_THREADS S_PROCESS S_NETWORK_IO S_FILE_IO S_JVM_STATE S_STATIC_STATE S_CLOSURE_STATE) e0 (g := (mkF m 31 #[.val (.int p1), .val (.int p2), .val (.int p3), .val (.int i), .val (.int j), .val (.int (0 : Int32)), .unset, .unset, .unset] [(.int i)])) rfl (by rw [hml]; rfl) (argsL := [(.int i)]) (rest := []) (lenOf pd1 rfl) rfl (W := 0) (by show 2 * 0 + _ ≤ _; exact Nat.le_of_eq rfl) (hb hby at_31) (by decide) (by decide) (by decide) (by decide)
    obtain ⟨rfl, N102, e102⟩ := hQ102
    refine Go.of st102 ?_
    have NF102 := Fr.app N0 N102
    show Go p e s below _ _ _ T102 (mkF m 34 #[.val (.int p1), .val (.int p2), .val (.int p3), .val (.int i), .val (.int j), .val (.int (0 : Int32)), .unset, .unset, .unset] [(.ref (selP i w_INTERNALS w_NATIVE_CODE w_CLASS_LOADER w_REFLECTION w_THREADS w_PROCESS w_NETWORK_IO w_FILE_IO w_JVM_STATE w_STATIC_STATE w_CLOSURE_STATE))])
    refine Go.of (fun _ hr => XS.astore X102.here hx rfl (hb hby at_34) rfl rfl (l' := #[.val (.int p1), .val (.int p2), .val (.int p3), .val (.int i), .val (.int j), .val (.int (0 : Int32)), .val (.ref (selP i w_INTERNALS w_NATIVE_CODE w_CLASS_LOADER w_REFLECTION w_THREADS w_PROCESS w_NETWORK_IO w_FILE_IO w_JVM_STATE w_STATIC_STATE w_CLOSURE_STATE)), .unset, .unset]) rfl hr) ?_
    show Go p e s below _ _ _ T102 (mkF m 36 #[.val (.int p1), .val (.int p2), .val (.int p3), .val (.int i), .val (.int j), .val (.int (0 : Int32)), .val (.ref (selP i w_INTERNALS w_NATIVE_CODE w_CLASS_LOADER w_REFLECTION w_THREADS w_PROCESS w_NETWORK_IO w_FILE_IO w_JVM_STATE w_STATIC_STATE w_CLOSURE_STATE)), .unset, .unset] [])
    refine Go.of (fun _ hr => XS.iload X102.here hx rfl (hb hby at_36) rfl  hr) ?_
    show Go p e s below _ _ _ T102 (mkF m 38 #[.val (.int p1), .val (.int p2), .val (.int p3), .val (.int i), .val (.int j), .val (.int (0 : Int32)), .val (.ref (selP i w_INTERNALS w_NATIVE_CODE w_CLASS_LOADER w_REFLECTION w_THREADS w_PROCESS w_NETWORK_IO w_FILE_IO w_JVM_STATE w_STATIC_STATE w_CLOSURE_STATE)), .unset, .unset] [(.int (0 : Int32))])
    refine Go.of (fun _ hr => XS.ifYes X102.here hx rfl (pc0 := 38) (pc' := 45) rfl (hb hby at_38) rfl ((if0 _ _).trans (teq (by decide : ((0 : Int32) = (0 : Int32)))).1) (by decide) (by decide) hr) ?_
    show Go p e s below _ _ _ T102 (mkF m 45 #[.val (.int p1), .val (.int p2), .val (.int p3), .val (.int i), .val (.int j), .val (.int (0 : Int32)), .val (.ref (selP i w_INTERNALS w_NATIVE_CODE w_CLASS_LOADER w_REFLECTION w_THREADS w_PROCESS w_NETWORK_IO w_FILE_IO w_JVM_STATE w_STATIC_STATE w_CLOSURE_STATE)), .unset, .unset] [])
    refine Go.of (fun _ hr => XS.iload X102.here hx rfl (hb hby at_45) rfl  hr) ?_
    show Go p e s below _ _ _ T102 (mkF m 47 #[.val (.int p1), .val (.int p2), .val (.int p3), .val (.int i), .val (.int j), .val (.int (0 : Int32)), .val (.ref (selP i w_INTERNALS w_NATIVE_CODE w_CLASS_LOADER w_REFLECTION w_THREADS w_PROCESS w_NETWORK_IO w_FILE_IO w_JVM_STATE w_STATIC_STATE w_CLOSURE_STATE)), .unset, .unset] [(.int j)])
    obtain ⟨_, T103, L103, X103, hQ103, st103⟩ := own_callS X102 hx hZ hown (hw _ (List.mem_of_getElem? (i := 1) rfl)) (hw _ (List.mem_of_getElem? (i := 2) rfl)) (hw _ (List.mem_of_getElem? (i := 3) rfl)) (hw _ (List.mem_of_getElem? (i := 4) rfl)) (by decide) (rm1 l Z a0 hw [] j w_INTERNALS w_NATIVE_CODE w_CLASS_LOADER w_REFLECTION w_THREADS w_PROCESS w_NETWORK_IO w_FILE_IO w_JVM_STATE w_STATIC_STATE w_CLOSURE_STATE h0 n0 Z0 S_INTERNALS S_NATIVE_CODE S_CLASS_LOADER S_REFLECTION S_THREADS S_PROCESS S_NETWORK_IO S_FILE_IO S_JVM_STATE S_STATIC_STATE S_CLOSURE_STATE) e102 (g := (mkF m 47 #[.val (.int p1), .val (.int p2), .val (.int p3), .val (.int i), .val (.int j), .val (.int (0 : Int32)), .val (.ref (selP i w_INTERNALS w_NATIVE_CODE w_CLASS_LOADER w_REFLECTION w_THREADS w_PROCESS w_NETWORK_IO w_FILE_IO w_JVM_STATE w_STATIC_STATE w_CLOSURE_STATE)), .unset, .unset] [(.int j)])) rfl (by rw [hml]; rfl) (argsL := [(.int j)]) (rest := []) (lenOf pd1 rfl) rfl (W := 0) (by show 2 * 0 + _ ≤ _; exact Nat.le_of_eq rfl) (hb hby at_47) (by decide) (by decide) (by decide) (by decide)
    obtain ⟨rfl, N103, e103⟩ := hQ103
    refine Go.of st103 ?_
    have NF103 := Fr.app NF102 N103
    show Go p e s below _ _ _ T103 (mkF m 50 #[.val (.int p1), .val (.int p2), .val (.int p3), .val (.int i), .val (.int j), .val (.int (0 : Int32)), .val (.ref (selP i w_INTERNALS w_NATIVE_CODE w_CLASS_LOADER w_REFLECTION w_THREADS w_PROCESS w_NETWORK_IO w_FILE_IO w_JVM_STATE w_STATIC_STATE w_CLOSURE_STATE)), .unset, .unset] [(.ref (selP j w_INTERNALS w_NATIVE_CODE w_CLASS_LOADER w_REFLECTION w_THREADS w_PROCESS w_NETWORK_IO w_FILE_IO w_JVM_STATE w_STATIC_STATE w_CLOSURE_STATE))])
    refine Go.of (fun _ hr => XS.astore X103.here hx rfl (hb hby at_50) rfl rfl (l' := #[.val (.int p1), .val (.int p2), .val (.int p3), .val (.int i), .val (.int j), .val (.int (0 : Int32)), .val (.ref (selP i w_INTERNALS w_NATIVE_CODE w_CLASS_LOADER w_REFLECTION w_THREADS w_PROCESS w_NETWORK_IO w_FILE_IO w_JVM_STATE w_STATIC_STATE w_CLOSURE_STATE)), .val (.ref (selP j w_INTERNALS w_NATIVE_CODE w_CLASS_LOADER w_REFLECTION w_THREADS w_PROCESS w_NETWORK_IO w_FILE_IO w_JVM_STATE w_STATIC_STATE w_CLOSURE_STATE)), .unset]) rfl hr) ?_
    show Go p e s below _ _ _ T103 (mkF m 52 #[.val (.int p1), .val (.int p2), .val (.int p3), .val (.int i), .val (.int j), .val (.int (0 : Int32)), .val (.ref (selP i w_INTERNALS w_NATIVE_CODE w_CLASS_LOADER w_REFLECTION w_THREADS w_PROCESS w_NETWORK_IO w_FILE_IO w_JVM_STATE w_STATIC_STATE w_CLOSURE_STATE)), .val (.ref (selP j w_INTERNALS w_NATIVE_CODE w_CLASS_LOADER w_REFLECTION w_THREADS w_PROCESS w_NETWORK_IO w_FILE_IO w_JVM_STATE w_STATIC_STATE w_CLOSURE_STATE)), .unset] [])
    refine Go.of (fun _ hr => XS.iload X103.here hx rfl (hb hby at_52) rfl  hr) ?_
    show Go p e s below _ _ _ T103 (mkF m 54 #[.val (.int p1), .val (.int p2), .val (.int p3), .val (.int i), .val (.int j), .val (.int (0 : Int32)), .val (.ref (selP i w_INTERNALS w_NATIVE_CODE w_CLASS_LOADER w_REFLECTION w_THREADS w_PROCESS w_NETWORK_IO w_FILE_IO w_JVM_STATE w_STATIC_STATE w_CLOSURE_STATE)), .val (.ref (selP j w_INTERNALS w_NATIVE_CODE w_CLASS_LOADER w_REFLECTION w_THREADS w_PROCESS w_NETWORK_IO w_FILE_IO w_JVM_STATE w_STATIC_STATE w_CLOSURE_STATE)), .unset] [(.int (0 : Int32))])
    refine Go.of (fun _ hr => XS.ifYes X103.here hx rfl (pc0 := 54) (pc' := 62) rfl (hb hby at_54) rfl ((if0 _ _).trans (teq (by decide : ((0 : Int32) = (0 : Int32)))).1) (by decide) (by decide) hr) ?_
    show Go p e s below _ _ _ T103 (mkF m 62 #[.val (.int p1), .val (.int p2), .val (.int p3), .val (.int i), .val (.int j), .val (.int (0 : Int32)), .val (.ref (selP i w_INTERNALS w_NATIVE_CODE w_CLASS_LOADER w_REFLECTION w_THREADS w_PROCESS w_NETWORK_IO w_FILE_IO w_JVM_STATE w_STATIC_STATE w_CLOSURE_STATE)), .val (.ref (selP j w_INTERNALS w_NATIVE_CODE w_CLASS_LOADER w_REFLECTION w_THREADS w_PROCESS w_NETWORK_IO w_FILE_IO w_JVM_STATE w_STATIC_STATE w_CLOSURE_STATE)), .unset] [])
    refine Go.of (fun _ hr => XS.iloadN X103.here hx rfl (hb hby at_62) rfl  hr) ?_
    show Go p e s below _ _ _ T103 (mkF m 63 #[.val (.int p1), .val (.int p2), .val (.int p3), .val (.int i), .val (.int j), .val (.int (0 : Int32)), .val (.ref (selP i w_INTERNALS w_NATIVE_CODE w_CLASS_LOADER w_REFLECTION w_THREADS w_PROCESS w_NETWORK_IO w_FILE_IO w_JVM_STATE w_STATIC_STATE w_CLOSURE_STATE)), .val (.ref (selP j w_INTERNALS w_NATIVE_CODE w_CLASS_LOADER w_REFLECTION w_THREADS w_PROCESS w_NETWORK_IO w_FILE_IO w_JVM_STATE w_STATIC_STATE w_CLOSURE_STATE)), .unset] [(.int i)])
    refine Go.of (fun _ hr => XS.iload X103.here hx rfl (hb hby at_63) rfl  hr) ?_
    show Go p e s below _ _ _ T103 (mkF m 65 #[.val (.int p1), .val (.int p2), .val (.int p3), .val (.int i), .val (.int j), .val (.int (0 : Int32)), .val (.ref (selP i w_INTERNALS w_NATIVE_CODE w_CLASS_LOADER w_REFLECTION w_THREADS w_PROCESS w_NETWORK_IO w_FILE_IO w_JVM_STATE w_STATIC_STATE w_CLOSURE_STATE)), .val (.ref (selP j w_INTERNALS w_NATIVE_CODE w_CLASS_LOADER w_REFLECTION w_THREADS w_PROCESS w_NETWORK_IO w_FILE_IO w_JVM_STATE w_STATIC_STATE w_CLOSURE_STATE)), .unset] [(.int j), (.int i)])
    obtain ⟨_, T104, L104, X104, hQ104, st104⟩ := own_callS X103 hx hZ hown (hw _ (List.mem_of_getElem? (i := 10) rfl)) (hw _ (List.mem_of_getElem? (i := 11) rfl)) (hw _ (List.mem_of_getElem? (i := 12) rfl)) (hw _ (List.mem_of_getElem? (i := 13) rfl)) (by decide) (rm2 l Z a0 hw [] i j h0 n0 Z0) e103 (g := (mkF m 65 #[.val (.int p1), .val (.int p2), .val (.int p3), .val (.int i), .val (.int j), .val (.int (0 : Int32)), .val (.ref (selP i w_INTERNALS w_NATIVE_CODE w_CLASS_LOADER w_REFLECTION w_THREADS w_PROCESS w_NETWORK_IO w_FILE_IO w_JVM_STATE w_STATIC_STATE w_CLOSURE_STATE)), .val (.ref (selP j w_INTERNALS w_NATIVE_CODE w_CLASS_LOADER w_REFLECTION w_THREADS w_PROCESS w_NETWORK_IO w_FILE_IO w_JVM_STATE w_STATIC_STATE w_CLOSURE_STATE)), .unset] [(.int j), (.int i)])) rfl (by rw [hml]; rfl) (argsL := [(.int i), (.int j)]) (rest := []) (lenOf pd2 rfl) rfl (W := 0) (by show 2 * 0 + _ ≤ _; exact Nat.le_of_eq rfl) (hb hby at_65) (by decide) (by decide) (by decide) (by decide)
    obtain ⟨rfl, N104, e104⟩ := hQ104
    refine Go.of st104 ?_
    have NF104 := Fr.app NF103 N104
    show Go p e s below _ _ _ T104 (mkF m 68 #[.val (.int p1), .val (.int p2), .val (.int p3), .val (.int i), .val (.int j), .val (.int (0 : Int32)), .val (.ref (selP i w_INTERNALS w_NATIVE_CODE w_CLASS_LOADER w_REFLECTION w_THREADS w_PROCESS w_NETWORK_IO w_FILE_IO w_JVM_STATE w_STATIC_STATE w_CLOSURE_STATE)), .val (.ref (selP j w_INTERNALS w_NATIVE_CODE w_CLASS_LOADER w_REFLECTION w_THREADS w_PROCESS w_NETWORK_IO w_FILE_IO w_JVM_STATE w_STATIC_STATE w_CLOSURE_STATE)), .unset] [(.int (if j < i then j else i))])
    obtain ⟨_, T105, L105, X105, hQ105, st105⟩ := own_callS X104 hx hZ hown (hw _ (List.mem_of_getElem? (i := 1) rfl)) (hw _ (List.mem_of_getElem? (i := 2) rfl)) (hw _ (List.mem_of_getElem? (i := 3) rfl)) (hw _ (List.mem_of_getElem? (i := 4) rfl)) (by decide) (rm1 l Z a0 hw [] (if j < i then j else i) w_INTERNALS w_NATIVE_CODE w_CLASS_LOADER w_REFLECTION w_THREADS w_PROCESS w_NETWORK_IO w_FILE_IO w_JVM_STATE w_STATIC_STATE w_CLOSURE_STATE h0 n0 Z0 S_INTERNALS S_NATIVE_CODE S_CLASS_LOADER S_REFLECTION S_THREADS S_PROCESS S_NETWORK_IO S_FILE_IO S_JVM_STATE S_STATIC_STATE S_CLOSURE_STATE) e104 (g := (mkF m 68 #[.val (.int p1), .val (.int p2), .val (.int p3), .val (.int i), .val (.int j), .val (.int (0 : Int32)), .val (.ref (selP i w_INTERNALS w_NATIVE_CODE w_CLASS_LOADER w_REFLECTION w_THREADS w_PROCESS w_NETWORK_IO w_FILE_IO w_JVM_STATE w_STATIC_STATE w_CLOSURE_STATE)), .val (.ref (selP j w_INTERNALS w_NATIVE_CODE w_CLASS_LOADER w_REFLECTION w_THREADS w_PROCESS w_NETWORK_IO w_FILE_IO w_JVM_STATE w_STATIC_STATE w_CLOSURE_STATE)), .unset] [(.int (if j < i then j else i))])) rfl (by rw [hml]; rfl) (argsL := [(.int (if j < i then j else i))]) (rest := []) (lenOf pd1 rfl) rfl (W := 0) (by show 2 * 0 + _ ≤ _; exact Nat.le_of_eq rfl) (hb hby at_68) (by decide) (by decide) (by decide) (by decide)
    obtain ⟨rfl, N105, e105⟩ := hQ105
    refine Go.of st105 ?_
    have NF105 := Fr.app NF104 N105
    show Go p e s below _ _ _ T105 (mkF m 71 #[.val (.int p1), .val (.int p2), .val (.int p3), .val (.int i), .val (.int j), .val (.int (0 : Int32)), .val (.ref (selP i w_INTERNALS w_NATIVE_CODE w_CLASS_LOADER w_REFLECTION w_THREADS w_PROCESS w_NETWORK_IO w_FILE_IO w_JVM_STATE w_STATIC_STATE w_CLOSURE_STATE)), .val (.ref (selP j w_INTERNALS w_NATIVE_CODE w_CLASS_LOADER w_REFLECTION w_THREADS w_PROCESS w_NETWORK_IO w_FILE_IO w_JVM_STATE w_STATIC_STATE w_CLOSURE_STATE)), .unset] [(.ref (selP (if j < i then j else i) w_INTERNALS w_NATIVE_CODE w_CLASS_LOADER w_REFLECTION w_THREADS w_PROCESS w_NETWORK_IO w_FILE_IO w_JVM_STATE w_STATIC_STATE w_CLOSURE_STATE))])
    refine Go.of (fun _ hr => XS.astore X105.here hx rfl (hb hby at_71) rfl rfl (l' := #[.val (.int p1), .val (.int p2), .val (.int p3), .val (.int i), .val (.int j), .val (.int (0 : Int32)), .val (.ref (selP i w_INTERNALS w_NATIVE_CODE w_CLASS_LOADER w_REFLECTION w_THREADS w_PROCESS w_NETWORK_IO w_FILE_IO w_JVM_STATE w_STATIC_STATE w_CLOSURE_STATE)), .val (.ref (selP j w_INTERNALS w_NATIVE_CODE w_CLASS_LOADER w_REFLECTION w_THREADS w_PROCESS w_NETWORK_IO w_FILE_IO w_JVM_STATE w_STATIC_STATE w_CLOSURE_STATE)), .val (.ref (selP (if j < i then j else i) w_INTERNALS w_NATIVE_CODE w_CLASS_LOADER w_REFLECTION w_THREADS w_PROCESS w_NETWORK_IO w_FILE_IO w_JVM_STATE w_STATIC_STATE w_CLOSURE_STATE))]) rfl hr) ?_
    show Go p e s below _ _ _ T105 (mkF m 73 #[.val (.int p1), .val (.int p2), .val (.int p3), .val (.int i), .val (.int j), .val (.int (0 : Int32)), .val (.ref (selP i w_INTERNALS w_NATIVE_CODE w_CLASS_LOADER w_REFLECTION w_THREADS w_PROCESS w_NETWORK_IO w_FILE_IO w_JVM_STATE w_STATIC_STATE w_CLOSURE_STATE)), .val (.ref (selP j w_INTERNALS w_NATIVE_CODE w_CLASS_LOADER w_REFLECTION w_THREADS w_PROCESS w_NETWORK_IO w_FILE_IO w_JVM_STATE w_STATIC_STATE w_CLOSURE_STATE)), .val (.ref (selP (if j < i then j else i) w_INTERNALS w_NATIVE_CODE w_CLASS_LOADER w_REFLECTION w_THREADS w_PROCESS w_NETWORK_IO w_FILE_IO w_JVM_STATE w_STATIC_STATE w_CLOSURE_STATE))] [])
    refine Go.of (fun _ hr => XS.aload X105.here hx rfl (hb hby at_73) rfl rfl hr) ?_
    show Go p e s below _ _ _ T105 (mkF m 75 #[.val (.int p1), .val (.int p2), .val (.int p3), .val (.int i), .val (.int j), .val (.int (0 : Int32)), .val (.ref (selP i w_INTERNALS w_NATIVE_CODE w_CLASS_LOADER w_REFLECTION w_THREADS w_PROCESS w_NETWORK_IO w_FILE_IO w_JVM_STATE w_STATIC_STATE w_CLOSURE_STATE)), .val (.ref (selP j w_INTERNALS w_NATIVE_CODE w_CLASS_LOADER w_REFLECTION w_THREADS w_PROCESS w_NETWORK_IO w_FILE_IO w_JVM_STATE w_STATIC_STATE w_CLOSURE_STATE)), .val (.ref (selP (if j < i then j else i) w_INTERNALS w_NATIVE_CODE w_CLASS_LOADER w_REFLECTION w_THREADS w_PROCESS w_NETWORK_IO w_FILE_IO w_JVM_STATE w_STATIC_STATE w_CLOSURE_STATE))] [(.ref (selP i w_INTERNALS w_NATIVE_CODE w_CLASS_LOADER w_REFLECTION w_THREADS w_PROCESS w_NETWORK_IO w_FILE_IO w_JVM_STATE w_STATIC_STATE w_CLOSURE_STATE))])
    refine Go.of (fun _ hr => XS.aload X105.here hx rfl (hb hby at_75) rfl rfl hr) ?_
    show Go p e s below _ _ _ T105 (mkF m 77 #[.val (.int p1), .val (.int p2), .val (.int p3), .val (.int i), .val (.int j), .val (.int (0 : Int32)), .val (.ref (selP i w_INTERNALS w_NATIVE_CODE w_CLASS_LOADER w_REFLECTION w_THREADS w_PROCESS w_NETWORK_IO w_FILE_IO w_JVM_STATE w_STATIC_STATE w_CLOSURE_STATE)), .val (.ref (selP j w_INTERNALS w_NATIVE_CODE w_CLASS_LOADER w_REFLECTION w_THREADS w_PROCESS w_NETWORK_IO w_FILE_IO w_JVM_STATE w_STATIC_STATE w_CLOSURE_STATE)), .val (.ref (selP (if j < i then j else i) w_INTERNALS w_NATIVE_CODE w_CLASS_LOADER w_REFLECTION w_THREADS w_PROCESS w_NETWORK_IO w_FILE_IO w_JVM_STATE w_STATIC_STATE w_CLOSURE_STATE))] [(.ref (selP j w_INTERNALS w_NATIVE_CODE w_CLASS_LOADER w_REFLECTION w_THREADS w_PROCESS w_NETWORK_IO w_FILE_IO w_JVM_STATE w_STATIC_STATE w_CLOSURE_STATE)), (.ref (selP i w_INTERNALS w_NATIVE_CODE w_CLASS_LOADER w_REFLECTION w_THREADS w_PROCESS w_NETWORK_IO w_FILE_IO w_JVM_STATE w_STATIC_STATE w_CLOSURE_STATE))])
    obtain ⟨_, T106, L106, X106, hQ106, st106⟩ := own_callV X105 hx hZ hown (hw _ (List.mem_of_getElem? (i := 14) rfl)) (hw _ (List.mem_of_getElem? (i := 15) rfl)) (notFace_of_selects (args := #[]) (mvT hZ (hw _ (List.mem_of_getElem? (i := 17) rfl)))) (hw _ (List.mem_of_getElem? (i := 17) rfl)) (hw _ (List.mem_of_getElem? (i := 16) rfl)) (hw _ (List.mem_of_getElem? (i := 6) rfl)) (hw _ (List.mem_of_getElem? (i := 18) rfl)) (by decide) (selP_exa E_INTERNALS E_NATIVE_CODE E_CLASS_LOADER E_REFLECTION E_THREADS E_PROCESS E_NETWORK_IO E_FILE_IO E_JVM_STATE E_STATIC_STATE E_CLOSURE_STATE) (rm3 l Z a0 hw [] (selP i w_INTERNALS w_NATIVE_CODE w_CLASS_LOADER w_REFLECTION w_THREADS w_PROCESS w_NETWORK_IO w_FILE_IO w_JVM_STATE w_STATIC_STATE w_CLOSURE_STATE) (selP j w_INTERNALS w_NATIVE_CODE w_CLASS_LOADER w_REFLECTION w_THREADS w_PROCESS w_NETWORK_IO w_FILE_IO w_JVM_STATE w_STATIC_STATE w_CLOSURE_STATE) (ordP i) (ordP j) h0 n0 Z0 (selP_ord O_INTERNALS O_NATIVE_CODE O_CLASS_LOADER O_REFLECTION O_THREADS O_PROCESS O_NETWORK_IO O_FILE_IO O_JVM_STATE O_STATIC_STATE O_CLOSURE_STATE) (selP_ord O_INTERNALS O_NATIVE_CODE O_CLASS_LOADER O_REFLECTION O_THREADS O_PROCESS O_NETWORK_IO O_FILE_IO O_JVM_STATE O_STATIC_STATE O_CLOSURE_STATE) (selP_exa E_INTERNALS E_NATIVE_CODE E_CLASS_LOADER E_REFLECTION E_THREADS E_PROCESS E_NETWORK_IO E_FILE_IO E_JVM_STATE E_STATIC_STATE E_CLOSURE_STATE) (selP_exa E_INTERNALS E_NATIVE_CODE E_CLASS_LOADER E_REFLECTION E_THREADS E_PROCESS E_NETWORK_IO E_FILE_IO E_JVM_STATE E_STATIC_STATE E_CLOSURE_STATE)) e105 (g := (mkF m 77 #[.val (.int p1), .val (.int p2), .val (.int p3), .val (.int i), .val (.int j), .val (.int (0 : Int32)), .val (.ref (selP i w_INTERNALS w_NATIVE_CODE w_CLASS_LOADER w_REFLECTION w_THREADS w_PROCESS w_NETWORK_IO w_FILE_IO w_JVM_STATE w_STATIC_STATE w_CLOSURE_STATE)), .val (.ref (selP j w_INTERNALS w_NATIVE_CODE w_CLASS_LOADER w_REFLECTION w_THREADS w_PROCESS w_NETWORK_IO w_FILE_IO w_JVM_STATE w_STATIC_STATE w_CLOSURE_STATE)), .val (.ref (selP (if j < i then j else i) w_INTERNALS w_NATIVE_CODE w_CLASS_LOADER w_REFLECTION w_THREADS w_PROCESS w_NETWORK_IO w_FILE_IO w_JVM_STATE w_STATIC_STATE w_CLOSURE_STATE))] [(.ref (selP j w_INTERNALS w_NATIVE_CODE w_CLASS_LOADER w_REFLECTION w_THREADS w_PROCESS w_NETWORK_IO w_FILE_IO w_JVM_STATE w_STATIC_STATE w_CLOSURE_STATE)), (.ref (selP i w_INTERNALS w_NATIVE_CODE w_CLASS_LOADER w_REFLECTION w_THREADS w_PROCESS w_NETWORK_IO w_FILE_IO w_JVM_STATE w_STATIC_STATE w_CLOSURE_STATE))])) rfl (by rw [hml]; rfl) (argsL := [(.ref (selP j w_INTERNALS w_NATIVE_CODE w_CLASS_LOADER w_REFLECTION w_THREADS w_PROCESS w_NETWORK_IO w_FILE_IO w_JVM_STATE w_STATIC_STATE w_CLOSURE_STATE))]) (rest := []) (lenOf pd3 rfl) rfl (W := 0) (by show 2 * 0 + _ ≤ _; exact Nat.le_of_eq rfl) (hb hby at_77) (by decide) (by decide) (by decide) (by decide)
    obtain ⟨rfl, N106, e106⟩ := hQ106
    refine Go.of st106 ?_
    have NF106 := Fr.app NF105 N106
    show Go p e s below _ _ _ T106 (mkF m 80 #[.val (.int p1), .val (.int p2), .val (.int p3), .val (.int i), .val (.int j), .val (.int (0 : Int32)), .val (.ref (selP i w_INTERNALS w_NATIVE_CODE w_CLASS_LOADER w_REFLECTION w_THREADS w_PROCESS w_NETWORK_IO w_FILE_IO w_JVM_STATE w_STATIC_STATE w_CLOSURE_STATE)), .val (.ref (selP j w_INTERNALS w_NATIVE_CODE w_CLASS_LOADER w_REFLECTION w_THREADS w_PROCESS w_NETWORK_IO w_FILE_IO w_JVM_STATE w_STATIC_STATE w_CLOSURE_STATE)), .val (.ref (selP (if j < i then j else i) w_INTERNALS w_NATIVE_CODE w_CLASS_LOADER w_REFLECTION w_THREADS w_PROCESS w_NETWORK_IO w_FILE_IO w_JVM_STATE w_STATIC_STATE w_CLOSURE_STATE))] [(.ref (if ordP j < ordP i then (selP j w_INTERNALS w_NATIVE_CODE w_CLASS_LOADER w_REFLECTION w_THREADS w_PROCESS w_NETWORK_IO w_FILE_IO w_JVM_STATE w_STATIC_STATE w_CLOSURE_STATE) else (selP i w_INTERNALS w_NATIVE_CODE w_CLASS_LOADER w_REFLECTION w_THREADS w_PROCESS w_NETWORK_IO w_FILE_IO w_JVM_STATE w_STATIC_STATE w_CLOSURE_STATE)))])
    refine Go.of (fun _ hr => XS.aload X106.here hx rfl (hb hby at_80) rfl rfl hr) ?_
    show Go p e s below _ _ _ T106 (mkF m 82 #[.val (.int p1), .val (.int p2), .val (.int p3), .val (.int i), .val (.int j), .val (.int (0 : Int32)), .val (.ref (selP i w_INTERNALS w_NATIVE_CODE w_CLASS_LOADER w_REFLECTION w_THREADS w_PROCESS w_NETWORK_IO w_FILE_IO w_JVM_STATE w_STATIC_STATE w_CLOSURE_STATE)), .val (.ref (selP j w_INTERNALS w_NATIVE_CODE w_CLASS_LOADER w_REFLECTION w_THREADS w_PROCESS w_NETWORK_IO w_FILE_IO w_JVM_STATE w_STATIC_STATE w_CLOSURE_STATE)), .val (.ref (selP (if j < i then j else i) w_INTERNALS w_NATIVE_CODE w_CLASS_LOADER w_REFLECTION w_THREADS w_PROCESS w_NETWORK_IO w_FILE_IO w_JVM_STATE w_STATIC_STATE w_CLOSURE_STATE))] [(.ref (selP (if j < i then j else i) w_INTERNALS w_NATIVE_CODE w_CLASS_LOADER w_REFLECTION w_THREADS w_PROCESS w_NETWORK_IO w_FILE_IO w_JVM_STATE w_STATIC_STATE w_CLOSURE_STATE)), (.ref (if ordP j < ordP i then (selP j w_INTERNALS w_NATIVE_CODE w_CLASS_LOADER w_REFLECTION w_THREADS w_PROCESS w_NETWORK_IO w_FILE_IO w_JVM_STATE w_STATIC_STATE w_CLOSURE_STATE) else (selP i w_INTERNALS w_NATIVE_CODE w_CLASS_LOADER w_REFLECTION w_THREADS w_PROCESS w_NETWORK_IO w_FILE_IO w_JVM_STATE w_STATIC_STATE w_CLOSURE_STATE)))])
    refine Go.of (fun _ hr => Jvm.RoadKit.acmp (g := (mkF m 82 #[.val (.int p1), .val (.int p2), .val (.int p3), .val (.int i), .val (.int j), .val (.int (0 : Int32)), .val (.ref (selP i w_INTERNALS w_NATIVE_CODE w_CLASS_LOADER w_REFLECTION w_THREADS w_PROCESS w_NETWORK_IO w_FILE_IO w_JVM_STATE w_STATIC_STATE w_CLOSURE_STATE)), .val (.ref (selP j w_INTERNALS w_NATIVE_CODE w_CLASS_LOADER w_REFLECTION w_THREADS w_PROCESS w_NETWORK_IO w_FILE_IO w_JVM_STATE w_STATIC_STATE w_CLOSURE_STATE)), .val (.ref (selP (if j < i then j else i) w_INTERNALS w_NATIVE_CODE w_CLASS_LOADER w_REFLECTION w_THREADS w_PROCESS w_NETWORK_IO w_FILE_IO w_JVM_STATE w_STATIC_STATE w_CLOSURE_STATE))] [(.ref (selP (if j < i then j else i) w_INTERNALS w_NATIVE_CODE w_CLASS_LOADER w_REFLECTION w_THREADS w_PROCESS w_NETWORK_IO w_FILE_IO w_JVM_STATE w_STATIC_STATE w_CLOSURE_STATE)), (.ref (if ordP j < ordP i then (selP j w_INTERNALS w_NATIVE_CODE w_CLASS_LOADER w_REFLECTION w_THREADS w_PROCESS w_NETWORK_IO w_FILE_IO w_JVM_STATE w_STATIC_STATE w_CLOSURE_STATE) else (selP i w_INTERNALS w_NATIVE_CODE w_CLASS_LOADER w_REFLECTION w_THREADS w_PROCESS w_NETWORK_IO w_FILE_IO w_JVM_STATE w_STATIC_STATE w_CLOSURE_STATE)))])) X106 hx rfl rfl rfl (pc0 := 82) (pc' := 85) (same := true) rfl (hb hby at_82) rfl (decide_eq_true (congrArg Value.ref (by rw [ordP_eq (rng11 hi), ordP_eq (rng11 hj)]; split <;> rfl))) (by decide) (by decide) hr) ?_
    show Go p e s below _ _ _ T106 (mkF m 85 #[.val (.int p1), .val (.int p2), .val (.int p3), .val (.int i), .val (.int j), .val (.int (0 : Int32)), .val (.ref (selP i w_INTERNALS w_NATIVE_CODE w_CLASS_LOADER w_REFLECTION w_THREADS w_PROCESS w_NETWORK_IO w_FILE_IO w_JVM_STATE w_STATIC_STATE w_CLOSURE_STATE)), .val (.ref (selP j w_INTERNALS w_NATIVE_CODE w_CLASS_LOADER w_REFLECTION w_THREADS w_PROCESS w_NETWORK_IO w_FILE_IO w_JVM_STATE w_STATIC_STATE w_CLOSURE_STATE)), .val (.ref (selP (if j < i then j else i) w_INTERNALS w_NATIVE_CODE w_CLASS_LOADER w_REFLECTION w_THREADS w_PROCESS w_NETWORK_IO w_FILE_IO w_JVM_STATE w_STATIC_STATE w_CLOSURE_STATE))] [])
    refine Go.of (fun _ hr => XS.iconst X106.here hx rfl (hb hby at_85) hr) ?_
    show Go p e s below _ _ _ T106 (mkF m 86 #[.val (.int p1), .val (.int p2), .val (.int p3), .val (.int i), .val (.int j), .val (.int (0 : Int32)), .val (.ref (selP i w_INTERNALS w_NATIVE_CODE w_CLASS_LOADER w_REFLECTION w_THREADS w_PROCESS w_NETWORK_IO w_FILE_IO w_JVM_STATE w_STATIC_STATE w_CLOSURE_STATE)), .val (.ref (selP j w_INTERNALS w_NATIVE_CODE w_CLASS_LOADER w_REFLECTION w_THREADS w_PROCESS w_NETWORK_IO w_FILE_IO w_JVM_STATE w_STATIC_STATE w_CLOSURE_STATE)), .val (.ref (selP (if j < i then j else i) w_INTERNALS w_NATIVE_CODE w_CLASS_LOADER w_REFLECTION w_THREADS w_PROCESS w_NETWORK_IO w_FILE_IO w_JVM_STATE w_STATIC_STATE w_CLOSURE_STATE))] [(.int (1 : Int32))])
    refine Go.of (fun _ hr => XS.goto X106.here hx rfl (pc0 := 86) (pc' := 90) rfl (hb hby at_86) (by decide) (by decide) hr) ?_
    show Go p e s below _ _ _ T106 (mkF m 90 #[.val (.int p1), .val (.int p2), .val (.int p3), .val (.int i), .val (.int j), .val (.int (0 : Int32)), .val (.ref (selP i w_INTERNALS w_NATIVE_CODE w_CLASS_LOADER w_REFLECTION w_THREADS w_PROCESS w_NETWORK_IO w_FILE_IO w_JVM_STATE w_STATIC_STATE w_CLOSURE_STATE)), .val (.ref (selP j w_INTERNALS w_NATIVE_CODE w_CLASS_LOADER w_REFLECTION w_THREADS w_PROCESS w_NETWORK_IO w_FILE_IO w_JVM_STATE w_STATIC_STATE w_CLOSURE_STATE)), .val (.ref (selP (if j < i then j else i) w_INTERNALS w_NATIVE_CODE w_CLASS_LOADER w_REFLECTION w_THREADS w_PROCESS w_NETWORK_IO w_FILE_IO w_JVM_STATE w_STATIC_STATE w_CLOSURE_STATE))] [(.int (1 : Int32))])
    exact Go.retN X106 hx hlk (t := .boolean) (z' := (1 : Int32)) hret (by simp) (hb hby at_90) rfl (by decide) (by decide) ⟨rfl, NF106⟩
  · refine Go.of (fun _ hr => XS.ifNo X0.here hx rfl (hb hby at_20) rfl ((if0 _ _).trans (feq hb20_101).1) hr) ?_
    show Go p e s below _ _ _ s₁ (mkF m 23 #[.val (.int p1), .val (.int p2), .val (.int p3), .val (.int i), .val (.int j), .unset, .unset, .unset, .unset] [])
    refine Go.of (fun _ hr => XS.iconst X0.here hx rfl (hb hby at_23) hr) ?_
    show Go p e s below _ _ _ s₁ (mkF m 24 #[.val (.int p1), .val (.int p2), .val (.int p3), .val (.int i), .val (.int j), .unset, .unset, .unset, .unset] [(.int (1 : Int32))])
    refine Go.of (fun _ hr => XS.goto X0.here hx rfl (pc0 := 24) (pc' := 28) rfl (hb hby at_24) (by decide) (by decide) hr) ?_
    show Go p e s below _ _ _ s₁ (mkF m 28 #[.val (.int p1), .val (.int p2), .val (.int p3), .val (.int i), .val (.int j), .unset, .unset, .unset, .unset] [(.int (1 : Int32))])
    refine Go.of (fun _ hr => XS.istore X0.here hx rfl (hb hby at_28) rfl (l' := #[.val (.int p1), .val (.int p2), .val (.int p3), .val (.int i), .val (.int j), .val (.int (1 : Int32)), .unset, .unset, .unset]) rfl hr) ?_
    show Go p e s below _ _ _ s₁ (mkF m 30 #[.val (.int p1), .val (.int p2), .val (.int p3), .val (.int i), .val (.int j), .val (.int (1 : Int32)), .unset, .unset, .unset] [])
    refine Go.of (fun _ hr => XS.iloadN X0.here hx rfl (hb hby at_30) rfl  hr) ?_
    show Go p e s below _ _ _ s₁ (mkF m 31 #[.val (.int p1), .val (.int p2), .val (.int p3), .val (.int i), .val (.int j), .val (.int (1 : Int32)), .unset, .unset, .unset] [(.int i)])
    obtain ⟨_, T107, L107, X107, hQ107, st107⟩ := own_callS X0 hx hZ hown (hw _ (List.mem_of_getElem? (i := 1) rfl)) (hw _ (List.mem_of_getElem? (i := 2) rfl)) (hw _ (List.mem_of_getElem? (i := 3) rfl)) (hw _ (List.mem_of_getElem? (i := 4) rfl)) (by decide) (rm1 l Z a0 hw [] i w_INTERNALS w_NATIVE_CODE w_CLASS_LOADER w_REFLECTION w_THREADS w_PROCESS w_NETWORK_IO w_FILE_IO w_JVM_STATE w_STATIC_STATE w_CLOSURE_STATE h0 n0 Z0 S_INTERNALS S_NATIVE_CODE S_CLASS_LOADER S_REFLECTION S_THREADS S_PROCESS S_NETWORK_IO S_FILE_IO S_JVM_STATE S_STATIC_STATE S_CLOSURE_STATE) e0 (g := (mkF m 31 #[.val (.int p1), .val (.int p2), .val (.int p3), .val (.int i), .val (.int j), .val (.int (1 : Int32)), .unset, .unset, .unset] [(.int i)])) rfl (by rw [hml]; rfl) (argsL := [(.int i)]) (rest := []) (lenOf pd1 rfl) rfl (W := 0) (by show 2 * 0 + _ ≤ _; exact Nat.le_of_eq rfl) (hb hby at_31) (by decide) (by decide) (by decide) (by decide)
    obtain ⟨rfl, N107, e107⟩ := hQ107
    refine Go.of st107 ?_
    have NF107 := Fr.app N0 N107
    show Go p e s below _ _ _ T107 (mkF m 34 #[.val (.int p1), .val (.int p2), .val (.int p3), .val (.int i), .val (.int j), .val (.int (1 : Int32)), .unset, .unset, .unset] [(.ref (selP i w_INTERNALS w_NATIVE_CODE w_CLASS_LOADER w_REFLECTION w_THREADS w_PROCESS w_NETWORK_IO w_FILE_IO w_JVM_STATE w_STATIC_STATE w_CLOSURE_STATE))])
    refine Go.of (fun _ hr => XS.astore X107.here hx rfl (hb hby at_34) rfl rfl (l' := #[.val (.int p1), .val (.int p2), .val (.int p3), .val (.int i), .val (.int j), .val (.int (1 : Int32)), .val (.ref (selP i w_INTERNALS w_NATIVE_CODE w_CLASS_LOADER w_REFLECTION w_THREADS w_PROCESS w_NETWORK_IO w_FILE_IO w_JVM_STATE w_STATIC_STATE w_CLOSURE_STATE)), .unset, .unset]) rfl hr) ?_
    show Go p e s below _ _ _ T107 (mkF m 36 #[.val (.int p1), .val (.int p2), .val (.int p3), .val (.int i), .val (.int j), .val (.int (1 : Int32)), .val (.ref (selP i w_INTERNALS w_NATIVE_CODE w_CLASS_LOADER w_REFLECTION w_THREADS w_PROCESS w_NETWORK_IO w_FILE_IO w_JVM_STATE w_STATIC_STATE w_CLOSURE_STATE)), .unset, .unset] [])
    refine Go.of (fun _ hr => XS.iload X107.here hx rfl (hb hby at_36) rfl  hr) ?_
    show Go p e s below _ _ _ T107 (mkF m 38 #[.val (.int p1), .val (.int p2), .val (.int p3), .val (.int i), .val (.int j), .val (.int (1 : Int32)), .val (.ref (selP i w_INTERNALS w_NATIVE_CODE w_CLASS_LOADER w_REFLECTION w_THREADS w_PROCESS w_NETWORK_IO w_FILE_IO w_JVM_STATE w_STATIC_STATE w_CLOSURE_STATE)), .unset, .unset] [(.int (1 : Int32))])
    refine Go.of (fun _ hr => XS.ifNo X107.here hx rfl (hb hby at_38) rfl ((if0 _ _).trans (feq (by decide : ¬ ((1 : Int32) = (0 : Int32)))).1) hr) ?_
    show Go p e s below _ _ _ T107 (mkF m 41 #[.val (.int p1), .val (.int p2), .val (.int p3), .val (.int i), .val (.int j), .val (.int (1 : Int32)), .val (.ref (selP i w_INTERNALS w_NATIVE_CODE w_CLASS_LOADER w_REFLECTION w_THREADS w_PROCESS w_NETWORK_IO w_FILE_IO w_JVM_STATE w_STATIC_STATE w_CLOSURE_STATE)), .unset, .unset] [])
    refine Go.of (fun _ hr => XS.aconstNull X107.here hx rfl (hb hby at_41) hr) ?_
    show Go p e s below _ _ _ T107 (mkF m 42 #[.val (.int p1), .val (.int p2), .val (.int p3), .val (.int i), .val (.int j), .val (.int (1 : Int32)), .val (.ref (selP i w_INTERNALS w_NATIVE_CODE w_CLASS_LOADER w_REFLECTION w_THREADS w_PROCESS w_NETWORK_IO w_FILE_IO w_JVM_STATE w_STATIC_STATE w_CLOSURE_STATE)), .unset, .unset] [.null])
    refine Go.of (fun _ hr => XS.goto X107.here hx rfl (pc0 := 42) (pc' := 50) rfl (hb hby at_42) (by decide) (by decide) hr) ?_
    show Go p e s below _ _ _ T107 (mkF m 50 #[.val (.int p1), .val (.int p2), .val (.int p3), .val (.int i), .val (.int j), .val (.int (1 : Int32)), .val (.ref (selP i w_INTERNALS w_NATIVE_CODE w_CLASS_LOADER w_REFLECTION w_THREADS w_PROCESS w_NETWORK_IO w_FILE_IO w_JVM_STATE w_STATIC_STATE w_CLOSURE_STATE)), .unset, .unset] [.null])
    refine Go.of (fun _ hr => XS.astore X107.here hx rfl (hb hby at_50) rfl rfl (l' := #[.val (.int p1), .val (.int p2), .val (.int p3), .val (.int i), .val (.int j), .val (.int (1 : Int32)), .val (.ref (selP i w_INTERNALS w_NATIVE_CODE w_CLASS_LOADER w_REFLECTION w_THREADS w_PROCESS w_NETWORK_IO w_FILE_IO w_JVM_STATE w_STATIC_STATE w_CLOSURE_STATE)), .val .null, .unset]) rfl hr) ?_
    show Go p e s below _ _ _ T107 (mkF m 52 #[.val (.int p1), .val (.int p2), .val (.int p3), .val (.int i), .val (.int j), .val (.int (1 : Int32)), .val (.ref (selP i w_INTERNALS w_NATIVE_CODE w_CLASS_LOADER w_REFLECTION w_THREADS w_PROCESS w_NETWORK_IO w_FILE_IO w_JVM_STATE w_STATIC_STATE w_CLOSURE_STATE)), .val .null, .unset] [])
    refine Go.of (fun _ hr => XS.iload X107.here hx rfl (hb hby at_52) rfl  hr) ?_
    show Go p e s below _ _ _ T107 (mkF m 54 #[.val (.int p1), .val (.int p2), .val (.int p3), .val (.int i), .val (.int j), .val (.int (1 : Int32)), .val (.ref (selP i w_INTERNALS w_NATIVE_CODE w_CLASS_LOADER w_REFLECTION w_THREADS w_PROCESS w_NETWORK_IO w_FILE_IO w_JVM_STATE w_STATIC_STATE w_CLOSURE_STATE)), .val .null, .unset] [(.int (1 : Int32))])
    refine Go.of (fun _ hr => XS.ifNo X107.here hx rfl (hb hby at_54) rfl ((if0 _ _).trans (feq (by decide : ¬ ((1 : Int32) = (0 : Int32)))).1) hr) ?_
    show Go p e s below _ _ _ T107 (mkF m 57 #[.val (.int p1), .val (.int p2), .val (.int p3), .val (.int i), .val (.int j), .val (.int (1 : Int32)), .val (.ref (selP i w_INTERNALS w_NATIVE_CODE w_CLASS_LOADER w_REFLECTION w_THREADS w_PROCESS w_NETWORK_IO w_FILE_IO w_JVM_STATE w_STATIC_STATE w_CLOSURE_STATE)), .val .null, .unset] [])
    refine Go.of (fun _ hr => XS.aload X107.here hx rfl (hb hby at_57) rfl rfl hr) ?_
    show Go p e s below _ _ _ T107 (mkF m 59 #[.val (.int p1), .val (.int p2), .val (.int p3), .val (.int i), .val (.int j), .val (.int (1 : Int32)), .val (.ref (selP i w_INTERNALS w_NATIVE_CODE w_CLASS_LOADER w_REFLECTION w_THREADS w_PROCESS w_NETWORK_IO w_FILE_IO w_JVM_STATE w_STATIC_STATE w_CLOSURE_STATE)), .val .null, .unset] [(.ref (selP i w_INTERNALS w_NATIVE_CODE w_CLASS_LOADER w_REFLECTION w_THREADS w_PROCESS w_NETWORK_IO w_FILE_IO w_JVM_STATE w_STATIC_STATE w_CLOSURE_STATE))])
    refine Go.of (fun _ hr => XS.goto X107.here hx rfl (pc0 := 59) (pc' := 71) rfl (hb hby at_59) (by decide) (by decide) hr) ?_
    show Go p e s below _ _ _ T107 (mkF m 71 #[.val (.int p1), .val (.int p2), .val (.int p3), .val (.int i), .val (.int j), .val (.int (1 : Int32)), .val (.ref (selP i w_INTERNALS w_NATIVE_CODE w_CLASS_LOADER w_REFLECTION w_THREADS w_PROCESS w_NETWORK_IO w_FILE_IO w_JVM_STATE w_STATIC_STATE w_CLOSURE_STATE)), .val .null, .unset] [(.ref (selP i w_INTERNALS w_NATIVE_CODE w_CLASS_LOADER w_REFLECTION w_THREADS w_PROCESS w_NETWORK_IO w_FILE_IO w_JVM_STATE w_STATIC_STATE w_CLOSURE_STATE))])
    refine Go.of (fun _ hr => XS.astore X107.here hx rfl (hb hby at_71) rfl rfl (l' := #[.val (.int p1), .val (.int p2), .val (.int p3), .val (.int i), .val (.int j), .val (.int (1 : Int32)), .val (.ref (selP i w_INTERNALS w_NATIVE_CODE w_CLASS_LOADER w_REFLECTION w_THREADS w_PROCESS w_NETWORK_IO w_FILE_IO w_JVM_STATE w_STATIC_STATE w_CLOSURE_STATE)), .val .null, .val (.ref (selP i w_INTERNALS w_NATIVE_CODE w_CLASS_LOADER w_REFLECTION w_THREADS w_PROCESS w_NETWORK_IO w_FILE_IO w_JVM_STATE w_STATIC_STATE w_CLOSURE_STATE))]) rfl hr) ?_
    show Go p e s below _ _ _ T107 (mkF m 73 #[.val (.int p1), .val (.int p2), .val (.int p3), .val (.int i), .val (.int j), .val (.int (1 : Int32)), .val (.ref (selP i w_INTERNALS w_NATIVE_CODE w_CLASS_LOADER w_REFLECTION w_THREADS w_PROCESS w_NETWORK_IO w_FILE_IO w_JVM_STATE w_STATIC_STATE w_CLOSURE_STATE)), .val .null, .val (.ref (selP i w_INTERNALS w_NATIVE_CODE w_CLASS_LOADER w_REFLECTION w_THREADS w_PROCESS w_NETWORK_IO w_FILE_IO w_JVM_STATE w_STATIC_STATE w_CLOSURE_STATE))] [])
    refine Go.of (fun _ hr => XS.aload X107.here hx rfl (hb hby at_73) rfl rfl hr) ?_
    show Go p e s below _ _ _ T107 (mkF m 75 #[.val (.int p1), .val (.int p2), .val (.int p3), .val (.int i), .val (.int j), .val (.int (1 : Int32)), .val (.ref (selP i w_INTERNALS w_NATIVE_CODE w_CLASS_LOADER w_REFLECTION w_THREADS w_PROCESS w_NETWORK_IO w_FILE_IO w_JVM_STATE w_STATIC_STATE w_CLOSURE_STATE)), .val .null, .val (.ref (selP i w_INTERNALS w_NATIVE_CODE w_CLASS_LOADER w_REFLECTION w_THREADS w_PROCESS w_NETWORK_IO w_FILE_IO w_JVM_STATE w_STATIC_STATE w_CLOSURE_STATE))] [(.ref (selP i w_INTERNALS w_NATIVE_CODE w_CLASS_LOADER w_REFLECTION w_THREADS w_PROCESS w_NETWORK_IO w_FILE_IO w_JVM_STATE w_STATIC_STATE w_CLOSURE_STATE))])
    refine Go.of (fun _ hr => XS.aload X107.here hx rfl (hb hby at_75) rfl rfl hr) ?_
    show Go p e s below _ _ _ T107 (mkF m 77 #[.val (.int p1), .val (.int p2), .val (.int p3), .val (.int i), .val (.int j), .val (.int (1 : Int32)), .val (.ref (selP i w_INTERNALS w_NATIVE_CODE w_CLASS_LOADER w_REFLECTION w_THREADS w_PROCESS w_NETWORK_IO w_FILE_IO w_JVM_STATE w_STATIC_STATE w_CLOSURE_STATE)), .val .null, .val (.ref (selP i w_INTERNALS w_NATIVE_CODE w_CLASS_LOADER w_REFLECTION w_THREADS w_PROCESS w_NETWORK_IO w_FILE_IO w_JVM_STATE w_STATIC_STATE w_CLOSURE_STATE))] [.null, (.ref (selP i w_INTERNALS w_NATIVE_CODE w_CLASS_LOADER w_REFLECTION w_THREADS w_PROCESS w_NETWORK_IO w_FILE_IO w_JVM_STATE w_STATIC_STATE w_CLOSURE_STATE))])
    obtain ⟨_, T108, L108, X108, hQ108, st108⟩ := own_callV X107 hx hZ hown (hw _ (List.mem_of_getElem? (i := 14) rfl)) (hw _ (List.mem_of_getElem? (i := 15) rfl)) (notFace_of_selects (args := #[]) (mvT hZ (hw _ (List.mem_of_getElem? (i := 17) rfl)))) (hw _ (List.mem_of_getElem? (i := 17) rfl)) (hw _ (List.mem_of_getElem? (i := 16) rfl)) (hw _ (List.mem_of_getElem? (i := 6) rfl)) (hw _ (List.mem_of_getElem? (i := 18) rfl)) (by decide) (selP_exa E_INTERNALS E_NATIVE_CODE E_CLASS_LOADER E_REFLECTION E_THREADS E_PROCESS E_NETWORK_IO E_FILE_IO E_JVM_STATE E_STATIC_STATE E_CLOSURE_STATE) (rmN l Z a0 hw [] (selP i w_INTERNALS w_NATIVE_CODE w_CLASS_LOADER w_REFLECTION w_THREADS w_PROCESS w_NETWORK_IO w_FILE_IO w_JVM_STATE w_STATIC_STATE w_CLOSURE_STATE) h0 n0 Z0) e107 (g := (mkF m 77 #[.val (.int p1), .val (.int p2), .val (.int p3), .val (.int i), .val (.int j), .val (.int (1 : Int32)), .val (.ref (selP i w_INTERNALS w_NATIVE_CODE w_CLASS_LOADER w_REFLECTION w_THREADS w_PROCESS w_NETWORK_IO w_FILE_IO w_JVM_STATE w_STATIC_STATE w_CLOSURE_STATE)), .val .null, .val (.ref (selP i w_INTERNALS w_NATIVE_CODE w_CLASS_LOADER w_REFLECTION w_THREADS w_PROCESS w_NETWORK_IO w_FILE_IO w_JVM_STATE w_STATIC_STATE w_CLOSURE_STATE))] [.null, (.ref (selP i w_INTERNALS w_NATIVE_CODE w_CLASS_LOADER w_REFLECTION w_THREADS w_PROCESS w_NETWORK_IO w_FILE_IO w_JVM_STATE w_STATIC_STATE w_CLOSURE_STATE))])) rfl (by rw [hml]; rfl) (argsL := [.null]) (rest := []) (lenOf pd3 rfl) rfl (W := 0) (by show 2 * 0 + _ ≤ _; exact Nat.le_of_eq rfl) (hb hby at_77) (by decide) (by decide) (by decide) (by decide)
    obtain ⟨rfl, N108, e108⟩ := hQ108
    refine Go.of st108 ?_
    have NF108 := Fr.app NF107 N108
    show Go p e s below _ _ _ T108 (mkF m 80 #[.val (.int p1), .val (.int p2), .val (.int p3), .val (.int i), .val (.int j), .val (.int (1 : Int32)), .val (.ref (selP i w_INTERNALS w_NATIVE_CODE w_CLASS_LOADER w_REFLECTION w_THREADS w_PROCESS w_NETWORK_IO w_FILE_IO w_JVM_STATE w_STATIC_STATE w_CLOSURE_STATE)), .val .null, .val (.ref (selP i w_INTERNALS w_NATIVE_CODE w_CLASS_LOADER w_REFLECTION w_THREADS w_PROCESS w_NETWORK_IO w_FILE_IO w_JVM_STATE w_STATIC_STATE w_CLOSURE_STATE))] [(.ref (selP i w_INTERNALS w_NATIVE_CODE w_CLASS_LOADER w_REFLECTION w_THREADS w_PROCESS w_NETWORK_IO w_FILE_IO w_JVM_STATE w_STATIC_STATE w_CLOSURE_STATE))])
    refine Go.of (fun _ hr => XS.aload X108.here hx rfl (hb hby at_80) rfl rfl hr) ?_
    show Go p e s below _ _ _ T108 (mkF m 82 #[.val (.int p1), .val (.int p2), .val (.int p3), .val (.int i), .val (.int j), .val (.int (1 : Int32)), .val (.ref (selP i w_INTERNALS w_NATIVE_CODE w_CLASS_LOADER w_REFLECTION w_THREADS w_PROCESS w_NETWORK_IO w_FILE_IO w_JVM_STATE w_STATIC_STATE w_CLOSURE_STATE)), .val .null, .val (.ref (selP i w_INTERNALS w_NATIVE_CODE w_CLASS_LOADER w_REFLECTION w_THREADS w_PROCESS w_NETWORK_IO w_FILE_IO w_JVM_STATE w_STATIC_STATE w_CLOSURE_STATE))] [(.ref (selP i w_INTERNALS w_NATIVE_CODE w_CLASS_LOADER w_REFLECTION w_THREADS w_PROCESS w_NETWORK_IO w_FILE_IO w_JVM_STATE w_STATIC_STATE w_CLOSURE_STATE)), (.ref (selP i w_INTERNALS w_NATIVE_CODE w_CLASS_LOADER w_REFLECTION w_THREADS w_PROCESS w_NETWORK_IO w_FILE_IO w_JVM_STATE w_STATIC_STATE w_CLOSURE_STATE))])
    refine Go.of (fun _ hr => Jvm.RoadKit.acmp (g := (mkF m 82 #[.val (.int p1), .val (.int p2), .val (.int p3), .val (.int i), .val (.int j), .val (.int (1 : Int32)), .val (.ref (selP i w_INTERNALS w_NATIVE_CODE w_CLASS_LOADER w_REFLECTION w_THREADS w_PROCESS w_NETWORK_IO w_FILE_IO w_JVM_STATE w_STATIC_STATE w_CLOSURE_STATE)), .val .null, .val (.ref (selP i w_INTERNALS w_NATIVE_CODE w_CLASS_LOADER w_REFLECTION w_THREADS w_PROCESS w_NETWORK_IO w_FILE_IO w_JVM_STATE w_STATIC_STATE w_CLOSURE_STATE))] [(.ref (selP i w_INTERNALS w_NATIVE_CODE w_CLASS_LOADER w_REFLECTION w_THREADS w_PROCESS w_NETWORK_IO w_FILE_IO w_JVM_STATE w_STATIC_STATE w_CLOSURE_STATE)), (.ref (selP i w_INTERNALS w_NATIVE_CODE w_CLASS_LOADER w_REFLECTION w_THREADS w_PROCESS w_NETWORK_IO w_FILE_IO w_JVM_STATE w_STATIC_STATE w_CLOSURE_STATE))])) X108 hx rfl rfl rfl (pc0 := 82) (pc' := 85) (same := true) rfl (hb hby at_82) rfl (decide_eq_true rfl) (by decide) (by decide) hr) ?_
    show Go p e s below _ _ _ T108 (mkF m 85 #[.val (.int p1), .val (.int p2), .val (.int p3), .val (.int i), .val (.int j), .val (.int (1 : Int32)), .val (.ref (selP i w_INTERNALS w_NATIVE_CODE w_CLASS_LOADER w_REFLECTION w_THREADS w_PROCESS w_NETWORK_IO w_FILE_IO w_JVM_STATE w_STATIC_STATE w_CLOSURE_STATE)), .val .null, .val (.ref (selP i w_INTERNALS w_NATIVE_CODE w_CLASS_LOADER w_REFLECTION w_THREADS w_PROCESS w_NETWORK_IO w_FILE_IO w_JVM_STATE w_STATIC_STATE w_CLOSURE_STATE))] [])
    refine Go.of (fun _ hr => XS.iconst X108.here hx rfl (hb hby at_85) hr) ?_
    show Go p e s below _ _ _ T108 (mkF m 86 #[.val (.int p1), .val (.int p2), .val (.int p3), .val (.int i), .val (.int j), .val (.int (1 : Int32)), .val (.ref (selP i w_INTERNALS w_NATIVE_CODE w_CLASS_LOADER w_REFLECTION w_THREADS w_PROCESS w_NETWORK_IO w_FILE_IO w_JVM_STATE w_STATIC_STATE w_CLOSURE_STATE)), .val .null, .val (.ref (selP i w_INTERNALS w_NATIVE_CODE w_CLASS_LOADER w_REFLECTION w_THREADS w_PROCESS w_NETWORK_IO w_FILE_IO w_JVM_STATE w_STATIC_STATE w_CLOSURE_STATE))] [(.int (1 : Int32))])
    refine Go.of (fun _ hr => XS.goto X108.here hx rfl (pc0 := 86) (pc' := 90) rfl (hb hby at_86) (by decide) (by decide) hr) ?_
    show Go p e s below _ _ _ T108 (mkF m 90 #[.val (.int p1), .val (.int p2), .val (.int p3), .val (.int i), .val (.int j), .val (.int (1 : Int32)), .val (.ref (selP i w_INTERNALS w_NATIVE_CODE w_CLASS_LOADER w_REFLECTION w_THREADS w_PROCESS w_NETWORK_IO w_FILE_IO w_JVM_STATE w_STATIC_STATE w_CLOSURE_STATE)), .val .null, .val (.ref (selP i w_INTERNALS w_NATIVE_CODE w_CLASS_LOADER w_REFLECTION w_THREADS w_PROCESS w_NETWORK_IO w_FILE_IO w_JVM_STATE w_STATIC_STATE w_CLOSURE_STATE))] [(.int (1 : Int32))])
    exact Go.retN X108 hx hlk (t := .boolean) (z' := (1 : Int32)) hret (by simp) (hb hby at_90) rfl (by decide) (by decide) ⟨rfl, NF108⟩

set_option maxRecDepth 65536 in
set_option maxHeartbeats 40000000 in
theorem comes_1 {Post : Tables → Env → Array Value → State → Outcome → State → Prop} (hpost : ∀ tb e args s v u, (limb_1_1.after args s (.returned v) u = true ∧ limb_1_2.after args s (.returned v) u = true ∧ True) → FrameEnd s (.returned v) u (Jvm.fieldLocs frame_1_writes args s ++ Jvm.arrayLocs frame_1_arrays args s ++ Jvm.staticLocs frame_1_statics s) 0 0 → Post tb e args s (.returned v) u) :
    ArmFor flags0 classFile x code maxLocals ret World_1 tables_1 room_1 Calls_1 rest_1 Pre_1 Post := by
  intro l hfl _ _ p e ha hc hk s m args below hf hA hF happ hP
  obtain ⟨hcalls, hrest, hpre⟩ := hP
  obtain ⟨-, -, -, hnamed, -, -, -, hat⟩ := (Spec.applies_iff hf).mp happ
  obtain ⟨hg, hn⟩ := and_e (Cond.before_iff.mp (show (Jvm.Cond.and given_1 narrow_1).before args s = true from hpre))
  have hw := fun d (hd : d ∈ tables_1) => atoms_spec (ws := Jvm.Cond.code x code maxLocals ret :: tables_1) hat d (List.mem_cons_of_mem _ hd)
  have hfit : Fit s := fun {y c} hc i hi => by
    obtain ⟨ha, rfl⟩ := Array.getElem?_eq_some_iff.mp hc
    have q := List.all_eq_true.mp ((Array.all_eq_true_iff_forall_mem.mp hF) _ (Array.getElem_mem ha)) i (List.mem_range.mpr hi)
    simpa [Array.getElem?_eq_getElem hi] using q
  obtain ⟨hg0, hg⟩ := and_e hg
  obtain ⟨hg1, hg⟩ := and_e hg
  obtain ⟨hg2, hg⟩ := and_e hg
  obtain ⟨w0, w1, w2, rfl⟩ : ∃ w0 w1 w2 : Value, args = #[w0, w1, w2] := by
    have hs : args.size = 3 := by simpa [Cond.value] using hg0
    obtain ⟨L⟩ := args
    match L, hs with
    | [w0, w1, w2], _ => exact ⟨w0, w1, w2, rfl⟩
  obtain ⟨i0, ev0⟩ := is_v hg1
  obtain rfl : w0 = (.int i0) := Option.some.inj ev0
  obtain ⟨i1, ev1⟩ := is_v hg2
  obtain rfl : w1 = (.int i1) := Option.some.inj ev1
  obtain ⟨i2, ev2⟩ := is_v hg
  obtain rfl : w2 = (.int i2) := Option.some.inj ev2
  obtain ⟨hn0, hn⟩ := and_e hn
  obtain ⟨hn1, hn⟩ := and_e hn
  obtain ⟨hn2, hn⟩ := and_e hn
  obtain ⟨hn3, hn⟩ := and_e hn
  obtain ⟨hn4, hn⟩ := and_e hn
  obtain ⟨hn5, hn⟩ := and_e hn
  obtain ⟨hn6, hn⟩ := and_e hn
  obtain ⟨hn7, hn⟩ := and_e hn
  obtain ⟨hn8, hn⟩ := and_e hn
  obtain ⟨hn9, hn⟩ := and_e hn
  obtain ⟨hn10, hn⟩ := and_e hn
  obtain ⟨hn11, hn⟩ := and_e hn
  obtain ⟨hn12, hn⟩ := and_e hn
  obtain ⟨hn13, hn⟩ := and_e hn
  obtain ⟨hn14, hn⟩ := and_e hn
  obtain ⟨hn15, hn⟩ := and_e hn
  obtain ⟨hn16, hn⟩ := and_e hn
  obtain ⟨hn17, hn⟩ := and_e hn
  obtain ⟨hn18, hn⟩ := and_e hn
  obtain ⟨hn19, hn⟩ := and_e hn
  obtain ⟨hn20, hn⟩ := and_e hn
  obtain ⟨w_INTERNALS, ev_INTERNALS⟩ := exa_v hn0
  have E_INTERNALS := Exa.start ev_INTERNALS hn0
  have S_INTERNALS := Sta.start ev_INTERNALS (Or.inr ⟨(hw _ (List.mem_of_getElem? (i := 6) rfl)), (hw _ (List.mem_of_getElem? (i := 7) rfl))⟩)
  obtain ⟨w_REFLECTION, ev_REFLECTION⟩ := exa_v hn1
  have E_REFLECTION := Exa.start ev_REFLECTION hn1
  have S_REFLECTION := Sta.start ev_REFLECTION (Or.inr ⟨(hw _ (List.mem_of_getElem? (i := 6) rfl)), (hw _ (List.mem_of_getElem? (i := 9) rfl))⟩)
  obtain ⟨w_NATIVE_CODE, ev_NATIVE_CODE⟩ := exa_v hn4
  have E_NATIVE_CODE := Exa.start ev_NATIVE_CODE hn4
  have S_NATIVE_CODE := Sta.start ev_NATIVE_CODE (Or.inr ⟨(hw _ (List.mem_of_getElem? (i := 6) rfl)), (hw _ (List.mem_of_getElem? (i := 29) rfl))⟩)
  obtain ⟨w_CLOSURE_STATE, ev_CLOSURE_STATE⟩ := exa_v hn5
  have E_CLOSURE_STATE := Exa.start ev_CLOSURE_STATE hn5
  have S_CLOSURE_STATE := Sta.start ev_CLOSURE_STATE (Or.inr ⟨(hw _ (List.mem_of_getElem? (i := 6) rfl)), (hw _ (List.mem_of_getElem? (i := 31) rfl))⟩)
  obtain ⟨w_JVM_STATE, ev_JVM_STATE⟩ := exa_v hn6
  have E_JVM_STATE := Exa.start ev_JVM_STATE hn6
  have S_JVM_STATE := Sta.start ev_JVM_STATE (Or.inr ⟨(hw _ (List.mem_of_getElem? (i := 6) rfl)), (hw _ (List.mem_of_getElem? (i := 33) rfl))⟩)
  obtain ⟨w_PROCESS, ev_PROCESS⟩ := exa_v hn7
  have E_PROCESS := Exa.start ev_PROCESS hn7
  have S_PROCESS := Sta.start ev_PROCESS (Or.inr ⟨(hw _ (List.mem_of_getElem? (i := 6) rfl)), (hw _ (List.mem_of_getElem? (i := 35) rfl))⟩)
  obtain ⟨w_CLASS_LOADER, ev_CLASS_LOADER⟩ := exa_v hn10
  have E_CLASS_LOADER := Exa.start ev_CLASS_LOADER hn10
  have S_CLASS_LOADER := Sta.start ev_CLASS_LOADER (Or.inr ⟨(hw _ (List.mem_of_getElem? (i := 6) rfl)), (hw _ (List.mem_of_getElem? (i := 37) rfl))⟩)
  obtain ⟨w_NETWORK_IO, ev_NETWORK_IO⟩ := exa_v hn14
  have E_NETWORK_IO := Exa.start ev_NETWORK_IO hn14
  have S_NETWORK_IO := Sta.start ev_NETWORK_IO (Or.inr ⟨(hw _ (List.mem_of_getElem? (i := 6) rfl)), (hw _ (List.mem_of_getElem? (i := 39) rfl))⟩)
  obtain ⟨w_FILE_IO, ev_FILE_IO⟩ := exa_v hn15
  have E_FILE_IO := Exa.start ev_FILE_IO hn15
  have S_FILE_IO := Sta.start ev_FILE_IO (Or.inr ⟨(hw _ (List.mem_of_getElem? (i := 6) rfl)), (hw _ (List.mem_of_getElem? (i := 41) rfl))⟩)
  obtain ⟨w_STATIC_STATE, ev_STATIC_STATE⟩ := exa_v hn17
  have E_STATIC_STATE := Exa.start ev_STATIC_STATE hn17
  have S_STATIC_STATE := Sta.start ev_STATIC_STATE (Or.inr ⟨(hw _ (List.mem_of_getElem? (i := 6) rfl)), (hw _ (List.mem_of_getElem? (i := 43) rfl))⟩)
  obtain ⟨w_THREADS, ev_THREADS⟩ := exa_v hn19
  have E_THREADS := Exa.start ev_THREADS hn19
  have S_THREADS := Sta.start ev_THREADS (Or.inr ⟨(hw _ (List.mem_of_getElem? (i := 6) rfl)), (hw _ (List.mem_of_getElem? (i := 45) rfl))⟩)
  have O_INTERNALS := Fld.start ((fld_at ev_INTERNALS).symm.trans (own_eqI hn2))
  have O_REFLECTION := Fld.start ((fld_at ev_REFLECTION).symm.trans (own_eqI hn3))
  have O_JVM_STATE := Fld.start ((fld_at ev_JVM_STATE).symm.trans (own_eqI hn8))
  have O_NATIVE_CODE := Fld.start ((fld_at ev_NATIVE_CODE).symm.trans (own_eqI hn9))
  have O_CLOSURE_STATE := Fld.start ((fld_at ev_CLOSURE_STATE).symm.trans (own_eqI hn11))
  have O_CLASS_LOADER := Fld.start ((fld_at ev_CLASS_LOADER).symm.trans (own_eqI hn12))
  have O_PROCESS := Fld.start ((fld_at ev_PROCESS).symm.trans (own_eqI hn13))
  have O_FILE_IO := Fld.start ((fld_at ev_FILE_IO).symm.trans (own_eqI hn16))
  have O_STATIC_STATE := Fld.start ((fld_at ev_STATIC_STATE).symm.trans (own_eqI hn18))
  have O_NETWORK_IO := Fld.start ((fld_at ev_NETWORK_IO).symm.trans (own_eqI hn20))
  have O_THREADS := Fld.start ((fld_at ev_THREADS).symm.trans (own_eqI hn))
  obtain ⟨n, o, h1, h2, h3, _, L, rfl, ⟨rfl, N⟩, hq⟩ := rm0 l s _ hw tables_1 i0 i1 i2 w_INTERNALS w_NATIVE_CODE w_CLASS_LOADER w_REFLECTION w_THREADS w_PROCESS w_NETWORK_IO w_FILE_IO w_JVM_STATE w_STATIC_STATE w_CLOSURE_STATE s.heap s.heap.size (Nat.le_refl _) S_INTERNALS S_NATIVE_CODE S_CLASS_LOADER S_REFLECTION S_THREADS S_PROCESS S_NETWORK_IO S_FILE_IO S_JVM_STATE S_STATIC_STATE S_CLOSURE_STATE E_INTERNALS E_NATIVE_CODE E_CLASS_LOADER E_REFLECTION E_THREADS E_PROCESS E_NETWORK_IO E_FILE_IO E_JVM_STATE E_STATIC_STATE E_CLOSURE_STATE O_INTERNALS O_NATIVE_CODE O_CLASS_LOADER O_REFLECTION O_THREADS O_PROCESS O_NETWORK_IO O_FILE_IO O_JVM_STATE O_STATIC_STATE O_CLOSURE_STATE p e ha hc hk s m _ below hf ((Spec.applies_iff_loose hf).mp happ).1 ⟨rfl, State.Warmed39.refl s, rfl⟩ trivial
  refine ⟨n, _, h1, h2, h3, hpost _ _ _ _ _ _ ⟨Cond.after_iff.mpr rfl, Cond.after_iff.mpr (eq_i res_at (Term.int_eval (1)) rfl), trivial⟩ ⟨hq.1, hq.2.1, (hq.2.2.sift fun y hy => Or.inr (N y hy)).mono (by decide) (by decide)⟩⟩
theorem main_1_1 : Claimed_1_1 := comes_1 fun _ _ _ _ _ _ h hF => ⟨h.1, hF⟩
theorem main_1_2 : Claimed_1_2 := comes_1 fun _ _ _ _ _ _ h hF => ⟨h.2.1, hF⟩

end Jvm.Pilot.@@N@@
namespace Jvm.Pilot.@@N@@
open Jvm Jvm.ClassFile Sem Op Lib Jvm.Free Jvm.Stand Jvm.Pilot.@@N@@.Jvm.D
/-! MADE BY PROGRAM (witnessworld.py) out of the Statement's table words and the real class files: 13 classes; the members and pool entries that the words name. The judged class is class 1, her method 2. -/
namespace start1
open Jvm.ClassFile
def u (s : String) : CpInfo := .utf8 (stringToUtf16 s)
/-- a pool by its gaps: so many unusable entries, then the entry; so many at the end -/
def gap : Nat → List CpInfo → List CpInfo
  | 0, r => r
  | n + 1, r => .unusable :: gap n r
def poolList (es : List (Nat × CpInfo)) (last : Nat) : List CpInfo := es.foldr (fun e r => gap e.1 (e.2 :: r)) (gap last [])
def pool (es : List (Nat × CpInfo)) (last : Nat) : Array CpInfo := ⟨poolList es last⟩
def fileOf (pool : Array CpInfo) (this : Nat) (attrs : Array Attribute := #[]) (ms : Array MethodInfo := #[]) (fl : Nat := 33) (sup : Nat := 0) (ifs : Array Nat := #[]) (fds : Array FieldInfo := #[]) : ClassFile where
  minorVersion := 0
  majorVersion := 65
  constantPool := pool
  accessFlags := fl
  thisClass := this
  superClass := sup
  interfaces := ifs
  fields := fds
  methods := ms
  attributes := attrs
def plain (name : String) (sup : Option ClassId) : Class where
  name := name
  kind := .ordinary
  loader := none
  accessFlags := 33
  super := sup
  interfaces := #[]
  cf := none
  fields := #[]
  methods := #[]
  instanceTypes := #[]
  staticTypes := #[]
  resolved := #[]
  callSites := []
  init := .initialized
  statics := none
  mirror := none

def pool0 : Array CpInfo := pool [(5, u "<init>"), (0, u "()V"), (1, .class_ 10), (1, u "java/lang/Object")] 113

def k0m0 : Method := { name := "<init>", desc := "()V", sig := { parameters := [], returnType := none }, accessFlags := 1, code := none }
/-- java/lang/Object -/
def k0 : Class := { plain "java/lang/Object" none with
  accessFlags := 33
  interfaces := #[]
  cf := some (fileOf pool0 8 #[] #[{ accessFlags := 1, nameIndex := 5, descriptorIndex := 6, attributes := #[] }] 33 0 #[] #[])
  fields := #[]
  methods := #[k0m0]
  instanceTypes := #[]
  staticTypes := #[]
  resolved := Array.replicate 124 none
  statics := none }

def pool1 : Array CpInfo := pool [(2, .class_ 4), (1, u "java/lang/Object"), (0, u "<init>"), (0, u "()V"), (0, .fieldref 8 9), (0, .class_ 10), (0, .nameAndType 11 12), (0, u "com/example/measured_flow/measuredflow/CodeRule"), (0, u "INTERNALS"), (0, u "Lcom/example/measured_flow/measuredflow/CodeRule;"), (0, .fieldref 8 14), (0, .nameAndType 15 12), (0, u "NATIVE_CODE"), (0, .fieldref 8 17), (0, .nameAndType 18 12), (0, u "CLASS_LOADER"), (0, .fieldref 8 20), (0, .nameAndType 21 12), (0, u "REFLECTION"), (0, .fieldref 8 23), (0, .nameAndType 24 12), (0, u "THREADS"), (0, .fieldref 8 26), (0, .nameAndType 27 12), (0, u "PROCESS"), (0, .fieldref 8 29), (0, .nameAndType 30 12), (0, u "NETWORK_IO"), (0, .fieldref 8 32), (0, .nameAndType 33 12), (0, u "FILE_IO"), (0, .fieldref 8 35), (0, .nameAndType 36 12), (0, u "JVM_STATE"), (0, .fieldref 8 38), (0, .nameAndType 39 12), (0, u "STATIC_STATE"), (0, .fieldref 8 41), (0, .nameAndType 42 12), (0, u "CLOSURE_STATE"), (0, .integer 2147483647), (0, .methodref 45 46), (0, .class_ 47), (0, .nameAndType 48 49), (0, u "com/example/measured_flow/measuredflow/CodeRuleFirstPinLaw"), (0, u "pick"), (0, u "(I)Lcom/example/measured_flow/measuredflow/CodeRule;"), (0, .methodref 51 52), (0, .class_ 53), (0, .nameAndType 54 55), (0, u "java/lang/Math"), (0, u "min"), (0, u "(II)I"), (0, .methodref 8 57), (0, .nameAndType 58 59), (0, u "first"), (0, u "(Lcom/example/measured_flow/measuredflow/CodeRule;)Lcom/example/measured_flow/measuredflow/CodeRule;"), (3, u "law"), (0, u "(III)Z")] 2

def k1m0 : Method := { name := "<init>", desc := "()V", sig := { parameters := [], returnType := none }, accessFlags := 1, code := none }
def k1c1 : Code := { maxStack := 2, maxLocals := 1, code := method_2_code, exceptionTable := #[], attributes := #[] }
def k1m1 : Method := { name := "pick", desc := "(I)Lcom/example/measured_flow/measuredflow/CodeRule;", sig := { parameters := [.int], returnType := some (.object "com/example/measured_flow/measuredflow/CodeRule") }, accessFlags := 10, code := some k1c1 }
def k1c2 : Code := { maxStack := 2, maxLocals := 9, code := code, exceptionTable := #[], attributes := #[] }
def k1m2 : Method := { name := "law", desc := "(III)Z", sig := { parameters := [.int, .int, .int], returnType := some .boolean }, accessFlags := 9, code := some k1c2 }
/-- com/example/measured_flow/measuredflow/CodeRuleFirstPinLaw -/
def k1 : Class := { plain "com/example/measured_flow/measuredflow/CodeRuleFirstPinLaw" (some 0) with
  accessFlags := 49
  interfaces := #[]
  cf := some (fileOf pool1 45 #[] #[{ accessFlags := 1, nameIndex := 5, descriptorIndex := 6, attributes := #[] }, { accessFlags := 10, nameIndex := 48, descriptorIndex := 49, attributes := #[] }, { accessFlags := 9, nameIndex := 63, descriptorIndex := 64, attributes := #[] }] 49 2 #[] #[])
  fields := #[]
  methods := #[k1m0, k1m1, k1m2]
  instanceTypes := #[]
  staticTypes := #[]
  resolved := Array.replicate 67 none
  statics := none }

def pool2 : Array CpInfo := pool [(1, .class_ 2), (0, u "java/lang/constant/Constable"), (0, .class_ 4), (0, u "java/lang/Object")] 6

/-- java/lang/constant/Constable -/
def k2 : Class := { plain "java/lang/constant/Constable" (some 0) with
  accessFlags := 1537
  interfaces := #[]
  cf := some (fileOf pool2 1 #[] #[] 1537 3 #[] #[])
  fields := #[]
  methods := #[]
  instanceTypes := #[]
  staticTypes := #[]
  resolved := Array.replicate 11 none
  statics := none }

def pool3 : Array CpInfo := pool [(1, .class_ 2), (0, u "java/lang/Comparable"), (0, .class_ 4), (0, u "java/lang/Object")] 7

/-- java/lang/Comparable -/
def k3 : Class := { plain "java/lang/Comparable" (some 0) with
  accessFlags := 1537
  interfaces := #[]
  cf := some (fileOf pool3 1 #[] #[] 1537 3 #[] #[])
  fields := #[]
  methods := #[]
  instanceTypes := #[]
  staticTypes := #[]
  resolved := Array.replicate 12 none
  statics := none }

def pool4 : Array CpInfo := pool [(1, .class_ 2), (0, u "java/io/Serializable"), (0, .class_ 4), (0, u "java/lang/Object")] 2

/-- java/io/Serializable -/
def k4 : Class := { plain "java/io/Serializable" (some 0) with
  accessFlags := 1537
  interfaces := #[]
  cf := some (fileOf pool4 1 #[] #[] 1537 3 #[] #[])
  fields := #[]
  methods := #[]
  instanceTypes := #[]
  staticTypes := #[]
  resolved := Array.replicate 7 none
  statics := none }

def pool5 : Array CpInfo := pool [(2, .class_ 4), (1, u "java/lang/Enum"), (0, u "name"), (0, u "Ljava/lang/String;"), (0, .fieldref 2 8), (0, .nameAndType 9 10), (0, u "ordinal"), (0, u "I"), (1, .class_ 14), (1, u "java/lang/Object"), (4, u "hash"), (86, .class_ 108), (1, u "java/lang/Enum$EnumDesc"), (2, .class_ 112), (0, u "java/lang/constant/Constable"), (0, .class_ 114), (0, u "java/lang/Comparable"), (0, .class_ 116), (0, u "java/io/Serializable"), (9, u "()I")] 77

def k5c0 : Code := { maxStack := 1, maxLocals := 1, code := jdk_37_method_2_code, exceptionTable := #[], attributes := #[] }
def k5m0 : Method := { name := "ordinal", desc := "()I", sig := { parameters := [], returnType := some .int }, accessFlags := 17, code := some k5c0 }
/-- java/lang/Enum -/
def k5 : Class := { plain "java/lang/Enum" (some 0) with
  accessFlags := 1057
  interfaces := #[2, 3, 4]
  cf := some (fileOf pool5 2 #[.nestMembers #[106]] #[{ accessFlags := 17, nameIndex := 9, descriptorIndex := 126, attributes := #[] }] 1057 12 #[111, 113, 115] #[{ accessFlags := 18, nameIndex := 5, descriptorIndex := 6, attributes := #[] }, { accessFlags := 18, nameIndex := 9, descriptorIndex := 10, attributes := #[] }, { accessFlags := 2, nameIndex := 19, descriptorIndex := 10, attributes := #[] }])
  fields := #[{ name := "name", type := (.object "java/lang/String"), accessFlags := 18, slot := 0, constantValue := 0 }, { name := "ordinal", type := .int, accessFlags := 18, slot := 1, constantValue := 0 }, { name := "hash", type := .int, accessFlags := 2, slot := 2, constantValue := 0 }]
  methods := #[k5m0]
  instanceTypes := #[(.object "java/lang/String"), .int, .int]
  staticTypes := #[]
  resolved := Array.replicate 204 none
  statics := none }

def pool6 : Array CpInfo := pool [(1, .class_ 2), (0, u "com/example/measured_flow/measuredflow/CodeRule"), (2, u "INTERNALS"), (0, u "Lcom/example/measured_flow/measuredflow/CodeRule;"), (2, u "NATIVE_CODE"), (2, u "CLASS_LOADER"), (2, u "REFLECTION"), (2, u "THREADS"), (2, u "PROCESS"), (2, u "NETWORK_IO"), (2, u "FILE_IO"), (2, u "JVM_STATE"), (2, u "STATIC_STATE"), (2, u "CLOSURE_STATE"), (2, u "$VALUES"), (0, u "[Lcom/example/measured_flow/measuredflow/CodeRule;"), (6, .class_ 49), (1, u "java/lang/Enum"), (8, u "word"), (0, u "Ljava/lang/String;"), (0, .methodref 1 61), (0, .nameAndType 62 63), (0, u "ordinal"), (0, u "()I"), (48, u "first"), (0, u "(Lcom/example/measured_flow/measuredflow/CodeRule;)Lcom/example/measured_flow/measuredflow/CodeRule;")] 6

def k6c0 : Code := { maxStack := 2, maxLocals := 3, code := prog_4_method_5_code, exceptionTable := #[], attributes := #[] }
def k6m0 : Method := { name := "first", desc := "(Lcom/example/measured_flow/measuredflow/CodeRule;)Lcom/example/measured_flow/measuredflow/CodeRule;", sig := { parameters := [(.object "com/example/measured_flow/measuredflow/CodeRule")], returnType := some (.object "com/example/measured_flow/measuredflow/CodeRule") }, accessFlags := 0, code := some k6c0 }
/-- com/example/measured_flow/measuredflow/CodeRule -/
def k6 : Class := { plain "com/example/measured_flow/measuredflow/CodeRule" (some 5) with
  accessFlags := 16432
  interfaces := #[]
  cf := some (fileOf pool6 1 #[] #[{ accessFlags := 0, nameIndex := 112, descriptorIndex := 113, attributes := #[] }] 16432 47 #[] #[{ accessFlags := 16409, nameIndex := 5, descriptorIndex := 6, attributes := #[] }, { accessFlags := 16409, nameIndex := 9, descriptorIndex := 6, attributes := #[] }, { accessFlags := 16409, nameIndex := 12, descriptorIndex := 6, attributes := #[] }, { accessFlags := 16409, nameIndex := 15, descriptorIndex := 6, attributes := #[] }, { accessFlags := 16409, nameIndex := 18, descriptorIndex := 6, attributes := #[] }, { accessFlags := 16409, nameIndex := 21, descriptorIndex := 6, attributes := #[] }, { accessFlags := 16409, nameIndex := 24, descriptorIndex := 6, attributes := #[] }, { accessFlags := 16409, nameIndex := 27, descriptorIndex := 6, attributes := #[] }, { accessFlags := 16409, nameIndex := 30, descriptorIndex := 6, attributes := #[] }, { accessFlags := 16409, nameIndex := 33, descriptorIndex := 6, attributes := #[] }, { accessFlags := 16409, nameIndex := 36, descriptorIndex := 6, attributes := #[] }, { accessFlags := 18, nameIndex := 58, descriptorIndex := 59, attributes := #[] }, { accessFlags := 4122, nameIndex := 39, descriptorIndex := 40, attributes := #[] }])
  fields := #[{ name := "INTERNALS", type := (.object "com/example/measured_flow/measuredflow/CodeRule"), accessFlags := 16409, slot := 0, constantValue := 0 }, { name := "NATIVE_CODE", type := (.object "com/example/measured_flow/measuredflow/CodeRule"), accessFlags := 16409, slot := 1, constantValue := 0 }, { name := "CLASS_LOADER", type := (.object "com/example/measured_flow/measuredflow/CodeRule"), accessFlags := 16409, slot := 2, constantValue := 0 }, { name := "REFLECTION", type := (.object "com/example/measured_flow/measuredflow/CodeRule"), accessFlags := 16409, slot := 3, constantValue := 0 }, { name := "THREADS", type := (.object "com/example/measured_flow/measuredflow/CodeRule"), accessFlags := 16409, slot := 4, constantValue := 0 }, { name := "PROCESS", type := (.object "com/example/measured_flow/measuredflow/CodeRule"), accessFlags := 16409, slot := 5, constantValue := 0 }, { name := "NETWORK_IO", type := (.object "com/example/measured_flow/measuredflow/CodeRule"), accessFlags := 16409, slot := 6, constantValue := 0 }, { name := "FILE_IO", type := (.object "com/example/measured_flow/measuredflow/CodeRule"), accessFlags := 16409, slot := 7, constantValue := 0 }, { name := "JVM_STATE", type := (.object "com/example/measured_flow/measuredflow/CodeRule"), accessFlags := 16409, slot := 8, constantValue := 0 }, { name := "STATIC_STATE", type := (.object "com/example/measured_flow/measuredflow/CodeRule"), accessFlags := 16409, slot := 9, constantValue := 0 }, { name := "CLOSURE_STATE", type := (.object "com/example/measured_flow/measuredflow/CodeRule"), accessFlags := 16409, slot := 10, constantValue := 0 }, { name := "word", type := (.object "java/lang/String"), accessFlags := 18, slot := 3, constantValue := 0 }, { name := "$VALUES", type := (.array (.object "com/example/measured_flow/measuredflow/CodeRule")), accessFlags := 4122, slot := 11, constantValue := 0 }]
  methods := #[k6m0]
  instanceTypes := #[(.object "java/lang/String"), .int, .int, (.object "java/lang/String")]
  staticTypes := #[(.object "com/example/measured_flow/measuredflow/CodeRule"), (.object "com/example/measured_flow/measuredflow/CodeRule"), (.object "com/example/measured_flow/measuredflow/CodeRule"), (.object "com/example/measured_flow/measuredflow/CodeRule"), (.object "com/example/measured_flow/measuredflow/CodeRule"), (.object "com/example/measured_flow/measuredflow/CodeRule"), (.object "com/example/measured_flow/measuredflow/CodeRule"), (.object "com/example/measured_flow/measuredflow/CodeRule"), (.object "com/example/measured_flow/measuredflow/CodeRule"), (.object "com/example/measured_flow/measuredflow/CodeRule"), (.object "com/example/measured_flow/measuredflow/CodeRule"), (.array (.object "com/example/measured_flow/measuredflow/CodeRule"))]
  resolved := Array.replicate 120 none
  statics := some 0 }

def pool7 : Array CpInfo := pool [(1, .class_ 2), (0, u "java/lang/Math"), (1, .class_ 6), (1, u "java/lang/Object"), (0, u "<init>"), (0, u "()V"), (89, .class_ 100), (1, u "java/lang/Math$RandomNumberGeneratorHolder"), (71, u "negativeZeroFloatBits"), (0, u "J"), (2, u "negativeZeroDoubleBits"), (24, u "min"), (43, u "$assertionsDisabled"), (0, u "Z"), (88, u "(II)I"), (2, u "twoToTheDoubleScaleDown"), (0, u "D"), (4, u "twoToTheDoubleScaleUp"), (9, u "E"), (3, u "PI"), (2, u "TAU"), (2, u "DEGREES_TO_RADIANS"), (0, u "RADIANS_TO_DEGREES")] 94

def k7m0 : Method := { name := "<init>", desc := "()V", sig := { parameters := [], returnType := none }, accessFlags := 2, code := none }
def k7c1 : Code := { maxStack := 2, maxLocals := 2, code := jdk_29_method_69_code, exceptionTable := #[], attributes := #[] }
def k7m1 : Method := { name := "min", desc := "(II)I", sig := { parameters := [.int, .int], returnType := some .int }, accessFlags := 9, code := some k7c1 }
/-- java/lang/Math -/
def k7 : Class := { plain "java/lang/Math" (some 0) with
  accessFlags := 49
  interfaces := #[]
  cf := some (fileOf pool7 1 #[.nestMembers #[98]] #[{ accessFlags := 2, nameIndex := 7, descriptorIndex := 8, attributes := #[] }, { accessFlags := 9, nameIndex := 201, descriptorIndex := 335, attributes := #[] }] 49 4 #[] #[{ accessFlags := 25, nameIndex := 354, descriptorIndex := 339, attributes := #[] }, { accessFlags := 25, nameIndex := 358, descriptorIndex := 339, attributes := #[] }, { accessFlags := 25, nameIndex := 361, descriptorIndex := 339, attributes := #[] }, { accessFlags := 26, nameIndex := 364, descriptorIndex := 339, attributes := #[] }, { accessFlags := 26, nameIndex := 365, descriptorIndex := 339, attributes := #[] }, { accessFlags := 26, nameIndex := 172, descriptorIndex := 173, attributes := #[] }, { accessFlags := 26, nameIndex := 176, descriptorIndex := 173, attributes := #[] }, { accessFlags := 8, nameIndex := 344, descriptorIndex := 339, attributes := #[] }, { accessFlags := 8, nameIndex := 338, descriptorIndex := 339, attributes := #[] }, { accessFlags := 4120, nameIndex := 245, descriptorIndex := 246, attributes := #[] }])
  fields := #[{ name := "E", type := .double, accessFlags := 25, slot := 0, constantValue := 0 }, { name := "PI", type := .double, accessFlags := 25, slot := 1, constantValue := 0 }, { name := "TAU", type := .double, accessFlags := 25, slot := 2, constantValue := 0 }, { name := "DEGREES_TO_RADIANS", type := .double, accessFlags := 26, slot := 3, constantValue := 0 }, { name := "RADIANS_TO_DEGREES", type := .double, accessFlags := 26, slot := 4, constantValue := 0 }, { name := "negativeZeroFloatBits", type := .long, accessFlags := 26, slot := 5, constantValue := 0 }, { name := "negativeZeroDoubleBits", type := .long, accessFlags := 26, slot := 6, constantValue := 0 }, { name := "twoToTheDoubleScaleUp", type := .double, accessFlags := 8, slot := 7, constantValue := 0 }, { name := "twoToTheDoubleScaleDown", type := .double, accessFlags := 8, slot := 8, constantValue := 0 }, { name := "$assertionsDisabled", type := .boolean, accessFlags := 4120, slot := 9, constantValue := 0 }]
  methods := #[k7m0, k7m1]
  instanceTypes := #[]
  staticTypes := #[.double, .double, .double, .double, .double, .long, .long, .double, .double, .boolean]
  resolved := Array.replicate 460 none
  statics := none }

def pool8 : Array CpInfo := pool [(1, u "java/lang/Cloneable"), (0, .class_ 1), (0, u "java/lang/Object"), (0, .class_ 3)] 3

/-- java/lang/Cloneable -/
def k8 : Class := { plain "java/lang/Cloneable" (some 0) with
  accessFlags := 1537
  interfaces := #[]
  cf := some (fileOf pool8 2 #[] #[] 1537 4 #[] #[])
  fields := #[]
  methods := #[]
  instanceTypes := #[]
  staticTypes := #[]
  resolved := Array.replicate 8 none
  statics := none }

/-- the primitive byte -/
def k9 : Class := { plain "byte" none with kind := .primitive 'B', accessFlags := 0x411 }
/-- [B -/
def k10 : Class := { plain "[B" (some 0) with kind := .array 9 .byte, interfaces := #[8, 4], accessFlags := 1041 }

/-- the primitive int -/
def k11 : Class := { plain "int" none with kind := .primitive 'I', accessFlags := 0x411 }
/-- [I -/
def k12 : Class := { plain "[I" (some 0) with kind := .array 11 .int, interfaces := #[8, 4], accessFlags := 1041 }

def heap : Heap := #[{ cls := 6, slots := #[.ref 1, .ref 2, .ref 3, .ref 4, .ref 5, .ref 6, .ref 7, .ref 8, .ref 9, .ref 10, .ref 11, .null], vm := .statics 6 },
  { cls := 6, slots := #[.null, .int 0, .int 0, .null], vm := .none },
  { cls := 6, slots := #[.null, .int 1, .int 0, .null], vm := .none },
  { cls := 6, slots := #[.null, .int 2, .int 0, .null], vm := .none },
  { cls := 6, slots := #[.null, .int 3, .int 0, .null], vm := .none },
  { cls := 6, slots := #[.null, .int 4, .int 0, .null], vm := .none },
  { cls := 6, slots := #[.null, .int 5, .int 0, .null], vm := .none },
  { cls := 6, slots := #[.null, .int 6, .int 0, .null], vm := .none },
  { cls := 6, slots := #[.null, .int 7, .int 0, .null], vm := .none },
  { cls := 6, slots := #[.null, .int 8, .int 0, .null], vm := .none },
  { cls := 6, slots := #[.null, .int 9, .int 0, .null], vm := .none },
  { cls := 6, slots := #[.null, .int 10, .int 0, .null], vm := .none }]
def classes : Array Class := #[k0, k1, k2, k3, k4, k5, k6, k7, k8, k9, k10, k11, k12]
def interned : List (Array UInt16 × Addr) := []
def slotsUsed : Nat := 56
def theMethod : MethodId := ⟨1, 2⟩
def args0 : Array Value := #[.int 5, .int 6, .int 7]
def aboutOver (below : List Frame) : State where
  vm := { classes := classes, interned := interned.toArray }
  heap := heap
  slotsUsed := slotsUsed
  threads := #[{ frames := .invoking theMethod args0 :: below }]
def below0 : List Frame := [.native { method := ⟨0, 0⟩, args := #[] }]
def about1 : State := aboutOver below0
def p0 : Program := .bare "" "" ""
def e0 : Env := launch0.env 0 0 0
theorem w_frames : about1.frames = Frame.invoking theMethod args0 :: below0 := rfl
set_option maxRecDepth 65536 in
theorem w_args : argsFit about1.vm theMethod args0 = true := by decide +kernel
set_option maxRecDepth 65536 in
theorem w_heap : heapFits about1 = true := by decide +kernel
set_option maxRecDepth 65536 in
theorem w_runnable : about1.curStatus? = some .runnable := by decide +kernel
set_option maxRecDepth 65536 in
theorem w_alone : about1.alone = true := by decide +kernel
set_option maxRecDepth 65536 in
theorem w_named : about1.methodNamed? x = some theMethod := by decide +kernel
set_option maxRecDepth 65536 in
theorem w_hears : about1.hears theMethod below0 = true := by decide +kernel
set_option maxRecDepth 65536 in
theorem w_ripe : about1.ripe theMethod args0 below0 = true := by decide +kernel
theorem w_running : about1.status = .running := rfl
set_option maxRecDepth 65536 in
theorem w_room : about1.hasRoom e0.platform room_1 = true :=
  launch0.hasRoom_least _ room_1 (by decide +kernel) (by decide +kernel) (by decide +kernel) (by decide +kernel) (by decide +kernel) (by decide +kernel)
theorem allAtoms_all (ts : List Jvm.Cond) (a : Array Jvm.Value) (st : Jvm.State) : (allAtoms ts).before a st = ts.all (fun c => c.before a st) := by
  induction ts with
  | nil => rfl
  | cons c t ih =>
    show (Jvm.Cond.and c (allAtoms t)).before a st = _
    rw [Jvm.Cond.before_and, ih, List.all_cons]
def words1 : List Jvm.Cond := Jvm.Cond.code x code maxLocals ret :: tables_1
/-- a 'code' word, met by the world's own term for the bytes: nothing is compared byte by byte -/
theorem code_word {y : MethodName} {bytes : ByteArray} {mx : Nat} {rt : Option FieldType} {a : Array Value} {s : State} {m : MethodId} {meth : Method} {c : Code} (h1 : s.methodNamed? y = some m) (h2 : s.vm.method? m = some meth) (h3 : meth.code = some c) (h4 : c.code = bytes)
    (h5 : (c.maxLocals == mx && c.exceptionTable.isEmpty && decide (c.maxStack ≤ mostOperands) && decide (meth.sig.returnType = rt) && !meth.locks && decide (parseMethodDescriptor y.desc = some meth.sig)) = true) : (Jvm.Cond.code y bytes mx rt).before a s = true := by
  simp only [Bool.and_eq_true, beq_iff_eq, Bool.not_eq_true', decide_eq_true_eq] at h5
  obtain ⟨⟨⟨⟨⟨g1, g2⟩, g3⟩, g4⟩, g5⟩, g6⟩ := h5
  simp [Cond.before, Cond.holds, Cond.value, h1, h2, h3, h4, g1, g2, g3, g4, g5, g6]
def isCode : Jvm.Cond → Bool
  | .code _ _ _ _ => true
  | _ => false
theorem all_split {L : List Jvm.Cond} {P : Jvm.Cond → Bool} (h1 : L.all (fun c => isCode c || P c) = true) (h2 : ∀ c ∈ L.filter isCode, P c = true) : L.all P = true := by
  refine List.all_eq_true.mpr fun c hc => ?_
  have h := List.all_eq_true.mp h1 c hc
  rcases Bool.eq_false_or_eq_true (isCode c) with hi | hi
  · exact h2 c (List.mem_filter.mpr ⟨hc, hi⟩)
  · simpa [hi] using h
set_option maxRecDepth 65536 in
theorem w_c0 : (Jvm.Cond.code x code maxLocals ret).before args0 about1 = true := code_word (m := ⟨1, 2⟩) (meth := k1m2) (c := k1c2) (by decide +kernel) rfl rfl rfl (by decide +kernel)
set_option maxRecDepth 65536 in
theorem w_c1 : (Jvm.Cond.code ({ cls := "com/example/measured_flow/measuredflow/CodeRuleFirstPinLaw", name := "pick", desc := "(I)Lcom/example/measured_flow/measuredflow/CodeRule;" } : Jvm.MethodName) method_2_code (1 : Nat) (Option.some (Jvm.ClassFile.FieldType.object "com/example/measured_flow/measuredflow/CodeRule"))).before args0 about1 = true := code_word (m := ⟨1, 1⟩) (meth := k1m1) (c := k1c1) (by decide +kernel) rfl rfl rfl (by decide +kernel)
set_option maxRecDepth 65536 in
theorem w_c2 : (Jvm.Cond.code ({ cls := "java/lang/Math", name := "min", desc := "(II)I" } : Jvm.MethodName) jdk_29_method_69_code (2 : Nat) (Option.some Jvm.ClassFile.FieldType.int)).before args0 about1 = true := code_word (m := ⟨7, 1⟩) (meth := k7m1) (c := k7c1) (by decide +kernel) rfl rfl rfl (by decide +kernel)
set_option maxRecDepth 65536 in
theorem w_c3 : (Jvm.Cond.code ({ cls := "com/example/measured_flow/measuredflow/CodeRule", name := "first", desc := "(Lcom/example/measured_flow/measuredflow/CodeRule;)Lcom/example/measured_flow/measuredflow/CodeRule;" } : Jvm.MethodName) prog_4_method_5_code (3 : Nat) (Option.some (Jvm.ClassFile.FieldType.object "com/example/measured_flow/measuredflow/CodeRule"))).before args0 about1 = true := code_word (m := ⟨6, 0⟩) (meth := k6m0) (c := k6c0) (by decide +kernel) rfl rfl rfl (by decide +kernel)
set_option maxRecDepth 65536 in
theorem w_c4 : (Jvm.Cond.code ({ cls := "java/lang/Enum", name := "ordinal", desc := "()I" } : Jvm.MethodName) jdk_37_method_2_code (1 : Nat) (Option.some Jvm.ClassFile.FieldType.int)).before args0 about1 = true := code_word (m := ⟨5, 0⟩) (meth := k5m0) (c := k5c0) (by decide +kernel) rfl rfl rfl (by decide +kernel)
def codes1 : List Jvm.Cond := [Jvm.Cond.code x code maxLocals ret, Jvm.Cond.code ({ cls := "com/example/measured_flow/measuredflow/CodeRuleFirstPinLaw", name := "pick", desc := "(I)Lcom/example/measured_flow/measuredflow/CodeRule;" } : Jvm.MethodName) method_2_code (1 : Nat) (Option.some (Jvm.ClassFile.FieldType.object "com/example/measured_flow/measuredflow/CodeRule")), Jvm.Cond.code ({ cls := "java/lang/Math", name := "min", desc := "(II)I" } : Jvm.MethodName) jdk_29_method_69_code (2 : Nat) (Option.some Jvm.ClassFile.FieldType.int), Jvm.Cond.code ({ cls := "com/example/measured_flow/measuredflow/CodeRule", name := "first", desc := "(Lcom/example/measured_flow/measuredflow/CodeRule;)Lcom/example/measured_flow/measuredflow/CodeRule;" } : Jvm.MethodName) prog_4_method_5_code (3 : Nat) (Option.some (Jvm.ClassFile.FieldType.object "com/example/measured_flow/measuredflow/CodeRule")), Jvm.Cond.code ({ cls := "java/lang/Enum", name := "ordinal", desc := "()I" } : Jvm.MethodName) jdk_37_method_2_code (1 : Nat) (Option.some Jvm.ClassFile.FieldType.int)]
set_option maxRecDepth 65536 in
theorem codes_eq : words1.filter isCode = codes1 := rfl
theorem w_codes : ∀ c ∈ words1.filter isCode, c.before args0 about1 = true := by
  rw [codes_eq]
  intro c hc
  simp only [codes1, List.mem_cons, List.not_mem_nil, or_false] at hc
  rcases hc with rfl | rfl | rfl | rfl | rfl
  · exact w_c0
  · exact w_c1
  · exact w_c2
  · exact w_c3
  · exact w_c4
set_option maxRecDepth 65536 in
theorem w_t1 : (words1.take 24).all (fun c => isCode c || c.before args0 about1) = true := by decide +kernel
set_option maxRecDepth 65536 in
theorem w_t2 : (words1.drop 24).all (fun c => isCode c || c.before args0 about1) = true := by decide +kernel
theorem w_tables : (allAtoms (Jvm.Cond.code x code maxLocals ret :: tables_1)).before args0 about1 = true := by
  rw [allAtoms_all]
  show words1.all (fun c => c.before args0 about1) = true
  refine all_split ?_ w_codes
  rw [← List.take_append_drop 24 words1, List.all_append, w_t1, w_t2]
  rfl
set_option maxRecDepth 65536 in
theorem w_case : (Jvm.Cond.and given_1 narrow_1).before args0 about1 = true := by decide +kernel
theorem w_applies : (headSpec (Jvm.Cond.code x code maxLocals ret :: tables_1) room_1).applies x e0.platform about1 = true :=
  (Spec.applies_iff w_frames).mpr ⟨w_running, w_runnable, w_alone, w_named, w_hears, w_ripe, w_room, w_tables⟩
theorem atStart : AtStart classFile x code maxLocals ret World_1 tables_1 room_1 Calls_1 rest_1 Pre_1 launch0 p0 e0 about1 theMethod args0 below0 :=
  ⟨lists_1, trivial, launch0.admits_env _ _ _, launch0.least_env, fairChoices_fair.cas, fairChoices_fair.clock, w_frames, w_args, w_heap, w_applies, trivial, trivial, w_case⟩
end start1
theorem witness_1 : WitnessClaimed_1 := ⟨start1.p0, start1.e0, start1.about1, start1.theMethod, start1.args0, start1.below0, start1.atStart⟩
end Jvm.Pilot.@@N@@
