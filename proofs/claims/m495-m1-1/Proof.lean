import JvmDerived
import JvmDerived.Pilot.@@N@@Statement
import JvmDerived.Pilot.@@N@@Code
set_option linter.unusedVariables false
set_option linter.unusedSimpArgs false

namespace Jvm.Pilot.@@N@@
open Jvm Jvm.ClassFile Sem Op Lib Jvm.Free Jvm.Stand Jvm.LawKit Jvm.RoadKit Bundle Jvm.Pilot.@@N@@.Jvm.D

section OwnKit
variable {p : Program} {l : Launch} {e : Env} {R : Room} {s : State} {m : MethodId} {args : Array Value} {below : List Frame} {meth : Method} {c : Code} {T T' : State} {locs : List Loc} {cells slots : Nat} {Z : State} {a0 : Array Value} {h : Heap} {K N : Nat} {Q : Option Value → Heap → List Loc → Prop} {g g' : JFrame}
/-- from the frame g over T the body comes to its end, and there Q holds -/
def Go (p : Program) (e : Env) (s : State) (below : List Frame) (K N : Nat) (Q : Option Value → Heap → List Loc → Prop) (T : State) (g : JFrame) : Prop :=
  ∃ s₂ o, Steps p.tables e below (T.setTop g) s₂ ∧ s₂.status = .running ∧ Ended s₂ below o ∧ ∃ v L, o = .returned v ∧ Q v s₂.heap L ∧ FrameEnd s o s₂ L K N
theorem Go.of (st : ∀ t, Steps p.tables e below (T'.setTop g') t → Steps p.tables e below (T.setTop g) t) (q : Go p e s below K N Q T' g') : Go p e s below K N Q T g := by
  obtain ⟨s2, o, h1, r⟩ := q
  exact ⟨s2, o, st _ h1, r⟩
theorem own_retI (X : Stand p l e R s m args below meth c T locs cells slots) (hx : p.tables.exec = Jvm.exec) {pc : Nat} {Ls : Array Slot} {z : Int32} {rest : List Value} (hret : meth.sig.returnType = some .int) (hd : decode c.code pc = .ok (.ireturn, 1)) {fs : List Frame}
    (hl : ∀ (f : JFrame) (acts : List Action), f.method = m → f.locked = none → f.entered = [] → (doReturn e (T.setTop f) acts (some (.int z))).1 = T.setFrames fs) : Steps p.tables e below (T.setTop (mkF m pc Ls (.int z :: rest))) (T.setFrames fs) := by
  have hm' : T.vm.method? m = some meth := X.method'
  have hn : narrow .int (.int z) = .int z := rfl
  show Steps p.tables e below (T.setTop { method := m, pc := pc, locals := Ls, stack := _ :: rest, locked := none }) _
  jvm_step X.here [X.here.top, hx, hd, hm', hret, hn]
  first | (intro acts; rw [hl _ acts rfl rfl rfl]) | rw [hl _ _ rfl rfl rfl]
  exact Steps.refl _
theorem Go.retI (X : Stand p l e R s m args below meth c T locs cells slots) (hx : p.tables.exec = Jvm.exec) (hlk : meth.locks = false) {pc : Nat} {Ls : Array Slot} {z : Int32} {rest : List Value} (hret : meth.sig.returnType = some .int) (hd : decode c.code pc = .ok (.ireturn, 1)) (hK : cells ≤ K) (hN : slots ≤ N)
    (hQ : Q (some (.int z)) T.heap locs) : Go p e s below K N Q T (mkF m pc Ls (.int z :: rest)) := by
  obtain ⟨fs, hr, hrun, hended, hW, hsame⟩ := X.leave (v := some (.int z)) (fun q => by rw [hret] at q; cases q) hlk
  exact ⟨_, _, own_retI X hx hret hd hr, hrun, hended, _, _, rfl, hQ, ⟨_, rfl⟩, hW, hsame.mono hK hN⟩
theorem Go.retN (X : Stand p l e R s m args below meth c T locs cells slots) (hx : p.tables.exec = Jvm.exec) (hlk : meth.locks = false) {pc : Nat} {Ls : Array Slot} {z z' : Int32} {t : FieldType} {rest : List Value} (hret : meth.sig.returnType = some t) (ht : t = .boolean ∨ t = .byte ∨ t = .char ∨ t = .short) (hd : decode c.code pc = .ok (.ireturn, 1)) (hz : nar t z = z') (hK : cells ≤ K) (hN : slots ≤ N)
    (hQ : Q (some (.int z')) T.heap locs) : Go p e s below K N Q T (mkF m pc Ls (.int z :: rest)) := by
  subst hz
  obtain ⟨fs, hr, hrun, hended, hW, hsame⟩ := X.leave (v := some (.int (nar t z))) (fun q => by rw [hret] at q; cases q) hlk
  exact ⟨_, _, Jvm.RoadKit.retN X hx hret ht hd hr, hrun, hended, _, _, rfl, hQ, ⟨_, rfl⟩, hW, hsame.mono hK hN⟩
theorem Go.retA (X : Stand p l e R s m args below meth c T locs cells slots) (hx : p.tables.exec = Jvm.exec) (hlk : meth.locks = false) {pc : Nat} {Ls : Array Slot} {w : Value} {t : FieldType} {rest : List Value} (hret : meth.sig.returnType = some t) (ht : t.isReference = true) (hw : w.isRef = true) (hd : decode c.code pc = .ok (.areturn, 1)) (hK : cells ≤ K) (hN : slots ≤ N)
    (hQ : Q (some w) T.heap locs) : Go p e s below K N Q T (mkF m pc Ls (w :: rest)) := by
  obtain ⟨fs, hr, hrun, hended, hW, hsame⟩ := X.leave (v := some w) (fun q => by rw [hret] at q; cases q) hlk
  have hn : narrow t w = w := by
    cases t <;> first | (cases ht; done) | (cases w <;> first | rfl | (cases hw; done))
  exact ⟨_, _, retOut X hx hret hn (Or.inr (Or.inr (Or.inr (Or.inr ⟨rfl, ht, hw⟩)))) hd hr, hrun, hended, _, _, rfl, hQ, ⟨_, rfl⟩, hW, hsame.mono hK hN⟩
theorem Go.retV (X : Stand p l e R s m args below meth c T locs cells slots) (hx : p.tables.exec = Jvm.exec) (hlk : meth.locks = false) {pc : Nat} {Ls : Array Slot} (hret : meth.sig.returnType = none) (hd : decode c.code pc = .ok (.return_, 1)) (hK : cells ≤ K) (hN : slots ≤ N)
    (hQ : Q none T.heap locs) : Go p e s below K N Q T (mkF m pc Ls []) := by
  obtain ⟨fs, hr, hrun, hended, hW, hsame⟩ := X.leave (v := none) (fun _ => rfl) hlk
  exact ⟨_, _, X.returnOut hx hret hd hr, hrun, hended, _, _, rfl, hQ, ⟨_, rfl⟩, hW, hsame.mono hK hN⟩
/-- a body's contract in this family -/
def Con (l : Launch) (Z : State) (y : MethodName) (bytes : ByteArray) (maxL : Nat) (ret : Option FieldType) (ws : List Jvm.Cond) (rm : Room) (as' : Array Value) (h : Heap) (Q : Option Value → Heap → List Loc → Prop) : Prop :=
  MetFree l y (head1 (Jvm.Cond.code y bytes maxL ret :: ws) rm) (fun a U => a = as' ∧ Z.Warmed39 U.vm ∧ U.heap = h) (fun _ _ _ _ _ => True) (fun _ U o U' => ∃ v L, o = .returned v ∧ Q v U'.heap L ∧ FrameEnd U o U' L rm.cells rm.slots)
/-- what a walk knows of the body that it walks -/
def Cx (Z : State) (p : Program) (s : State) (m : MethodId) (meth : Method) (c : Code) (own : String) (bytes : ByteArray) (ml : Nat) (nm : String) (rt : Option FieldType) : Prop :=
  p.tables.exec = Jvm.exec ∧ Z.Warmed39 s.vm ∧ s.vm.findClass own = some m.cls ∧ c.code = bytes ∧ c.maxLocals = ml ∧ meth.name = nm ∧ meth.sig.returnType = rt ∧ meth.locks = false
theorem Con.mk {y : MethodName} {bytes : ByteArray} {maxL : Nat} {ret : Option FieldType} {ws : List Jvm.Cond} {rm : Room} {as' : Array Value} (hp : plainFor y = true)
    (body : ∀ p e s m below meth c s₁, Cx Z p s m meth c y.cls bytes maxL y.name ret → Stand p l e rm s m as' below meth c s₁ [] 0 0 → s₁.heap = h → Go p e s below rm.cells rm.slots Q s₁ (entryFrame m as' maxL)) : Con l Z y bytes maxL ret ws rm as' h Q := by
  refine MetFree.of_bodySF hp hisR ?_
  intro p e s m args below meth c s₁ Bd hml0 hP hK
  obtain ⟨rfl, hZ, hh⟩ := hP
  exact body p e s m below meth c s₁ ⟨Bd.exec, hZ, findClass_of_methodNamed Bd.named, Bd.bytes, hml0, (name_of_methodNamed Bd.named Bd.method).1, Bd.returns, Bd.notSynchronized⟩ (Stand.of_body Bd) (by rw [← hh, Bd.state]; rfl)
section Calls
variable {y : MethodName} {bytes : ByteArray} {maxL : Nat} {ret : Option FieldType} {rm : Room} {own : String} {index W : Nat} {argsL rest : List Value} {Q' : Option Value → Heap → List Loc → Prop}
/-- what a call leaves -/
def Called (p : Program) (l : Launch) (e : Env) (R : Room) (s : State) (m : MethodId) (args : Array Value) (below : List Frame) (meth : Method) (c : Code) (locs : List Loc) (cells slots : Nat) (Q' : Option Value → Heap → List Loc → Prop) (T : State) (g : JFrame) (len : Nat) (rest : List Value) : Prop :=
  ∃ v T' L, Stand p l e R s m args below meth c T' (locs ++ L) cells slots ∧ Q' v T'.heap L ∧ ∀ t, Steps p.tables e below (T'.setTop { g with pc := g.pc + len, stack := v.toList ++ rest }) t → Steps p.tables e below (T.setTop g) t
theorem own_callS (X : Stand p l e R s m args below meth c T locs cells slots) (hx : p.tables.exec = Jvm.exec) (hZ : Z.Warmed39 s.vm) (hown : s.vm.findClass own = some m.cls)
    (wl : (Jvm.Cond.methodLink own index y).before a0 Z = true) (wst : (Jvm.Cond.static y).before a0 Z = true) (wi : (Jvm.Cond.initialized y.cls).before a0 Z = true) (wc : (Jvm.Cond.code y bytes maxL ret).before a0 Z = true) (hy : y.cls ≠ "java/lang/invoke/MethodHandle" ∧ y.cls ≠ "java/lang/invoke/VarHandle")
    (hM : Con l Z y bytes maxL ret [] rm argsL.toArray h Q') (eT : T.heap = h) (hg : g.method = m) (hsize : g.locals.size = c.maxLocals) (hlen : ∀ sig, parseMethodDescriptor y.desc = some sig → argsL.length = sig.parameters.length) (hstack : g.stack = argsL.reverse ++ rest)
    (hW : 2 * g.monitorRoom + (rest.map fun v => v.category).sum ≤ W) (hdg : decode c.code g.pc = .ok (.invokestatic index, 3)) (hf : rm.frames + 1 ≤ R.frames) (hl : W + (maxL + 11) + rm.locals ≤ R.locals) (hc : cells + rm.cells ≤ R.cells) (hs : slots + rm.slots ≤ R.slots) :
    Called p l e R s m args below meth c locs (cells + rm.cells) (slots + rm.slots) Q' T g 3 rest := by
  obtain ⟨v, _, ⟨T1, L1, k1, n1⟩, -, X1, ⟨Lc, hQ, l1, y1, z1⟩, st⟩ := Jvm.LawKit.callS X hx (y := y) hown (mvT hZ wl) (mvT hZ wst) (mvT hZ wi) (mvT hZ wc) hy (backOf (W := W) hM hZ wc wi hf hl) hg hsize (argsL := argsL) (rest := rest) hlen hstack hW hdg (fun _ _ => ⟨rfl, eT, hc, hs⟩)
  dsimp only [Pt.U, Pt.locs, Pt.cells, Pt.slots] at X1 l1 y1 z1 st hQ
  subst l1 y1 z1
  exact ⟨v, T1, Lc, X1, hQ, st⟩
theorem own_callI (X : Stand p l e R s m args below meth c T locs cells slots) (hx : p.tables.exec = Jvm.exec) (hZ : Z.Warmed39 s.vm) (hown : s.vm.findClass own = some m.cls) (hin : y.name = "<init>")
    (wl : (Jvm.Cond.methodLink own index y).before a0 Z = true) (wim : (Jvm.Cond.instanceMethod y).before a0 Z = true) (wi : (Jvm.Cond.initialized y.cls).before a0 Z = true) (wc : (Jvm.Cond.code y bytes maxL none).before a0 Z = true) (hy : y.cls ≠ "java/lang/invoke/MethodHandle" ∧ y.cls ≠ "java/lang/invoke/VarHandle")
    {a : Addr} (hM : Con l Z y bytes maxL none [] rm (Value.ref a :: argsL).toArray h Q') (eT : T.heap = h) (hg : g.method = m) (hsize : g.locals.size = c.maxLocals) (hlen : ∀ sig, parseMethodDescriptor y.desc = some sig → argsL.length = sig.parameters.length) (hstack : g.stack = argsL.reverse ++ .ref a :: rest)
    (hW : 2 * g.monitorRoom + (rest.map fun v => v.category).sum ≤ W) (hdg : decode c.code g.pc = .ok (.invokespecial index, 3)) (hf : rm.frames + 1 ≤ R.frames) (hl : W + (maxL + 11) + rm.locals ≤ R.locals) (hc : cells + rm.cells ≤ R.cells) (hs : slots + rm.slots ≤ R.slots) :
    Called p l e R s m args below meth c locs (cells + rm.cells) (slots + rm.slots) Q' T g 3 rest := by
  obtain ⟨v, _, ⟨T1, L1, k1, n1⟩, -, X1, ⟨Lc, hQ, l1, y1, z1⟩, st⟩ := X.specialBack hx (y := y) hin hown (mvT hZ wl) (mvT hZ wim) (mvT hZ wc) hy (backOf (W := W) hM hZ wc wi hf hl) hg hsize (Steps.refl _) (a := a) (argsL := argsL) (rest := rest) hlen hstack hW hdg (fun _ _ => ⟨rfl, eT, hc, hs⟩)
  dsimp only [Pt.U, Pt.locs, Pt.cells, Pt.slots] at X1 l1 y1 z1 st hQ
  subst l1 y1 z1
  exact ⟨v, T1, Lc, X1, hQ, fun _ hr => st.trans hr⟩
theorem own_callV (X : Stand p l e R s m args below meth c T locs cells slots) (hx : p.tables.exec = Jvm.exec) (hZ : Z.Warmed39 s.vm) (hown : s.vm.findClass own = some m.cls) {z : MethodName} {C : String}
    (wl : (Jvm.Cond.methodLink own index y).before a0 Z = true) (wd : (Jvm.Cond.declares y).before a0 Z = true) (nf : NotFace s y) (wsel : (Jvm.Cond.selects C y z).before a0 Z = true) (wim : (Jvm.Cond.instanceMethod z).before a0 Z = true) (wi : (Jvm.Cond.initialized z.cls).before a0 Z = true) (wc : (Jvm.Cond.code z bytes maxL ret).before a0 Z = true) (hy : y.cls ≠ "java/lang/invoke/MethodHandle" ∧ y.cls ≠ "java/lang/invoke/VarHandle")
    {a : Addr} (E : Exa Z h a C) (hM : Con l Z z bytes maxL ret [] rm (Value.ref a :: argsL).toArray h Q') (eT : T.heap = h) (hg : g.method = m) (hsize : g.locals.size = c.maxLocals) (hlen : ∀ sig, parseMethodDescriptor y.desc = some sig → argsL.length = sig.parameters.length) (hstack : g.stack = argsL.reverse ++ .ref a :: rest)
    (hW : 2 * g.monitorRoom + (rest.map fun v => v.category).sum ≤ W) (hdg : decode c.code g.pc = .ok (.invokevirtual index, 3)) (hf : rm.frames + 1 ≤ R.frames) (hl : W + (maxL + 11) + rm.locals ≤ R.locals) (hc : cells + rm.cells ≤ R.cells) (hs : slots + rm.slots ≤ R.slots) :
    Called p l e R s m args below meth c locs (cells + rm.cells) (slots + rm.slots) Q' T g 3 rest := by
  obtain ⟨cq, kq, qa, qb, qc⟩ := isOf hZ eT E
  obtain ⟨v, _, ⟨T1, L1, k1, n1⟩, -, X1, ⟨Lc, hQ, l1, y1, z1⟩, st⟩ := X.virtualBack hx (y := y) (z := z) hown (mvT hZ wl) (mvT hZ wd) nf (mvT hZ wsel) (mvT hZ wim) hy (backOf (W := W) hM hZ wc wi hf hl) qa qc hg hsize (Steps.refl _) (argsL := argsL) (rest := rest) hlen hstack hW hdg (fun _ _ => ⟨rfl, eT, hc, hs⟩)
  dsimp only [Pt.U, Pt.locs, Pt.cells, Pt.slots] at X1 l1 y1 z1 st hQ
  subst l1 y1 z1
  exact ⟨v, T1, Lc, X1, hQ, fun _ hr => st.trans hr⟩
/-- an inherited method, by the class that the entry names -/
theorem own_callU (X : Stand p l e R s m args below meth c T locs cells slots) (hx : p.tables.exec = Jvm.exec) (hZ : Z.Warmed39 s.vm) (hown : s.vm.findClass own = some m.cls) {z : MethodName} {C owner : String}
    (wl : (Jvm.Cond.methodLink own index y).before a0 Z = true) (wsm : (Jvm.Cond.sameMethod y.cls owner y.name y.desc).before a0 Z = true) (wd : (Jvm.Cond.declares ⟨owner, y.name, y.desc⟩).before a0 Z = true) (wsel : (Jvm.Cond.selects C y z).before a0 Z = true) (wim : (Jvm.Cond.instanceMethod z).before a0 Z = true) (wi : (Jvm.Cond.initialized z.cls).before a0 Z = true) (wc : (Jvm.Cond.code z bytes maxL ret).before a0 Z = true) (ho : owner ≠ "java/lang/invoke/MethodHandle" ∧ owner ≠ "java/lang/invoke/VarHandle")
    {a : Addr} (E : Exa Z h a C) (hM : Con l Z z bytes maxL ret [] rm (Value.ref a :: argsL).toArray h Q') (eT : T.heap = h) (hg : g.method = m) (hsize : g.locals.size = c.maxLocals) (hlen : ∀ sig, parseMethodDescriptor y.desc = some sig → argsL.length = sig.parameters.length) (hstack : g.stack = argsL.reverse ++ .ref a :: rest)
    (hW : 2 * g.monitorRoom + (rest.map fun v => v.category).sum ≤ W) (hdg : decode c.code g.pc = .ok (.invokevirtual index, 3)) (hf : rm.frames + 1 ≤ R.frames) (hl : W + (maxL + 11) + rm.locals ≤ R.locals) (hc : cells + rm.cells ≤ R.cells) (hs : slots + rm.slots ≤ R.slots) :
    Called p l e R s m args below meth c locs (cells + rm.cells) (slots + rm.slots) Q' T g 3 rest := by
  obtain ⟨cq, kq, qa, qb, cellB, hcellT, hclsB, hstatB⟩ := isOf hZ eT E
  obtain ⟨r0, r, hn, hrm, hstR, hsigR⟩ := Cond.declares_spec (mv (args := args) hZ wd)
  obtain ⟨mk, methM, hnamed, hmethM, -, habM⟩ := Cond.instanceMethod_spec (mv (args := args) hZ wim)
  obtain ⟨c2, r2, m2, q1, q2, q3, q4, kP, hkP, hkPi⟩ := Cond.selects_spec (mv (args := args) hZ wsel)
  obtain ⟨cn, ck, r1, hcn, hck, hni, hfd, hn1⟩ := Cond.sameMethod_found (mv (args := args) hZ wsm)
  cases qa.symm.trans q1
  cases hn.symm.trans hn1
  cases hfd.symm.trans q2
  cases hnamed.symm.trans q3
  have hselP : selectMethod e.platform s.vm cellB.cls r0 = .method mk := by rw [Launch.admits_selectMethod X.admits, hclsB]; exact q4
  obtain ⟨vm₁, X₁, hstep₁⟩ := X.invokevirtualUp hx hown (mv hZ wl) (mv hZ wsm) ho hn hrm hstR (a := a) (cell := cellB) hcellT
    (fun z h => by rw [h] at hstatB; cases hstatB) hselP hmethM habM hkP hkPi (g := g) hg (argsL := argsL) (rest := rest) (hlen _ hsigR) hstack hdg
  obtain ⟨v, ⟨T1, L1, k1, n1⟩, X1, ⟨Lc, hQ, l1, y1, z1⟩, st⟩ := (backOf (p := p) (e := e) (below := below) (s := s) (args := args) (len := 3) (W := W) hM hZ wc wi hf hl) m meth c ⟨T.setVm vm₁, locs, cells, slots⟩ { g with stack := rest } (.invokevirtual index) mk (.ref a :: argsL).toArray X₁ hg hsize hdg hW (X₁.named hnamed) ⟨rfl, eT, hc, hs⟩
  dsimp only [Pt.U, Pt.locs, Pt.cells, Pt.slots] at X1 l1 y1 z1 st hQ
  subst l1 y1 z1
  exact ⟨v, T1, Lc, X1, hQ, fun t hr => hstep₁ _ fun acts => by rw [doInvoke_state]; exact st.trans hr⟩
end Calls
/-- an equation of the case's words -/
theorem own_eqI {t : Term} {n : Int32} (q : (Jvm.Cond.eq t (.int n)).value args s none s [] = some true) : t.eval args s none [] s = some (.int n) := by
  cases ha : t.eval args s none [] s with
  | none => simp [Cond.value, ha] at q
  | some x => cases x <;> simp [Cond.value, Term.eval, ha] at q ⊢; exact q
end OwnKit

def selP (k : Int32) (w_NORMAL w_BLOCKED w_COMPLETE w_PAUSED w_ERROR : Addr) : Addr := if k = 0 then w_NORMAL else if k = 1 then w_BLOCKED else if k = 2 then w_COMPLETE else if k = 3 then w_PAUSED else w_ERROR
theorem selP_exa {Z : State} {h0 : Heap} {k : Int32} {w_NORMAL w_BLOCKED w_COMPLETE w_PAUSED w_ERROR : Addr} (E_NORMAL : Exa Z h0 w_NORMAL "com/example/grid_job_scheduler/gridjobscheduler/TriggerState") (E_BLOCKED : Exa Z h0 w_BLOCKED "com/example/grid_job_scheduler/gridjobscheduler/TriggerState") (E_COMPLETE : Exa Z h0 w_COMPLETE "com/example/grid_job_scheduler/gridjobscheduler/TriggerState") (E_PAUSED : Exa Z h0 w_PAUSED "com/example/grid_job_scheduler/gridjobscheduler/TriggerState") (E_ERROR : Exa Z h0 w_ERROR "com/example/grid_job_scheduler/gridjobscheduler/TriggerState") : Exa Z h0 (selP k w_NORMAL w_BLOCKED w_COMPLETE w_PAUSED w_ERROR) "com/example/grid_job_scheduler/gridjobscheduler/TriggerState" := by
  unfold selP
  by_cases h0 : k = 0
  · simp only [if_pos h0]; exact E_NORMAL
  simp only [if_neg h0]
  by_cases h1 : k = 1
  · simp only [if_pos h1]; exact E_BLOCKED
  simp only [if_neg h1]
  by_cases h2 : k = 2
  · simp only [if_pos h2]; exact E_COMPLETE
  simp only [if_neg h2]
  by_cases h3 : k = 3
  · simp only [if_pos h3]; exact E_PAUSED
  simp only [if_neg h3]
  exact E_ERROR

def lst (a : Addr) (z : Int32) (w_NORMAL w_BLOCKED : Addr) : Addr := if a = w_NORMAL then (if z = 0 then a else w_BLOCKED) else a
def expP (k z : Int32) (w_NORMAL w_BLOCKED w_COMPLETE w_PAUSED w_ERROR : Addr) : Addr := if k = 0 then (if z = 0 then w_NORMAL else w_BLOCKED) else selP k w_NORMAL w_BLOCKED w_COMPLETE w_PAUSED w_ERROR
theorem lst_sel {k z : Int32} {w_NORMAL w_BLOCKED w_COMPLETE w_PAUSED w_ERROR : Addr} (NE_BLOCKED : ¬ w_BLOCKED = w_NORMAL) (NE_COMPLETE : ¬ w_COMPLETE = w_NORMAL) (NE_PAUSED : ¬ w_PAUSED = w_NORMAL) (NE_ERROR : ¬ w_ERROR = w_NORMAL) : lst (selP k w_NORMAL w_BLOCKED w_COMPLETE w_PAUSED w_ERROR) z w_NORMAL w_BLOCKED = expP k z w_NORMAL w_BLOCKED w_COMPLETE w_PAUSED w_ERROR := by
  unfold lst expP selP
  by_cases hz : z = 0 <;> by_cases h0 : k = 0 <;> by_cases h1 : k = 1 <;> by_cases h2 : k = 2 <;> by_cases h3 : k = 3 <;> simp_all
theorem lst_exp {k z : Int32} {w_NORMAL w_BLOCKED w_COMPLETE w_PAUSED w_ERROR : Addr} (NE_BLOCKED : ¬ w_BLOCKED = w_NORMAL) (NE_COMPLETE : ¬ w_COMPLETE = w_NORMAL) (NE_PAUSED : ¬ w_PAUSED = w_NORMAL) (NE_ERROR : ¬ w_ERROR = w_NORMAL) : lst (expP k z w_NORMAL w_BLOCKED w_COMPLETE w_PAUSED w_ERROR) z w_NORMAL w_BLOCKED = expP k z w_NORMAL w_BLOCKED w_COMPLETE w_PAUSED w_ERROR := by
  unfold lst expP selP
  by_cases hz : z = 0 <;> by_cases h0 : k = 0 <;> by_cases h1 : k = 1 <;> by_cases h2 : k = 2 <;> by_cases h3 : k = 3 <;> simp_all

theorem pn0 : plainName "com/example/grid_job_scheduler/gridjobscheduler/TriggerStateListedPinLaw" = true := by first | (simp [plainName, overriddenIn]; done) | decide +kernel
theorem d1_0 : decode method_2_code 0 = .ok (.iload_n 0, 1) := by decide +kernel
theorem d1_1 : decode method_2_code 1 = .ok (.ifCond .ne 7, 3) := by decide +kernel
theorem d1_4 : decode method_2_code 4 = .ok (.getstatic 7, 3) := by decide +kernel
theorem d1_7 : decode method_2_code 7 = .ok (.areturn, 1) := by decide +kernel
theorem d1_8 : decode method_2_code 8 = .ok (.iload_n 0, 1) := by decide +kernel
theorem d1_9 : decode method_2_code 9 = .ok (.iconst 1, 1) := by decide +kernel
theorem d1_10 : decode method_2_code 10 = .ok (.if_icmp .ne 7, 3) := by decide +kernel
theorem d1_13 : decode method_2_code 13 = .ok (.getstatic 13, 3) := by decide +kernel
theorem d1_16 : decode method_2_code 16 = .ok (.areturn, 1) := by decide +kernel
theorem d1_17 : decode method_2_code 17 = .ok (.iload_n 0, 1) := by decide +kernel
theorem d1_18 : decode method_2_code 18 = .ok (.iconst 2, 1) := by decide +kernel
theorem d1_19 : decode method_2_code 19 = .ok (.if_icmp .ne 7, 3) := by decide +kernel
theorem d1_22 : decode method_2_code 22 = .ok (.getstatic 16, 3) := by decide +kernel
theorem d1_25 : decode method_2_code 25 = .ok (.areturn, 1) := by decide +kernel
theorem d1_26 : decode method_2_code 26 = .ok (.iload_n 0, 1) := by decide +kernel
theorem d1_27 : decode method_2_code 27 = .ok (.iconst 3, 1) := by decide +kernel
theorem d1_28 : decode method_2_code 28 = .ok (.if_icmp .ne 7, 3) := by decide +kernel
theorem d1_31 : decode method_2_code 31 = .ok (.getstatic 19, 3) := by decide +kernel
theorem d1_34 : decode method_2_code 34 = .ok (.areturn, 1) := by decide +kernel
theorem d1_35 : decode method_2_code 35 = .ok (.getstatic 22, 3) := by decide +kernel
theorem d1_38 : decode method_2_code 38 = .ok (.areturn, 1) := by decide +kernel
set_option maxRecDepth 65536 in
set_option maxHeartbeats 40000000 in
theorem rm1 (l : Launch) (Z : State) (a0 : Array Value) (hw : ∀ d ∈ tables_1, d.before a0 Z = true) (ws : List Jvm.Cond) (k : Int32) (w_NORMAL w_BLOCKED w_COMPLETE w_PAUSED w_ERROR : Addr) (h0 : Heap) (n0 : Nat) (Z0 : n0 ≤ h0.size) (S_NORMAL : Sta Z h0 "com/example/grid_job_scheduler/gridjobscheduler/TriggerState" "NORMAL" "Lcom/example/grid_job_scheduler/gridjobscheduler/TriggerState;" (.ref w_NORMAL)) (S_BLOCKED : Sta Z h0 "com/example/grid_job_scheduler/gridjobscheduler/TriggerState" "BLOCKED" "Lcom/example/grid_job_scheduler/gridjobscheduler/TriggerState;" (.ref w_BLOCKED)) (S_COMPLETE : Sta Z h0 "com/example/grid_job_scheduler/gridjobscheduler/TriggerState" "COMPLETE" "Lcom/example/grid_job_scheduler/gridjobscheduler/TriggerState;" (.ref w_COMPLETE)) (S_PAUSED : Sta Z h0 "com/example/grid_job_scheduler/gridjobscheduler/TriggerState" "PAUSED" "Lcom/example/grid_job_scheduler/gridjobscheduler/TriggerState;" (.ref w_PAUSED)) (S_ERROR : Sta Z h0 "com/example/grid_job_scheduler/gridjobscheduler/TriggerState" "ERROR" "Lcom/example/grid_job_scheduler/gridjobscheduler/TriggerState;" (.ref w_ERROR)) :
    Con l Z (⟨"com/example/grid_job_scheduler/gridjobscheduler/TriggerStateListedPinLaw", "pick", "(I)Lcom/example/grid_job_scheduler/gridjobscheduler/TriggerState;"⟩ : MethodName) method_2_code 1 (some (.object "com/example/grid_job_scheduler/gridjobscheduler/TriggerState")) ws ({ frames := 0, cells := 0, slots := 0, locals := 0 } : Room) #[(.int k)] h0 (fun v h L => v = some (.ref (selP k w_NORMAL w_BLOCKED w_COMPLETE w_PAUSED w_ERROR)) ∧ Fr n0 L ∧ h = h0) := by
  refine Con.mk (plainFor_of_name pn0) ?_
  intro p e s m below meth c s₁ Cc X0 e0
  obtain ⟨hx, hZ, hown, hby, hml, hnm, hret, hlk⟩ := Cc
  have N0 := Fr.nil n0
  show Go p e s below _ _ _ s₁ (mkF m 0 #[.val (.int k)] [])
  refine Go.of (fun _ hr => XS.iloadN X0.here hx rfl (hb hby d1_0) rfl  hr) ?_
  show Go p e s below _ _ _ s₁ (mkF m 1 #[.val (.int k)] [(.int k)])
  by_cases hb1_101 : k = (0 : Int32)
  · refine Go.of (fun _ hr => XS.ifNo X0.here hx rfl (hb hby d1_1) rfl ((if0 _ _).trans (teq hb1_101).2) hr) ?_
    show Go p e s below _ _ _ s₁ (mkF m 4 #[.val (.int k)] [])
    obtain ⟨T102, X102, e102, st102⟩ := getS2 X0 hx hZ hown (host := "") (Or.inl (hw _ (List.mem_of_getElem? (i := 5) rfl))) Via.refl e0 S_NORMAL (g := (mkF m 4 #[.val (.int k)] [])) rfl (hb hby d1_4)
    refine Go.of (fun _ hr => st102 _ hr) ?_
    show Go p e s below _ _ _ T102 (mkF m 7 #[.val (.int k)] [(.ref w_NORMAL)])
    exact Go.retA X102 hx hlk hret rfl rfl (hb hby d1_7) (by decide) (by decide) ⟨by simp [selP, hb1_101], N0, e102⟩
  · refine Go.of (fun _ hr => XS.ifYes X0.here hx rfl (pc0 := 1) (pc' := 8) rfl (hb hby d1_1) rfl ((if0 _ _).trans (feq hb1_101).2) (by decide) (by decide) hr) ?_
    show Go p e s below _ _ _ s₁ (mkF m 8 #[.val (.int k)] [])
    refine Go.of (fun _ hr => XS.iloadN X0.here hx rfl (hb hby d1_8) rfl  hr) ?_
    show Go p e s below _ _ _ s₁ (mkF m 9 #[.val (.int k)] [(.int k)])
    refine Go.of (fun _ hr => XS.iconst X0.here hx rfl (hb hby d1_9) hr) ?_
    show Go p e s below _ _ _ s₁ (mkF m 10 #[.val (.int k)] [(.int (1 : Int32)), (.int k)])
    by_cases hb10_103 : k = (1 : Int32)
    · refine Go.of (fun _ hr => XS.icmpNo X0.here hx rfl (hb hby d1_10) rfl (teq hb10_103).2 hr) ?_
      show Go p e s below _ _ _ s₁ (mkF m 13 #[.val (.int k)] [])
      obtain ⟨T104, X104, e104, st104⟩ := getS2 X0 hx hZ hown (host := "") (Or.inl (hw _ (List.mem_of_getElem? (i := 17) rfl))) Via.refl e0 S_BLOCKED (g := (mkF m 13 #[.val (.int k)] [])) rfl (hb hby d1_13)
      refine Go.of (fun _ hr => st104 _ hr) ?_
      show Go p e s below _ _ _ T104 (mkF m 16 #[.val (.int k)] [(.ref w_BLOCKED)])
      exact Go.retA X104 hx hlk hret rfl rfl (hb hby d1_16) (by decide) (by decide) ⟨by simp [selP, hb1_101, hb10_103], N0, e104⟩
    · refine Go.of (fun _ hr => XS.icmpYes X0.here hx rfl (pc0 := 10) (pc' := 17) rfl (hb hby d1_10) rfl (feq hb10_103).2 (by decide) (by decide) hr) ?_
      show Go p e s below _ _ _ s₁ (mkF m 17 #[.val (.int k)] [])
      refine Go.of (fun _ hr => XS.iloadN X0.here hx rfl (hb hby d1_17) rfl  hr) ?_
      show Go p e s below _ _ _ s₁ (mkF m 18 #[.val (.int k)] [(.int k)])
      refine Go.of (fun _ hr => XS.iconst X0.here hx rfl (hb hby d1_18) hr) ?_
      show Go p e s below _ _ _ s₁ (mkF m 19 #[.val (.int k)] [(.int (2 : Int32)), (.int k)])
      by_cases hb19_105 : k = (2 : Int32)
      · refine Go.of (fun _ hr => XS.icmpNo X0.here hx rfl (hb hby d1_19) rfl (teq hb19_105).2 hr) ?_
        show Go p e s below _ _ _ s₁ (mkF m 22 #[.val (.int k)] [])
        obtain ⟨T106, X106, e106, st106⟩ := getS2 X0 hx hZ hown (host := "") (Or.inl (hw _ (List.mem_of_getElem? (i := 22) rfl))) Via.refl e0 S_COMPLETE (g := (mkF m 22 #[.val (.int k)] [])) rfl (hb hby d1_22)
        refine Go.of (fun _ hr => st106 _ hr) ?_
        show Go p e s below _ _ _ T106 (mkF m 25 #[.val (.int k)] [(.ref w_COMPLETE)])
        exact Go.retA X106 hx hlk hret rfl rfl (hb hby d1_25) (by decide) (by decide) ⟨by simp [selP, hb1_101, hb10_103, hb19_105], N0, e106⟩
      · refine Go.of (fun _ hr => XS.icmpYes X0.here hx rfl (pc0 := 19) (pc' := 26) rfl (hb hby d1_19) rfl (feq hb19_105).2 (by decide) (by decide) hr) ?_
        show Go p e s below _ _ _ s₁ (mkF m 26 #[.val (.int k)] [])
        refine Go.of (fun _ hr => XS.iloadN X0.here hx rfl (hb hby d1_26) rfl  hr) ?_
        show Go p e s below _ _ _ s₁ (mkF m 27 #[.val (.int k)] [(.int k)])
        refine Go.of (fun _ hr => XS.iconst X0.here hx rfl (hb hby d1_27) hr) ?_
        show Go p e s below _ _ _ s₁ (mkF m 28 #[.val (.int k)] [(.int (3 : Int32)), (.int k)])
        by_cases hb28_107 : k = (3 : Int32)
        · refine Go.of (fun _ hr => XS.icmpNo X0.here hx rfl (hb hby d1_28) rfl (teq hb28_107).2 hr) ?_
          show Go p e s below _ _ _ s₁ (mkF m 31 #[.val (.int k)] [])
          obtain ⟨T108, X108, e108, st108⟩ := getS2 X0 hx hZ hown (host := "") (Or.inl (hw _ (List.mem_of_getElem? (i := 20) rfl))) Via.refl e0 S_PAUSED (g := (mkF m 31 #[.val (.int k)] [])) rfl (hb hby d1_31)
          refine Go.of (fun _ hr => st108 _ hr) ?_
          show Go p e s below _ _ _ T108 (mkF m 34 #[.val (.int k)] [(.ref w_PAUSED)])
          exact Go.retA X108 hx hlk hret rfl rfl (hb hby d1_34) (by decide) (by decide) ⟨by simp [selP, hb1_101, hb10_103, hb19_105, hb28_107], N0, e108⟩
        · refine Go.of (fun _ hr => XS.icmpYes X0.here hx rfl (pc0 := 28) (pc' := 35) rfl (hb hby d1_28) rfl (feq hb28_107).2 (by decide) (by decide) hr) ?_
          show Go p e s below _ _ _ s₁ (mkF m 35 #[.val (.int k)] [])
          obtain ⟨T109, X109, e109, st109⟩ := getS2 X0 hx hZ hown (host := "") (Or.inl (hw _ (List.mem_of_getElem? (i := 18) rfl))) Via.refl e0 S_ERROR (g := (mkF m 35 #[.val (.int k)] [])) rfl (hb hby d1_35)
          refine Go.of (fun _ hr => st109 _ hr) ?_
          show Go p e s below _ _ _ T109 (mkF m 38 #[.val (.int k)] [(.ref w_ERROR)])
          exact Go.retA X109 hx hlk hret rfl rfl (hb hby d1_38) (by decide) (by decide) ⟨by simp [selP, hb1_101, hb10_103, hb19_105, hb28_107], N0, e109⟩

theorem pn1 : plainName "com/example/grid_job_scheduler/gridjobscheduler/TriggerState" = true := by first | (simp [plainName, overriddenIn]; done) | decide +kernel
theorem d2_0 : decode prog_40_method_4_code 0 = .ok (.aload_n 0, 1) := by decide +kernel
theorem d2_1 : decode prog_40_method_4_code 1 = .ok (.getstatic 3, 3) := by decide +kernel
theorem d2_4 : decode prog_40_method_4_code 4 = .ok (.if_acmp .ne 13, 3) := by decide +kernel
theorem d2_7 : decode prog_40_method_4_code 7 = .ok (.iload_n 1, 1) := by decide +kernel
theorem d2_8 : decode prog_40_method_4_code 8 = .ok (.ifCond .eq 9, 3) := by decide +kernel
theorem d2_17 : decode prog_40_method_4_code 17 = .ok (.aload_n 0, 1) := by decide +kernel
theorem d2_18 : decode prog_40_method_4_code 18 = .ok (.areturn, 1) := by decide +kernel
theorem d2_11 : decode prog_40_method_4_code 11 = .ok (.getstatic 7, 3) := by decide +kernel
theorem d2_14 : decode prog_40_method_4_code 14 = .ok (.goto 4, 3) := by decide +kernel
set_option maxRecDepth 65536 in
set_option maxHeartbeats 40000000 in
theorem rm2 (l : Launch) (Z : State) (a0 : Array Value) (hw : ∀ d ∈ tables_1, d.before a0 Z = true) (ws : List Jvm.Cond) (a1 : Addr) (z : Int32) (w_NORMAL w_BLOCKED : Addr) (h0 : Heap) (n0 : Nat) (Z0 : n0 ≤ h0.size) (S_NORMAL : Sta Z h0 "com/example/grid_job_scheduler/gridjobscheduler/TriggerState" "NORMAL" "Lcom/example/grid_job_scheduler/gridjobscheduler/TriggerState;" (.ref w_NORMAL)) (S_BLOCKED : Sta Z h0 "com/example/grid_job_scheduler/gridjobscheduler/TriggerState" "BLOCKED" "Lcom/example/grid_job_scheduler/gridjobscheduler/TriggerState;" (.ref w_BLOCKED)) :
    Con l Z (⟨"com/example/grid_job_scheduler/gridjobscheduler/TriggerState", "listed", "(Lcom/example/grid_job_scheduler/gridjobscheduler/TriggerState;Z)Lcom/example/grid_job_scheduler/gridjobscheduler/TriggerState;"⟩ : MethodName) prog_40_method_4_code 2 (some (.object "com/example/grid_job_scheduler/gridjobscheduler/TriggerState")) ws ({ frames := 0, cells := 0, slots := 0, locals := 0 } : Room) #[(.ref a1), (.int z)] h0 (fun v h L => v = some (.ref (lst a1 z w_NORMAL w_BLOCKED)) ∧ Fr n0 L ∧ h = h0) := by
  refine Con.mk (plainFor_of_name pn1) ?_
  intro p e s m below meth c s₁ Cc X0 e0
  obtain ⟨hx, hZ, hown, hby, hml, hnm, hret, hlk⟩ := Cc
  have N0 := Fr.nil n0
  show Go p e s below _ _ _ s₁ (mkF m 0 #[.val (.ref a1), .val (.int z)] [])
  refine Go.of (fun _ hr => XS.aloadN X0.here hx rfl (hb hby d2_0) rfl rfl hr) ?_
  show Go p e s below _ _ _ s₁ (mkF m 1 #[.val (.ref a1), .val (.int z)] [(.ref a1)])
  obtain ⟨T101, X101, e101, st101⟩ := getS2 X0 hx hZ hown (host := "") (Or.inl (hw _ (List.mem_of_getElem? (i := 11) rfl))) Via.refl e0 S_NORMAL (g := (mkF m 1 #[.val (.ref a1), .val (.int z)] [(.ref a1)])) rfl (hb hby d2_1)
  refine Go.of (fun _ hr => st101 _ hr) ?_
  show Go p e s below _ _ _ T101 (mkF m 4 #[.val (.ref a1), .val (.int z)] [(.ref w_NORMAL), (.ref a1)])
  by_cases hb4_102 : a1 = w_NORMAL
  · refine Go.of (fun _ hr => Jvm.RoadKit.acmp (g := (mkF m 4 #[.val (.ref a1), .val (.int z)] [(.ref w_NORMAL), (.ref a1)])) X101 hx rfl rfl rfl (pc0 := 4) (pc' := 7) (same := true) rfl (hb hby d2_4) rfl (decide_eq_true (congrArg Value.ref hb4_102)) (by decide) (by decide) hr) ?_
    show Go p e s below _ _ _ T101 (mkF m 7 #[.val (.ref a1), .val (.int z)] [])
    refine Go.of (fun _ hr => XS.iloadN X101.here hx rfl (hb hby d2_7) rfl  hr) ?_
    show Go p e s below _ _ _ T101 (mkF m 8 #[.val (.ref a1), .val (.int z)] [(.int z)])
    by_cases hb8_103 : z = (0 : Int32)
    · refine Go.of (fun _ hr => XS.ifYes X101.here hx rfl (pc0 := 8) (pc' := 17) rfl (hb hby d2_8) rfl ((if0 _ _).trans (teq hb8_103).1) (by decide) (by decide) hr) ?_
      show Go p e s below _ _ _ T101 (mkF m 17 #[.val (.ref a1), .val (.int z)] [])
      refine Go.of (fun _ hr => XS.aloadN X101.here hx rfl (hb hby d2_17) rfl rfl hr) ?_
      show Go p e s below _ _ _ T101 (mkF m 18 #[.val (.ref a1), .val (.int z)] [(.ref a1)])
      exact Go.retA X101 hx hlk hret rfl rfl (hb hby d2_18) (by decide) (by decide) ⟨by simp [lst, hb4_102, hb8_103], N0, e101⟩
    · refine Go.of (fun _ hr => XS.ifNo X101.here hx rfl (hb hby d2_8) rfl ((if0 _ _).trans (feq hb8_103).1) hr) ?_
      show Go p e s below _ _ _ T101 (mkF m 11 #[.val (.ref a1), .val (.int z)] [])
      obtain ⟨T104, X104, e104, st104⟩ := getS2 X101 hx hZ hown (host := "") (Or.inl (hw _ (List.mem_of_getElem? (i := 12) rfl))) Via.refl e101 S_BLOCKED (g := (mkF m 11 #[.val (.ref a1), .val (.int z)] [])) rfl (hb hby d2_11)
      refine Go.of (fun _ hr => st104 _ hr) ?_
      show Go p e s below _ _ _ T104 (mkF m 14 #[.val (.ref a1), .val (.int z)] [(.ref w_BLOCKED)])
      refine Go.of (fun _ hr => XS.goto X104.here hx rfl (pc0 := 14) (pc' := 18) rfl (hb hby d2_14) (by decide) (by decide) hr) ?_
      show Go p e s below _ _ _ T104 (mkF m 18 #[.val (.ref a1), .val (.int z)] [(.ref w_BLOCKED)])
      exact Go.retA X104 hx hlk hret rfl rfl (hb hby d2_18) (by decide) (by decide) ⟨by simp [lst, hb4_102, hb8_103], N0, e104⟩
  · refine Go.of (fun _ hr => Jvm.RoadKit.acmp (g := (mkF m 4 #[.val (.ref a1), .val (.int z)] [(.ref w_NORMAL), (.ref a1)])) X101 hx rfl rfl rfl (pc0 := 4) (pc' := 17) (same := false) rfl (hb hby d2_4) rfl (decide_eq_false (fun q => hb4_102 (Value.ref.inj q))) (by decide) (by decide) hr) ?_
    show Go p e s below _ _ _ T101 (mkF m 17 #[.val (.ref a1), .val (.int z)] [])
    refine Go.of (fun _ hr => XS.aloadN X101.here hx rfl (hb hby d2_17) rfl rfl hr) ?_
    show Go p e s below _ _ _ T101 (mkF m 18 #[.val (.ref a1), .val (.int z)] [(.ref a1)])
    exact Go.retA X101 hx hlk hret rfl rfl (hb hby d2_18) (by decide) (by decide) ⟨by simp [lst, hb4_102], N0, e101⟩

theorem d3_0 : decode method_3_code 0 = .ok (.iload_n 0, 1) := by decide +kernel
theorem d3_1 : decode method_3_code 1 = .ok (.ifCond .ne 15, 3) := by decide +kernel
theorem d3_4 : decode method_3_code 4 = .ok (.iload_n 1, 1) := by decide +kernel
theorem d3_5 : decode method_3_code 5 = .ok (.ifCond .eq 7, 3) := by decide +kernel
theorem d3_12 : decode method_3_code 12 = .ok (.getstatic 7, 3) := by decide +kernel
theorem d3_15 : decode method_3_code 15 = .ok (.areturn, 1) := by decide +kernel
theorem d3_8 : decode method_3_code 8 = .ok (.getstatic 13, 3) := by decide +kernel
theorem d3_11 : decode method_3_code 11 = .ok (.areturn, 1) := by decide +kernel
theorem d3_16 : decode method_3_code 16 = .ok (.iload_n 0, 1) := by decide +kernel
theorem d3_17 : decode method_3_code 17 = .ok (.iconst 1, 1) := by decide +kernel
theorem d3_18 : decode method_3_code 18 = .ok (.if_icmp .ne 7, 3) := by decide +kernel
theorem d3_21 : decode method_3_code 21 = .ok (.getstatic 13, 3) := by decide +kernel
theorem d3_24 : decode method_3_code 24 = .ok (.areturn, 1) := by decide +kernel
theorem d3_25 : decode method_3_code 25 = .ok (.iload_n 0, 1) := by decide +kernel
theorem d3_26 : decode method_3_code 26 = .ok (.iconst 2, 1) := by decide +kernel
theorem d3_27 : decode method_3_code 27 = .ok (.if_icmp .ne 7, 3) := by decide +kernel
theorem d3_30 : decode method_3_code 30 = .ok (.getstatic 16, 3) := by decide +kernel
theorem d3_33 : decode method_3_code 33 = .ok (.areturn, 1) := by decide +kernel
theorem d3_34 : decode method_3_code 34 = .ok (.iload_n 0, 1) := by decide +kernel
theorem d3_35 : decode method_3_code 35 = .ok (.iconst 3, 1) := by decide +kernel
theorem d3_36 : decode method_3_code 36 = .ok (.if_icmp .ne 7, 3) := by decide +kernel
theorem d3_39 : decode method_3_code 39 = .ok (.getstatic 19, 3) := by decide +kernel
theorem d3_42 : decode method_3_code 42 = .ok (.areturn, 1) := by decide +kernel
theorem d3_43 : decode method_3_code 43 = .ok (.getstatic 22, 3) := by decide +kernel
theorem d3_46 : decode method_3_code 46 = .ok (.areturn, 1) := by decide +kernel
set_option maxRecDepth 65536 in
set_option maxHeartbeats 40000000 in
theorem rm3 (l : Launch) (Z : State) (a0 : Array Value) (hw : ∀ d ∈ tables_1, d.before a0 Z = true) (ws : List Jvm.Cond) (k z : Int32) (w_NORMAL w_BLOCKED w_COMPLETE w_PAUSED w_ERROR : Addr) (h0 : Heap) (n0 : Nat) (Z0 : n0 ≤ h0.size) (S_NORMAL : Sta Z h0 "com/example/grid_job_scheduler/gridjobscheduler/TriggerState" "NORMAL" "Lcom/example/grid_job_scheduler/gridjobscheduler/TriggerState;" (.ref w_NORMAL)) (S_BLOCKED : Sta Z h0 "com/example/grid_job_scheduler/gridjobscheduler/TriggerState" "BLOCKED" "Lcom/example/grid_job_scheduler/gridjobscheduler/TriggerState;" (.ref w_BLOCKED)) (S_COMPLETE : Sta Z h0 "com/example/grid_job_scheduler/gridjobscheduler/TriggerState" "COMPLETE" "Lcom/example/grid_job_scheduler/gridjobscheduler/TriggerState;" (.ref w_COMPLETE)) (S_PAUSED : Sta Z h0 "com/example/grid_job_scheduler/gridjobscheduler/TriggerState" "PAUSED" "Lcom/example/grid_job_scheduler/gridjobscheduler/TriggerState;" (.ref w_PAUSED)) (S_ERROR : Sta Z h0 "com/example/grid_job_scheduler/gridjobscheduler/TriggerState" "ERROR" "Lcom/example/grid_job_scheduler/gridjobscheduler/TriggerState;" (.ref w_ERROR)) :
    Con l Z (⟨"com/example/grid_job_scheduler/gridjobscheduler/TriggerStateListedPinLaw", "expected", "(IZ)Lcom/example/grid_job_scheduler/gridjobscheduler/TriggerState;"⟩ : MethodName) method_3_code 2 (some (.object "com/example/grid_job_scheduler/gridjobscheduler/TriggerState")) ws ({ frames := 0, cells := 0, slots := 0, locals := 0 } : Room) #[(.int k), (.int z)] h0 (fun v h L => v = some (.ref (expP k z w_NORMAL w_BLOCKED w_COMPLETE w_PAUSED w_ERROR)) ∧ Fr n0 L ∧ h = h0) := by
  refine Con.mk (plainFor_of_name pn0) ?_
  intro p e s m below meth c s₁ Cc X0 e0
  obtain ⟨hx, hZ, hown, hby, hml, hnm, hret, hlk⟩ := Cc
  have N0 := Fr.nil n0
  show Go p e s below _ _ _ s₁ (mkF m 0 #[.val (.int k), .val (.int z)] [])
  refine Go.of (fun _ hr => XS.iloadN X0.here hx rfl (hb hby d3_0) rfl  hr) ?_
  show Go p e s below _ _ _ s₁ (mkF m 1 #[.val (.int k), .val (.int z)] [(.int k)])
  by_cases hb1_101 : k = (0 : Int32)
  · refine Go.of (fun _ hr => XS.ifNo X0.here hx rfl (hb hby d3_1) rfl ((if0 _ _).trans (teq hb1_101).2) hr) ?_
    show Go p e s below _ _ _ s₁ (mkF m 4 #[.val (.int k), .val (.int z)] [])
    refine Go.of (fun _ hr => XS.iloadN X0.here hx rfl (hb hby d3_4) rfl  hr) ?_
    show Go p e s below _ _ _ s₁ (mkF m 5 #[.val (.int k), .val (.int z)] [(.int z)])
    by_cases hb5_102 : z = (0 : Int32)
    · refine Go.of (fun _ hr => XS.ifYes X0.here hx rfl (pc0 := 5) (pc' := 12) rfl (hb hby d3_5) rfl ((if0 _ _).trans (teq hb5_102).1) (by decide) (by decide) hr) ?_
      show Go p e s below _ _ _ s₁ (mkF m 12 #[.val (.int k), .val (.int z)] [])
      obtain ⟨T103, X103, e103, st103⟩ := getS2 X0 hx hZ hown (host := "") (Or.inl (hw _ (List.mem_of_getElem? (i := 5) rfl))) Via.refl e0 S_NORMAL (g := (mkF m 12 #[.val (.int k), .val (.int z)] [])) rfl (hb hby d3_12)
      refine Go.of (fun _ hr => st103 _ hr) ?_
      show Go p e s below _ _ _ T103 (mkF m 15 #[.val (.int k), .val (.int z)] [(.ref w_NORMAL)])
      exact Go.retA X103 hx hlk hret rfl rfl (hb hby d3_15) (by decide) (by decide) ⟨by simp [expP, selP, hb1_101, hb5_102], N0, e103⟩
    · refine Go.of (fun _ hr => XS.ifNo X0.here hx rfl (hb hby d3_5) rfl ((if0 _ _).trans (feq hb5_102).1) hr) ?_
      show Go p e s below _ _ _ s₁ (mkF m 8 #[.val (.int k), .val (.int z)] [])
      obtain ⟨T104, X104, e104, st104⟩ := getS2 X0 hx hZ hown (host := "") (Or.inl (hw _ (List.mem_of_getElem? (i := 17) rfl))) Via.refl e0 S_BLOCKED (g := (mkF m 8 #[.val (.int k), .val (.int z)] [])) rfl (hb hby d3_8)
      refine Go.of (fun _ hr => st104 _ hr) ?_
      show Go p e s below _ _ _ T104 (mkF m 11 #[.val (.int k), .val (.int z)] [(.ref w_BLOCKED)])
      exact Go.retA X104 hx hlk hret rfl rfl (hb hby d3_11) (by decide) (by decide) ⟨by simp [expP, selP, hb1_101, hb5_102], N0, e104⟩
  · refine Go.of (fun _ hr => XS.ifYes X0.here hx rfl (pc0 := 1) (pc' := 16) rfl (hb hby d3_1) rfl ((if0 _ _).trans (feq hb1_101).2) (by decide) (by decide) hr) ?_
    show Go p e s below _ _ _ s₁ (mkF m 16 #[.val (.int k), .val (.int z)] [])
    refine Go.of (fun _ hr => XS.iloadN X0.here hx rfl (hb hby d3_16) rfl  hr) ?_
    show Go p e s below _ _ _ s₁ (mkF m 17 #[.val (.int k), .val (.int z)] [(.int k)])
    refine Go.of (fun _ hr => XS.iconst X0.here hx rfl (hb hby d3_17) hr) ?_
    show Go p e s below _ _ _ s₁ (mkF m 18 #[.val (.int k), .val (.int z)] [(.int (1 : Int32)), (.int k)])
    by_cases hb18_105 : k = (1 : Int32)
    · refine Go.of (fun _ hr => XS.icmpNo X0.here hx rfl (hb hby d3_18) rfl (teq hb18_105).2 hr) ?_
      show Go p e s below _ _ _ s₁ (mkF m 21 #[.val (.int k), .val (.int z)] [])
      obtain ⟨T106, X106, e106, st106⟩ := getS2 X0 hx hZ hown (host := "") (Or.inl (hw _ (List.mem_of_getElem? (i := 17) rfl))) Via.refl e0 S_BLOCKED (g := (mkF m 21 #[.val (.int k), .val (.int z)] [])) rfl (hb hby d3_21)
      refine Go.of (fun _ hr => st106 _ hr) ?_
      show Go p e s below _ _ _ T106 (mkF m 24 #[.val (.int k), .val (.int z)] [(.ref w_BLOCKED)])
      exact Go.retA X106 hx hlk hret rfl rfl (hb hby d3_24) (by decide) (by decide) ⟨by simp [expP, selP, hb1_101, hb18_105], N0, e106⟩
    · refine Go.of (fun _ hr => XS.icmpYes X0.here hx rfl (pc0 := 18) (pc' := 25) rfl (hb hby d3_18) rfl (feq hb18_105).2 (by decide) (by decide) hr) ?_
      show Go p e s below _ _ _ s₁ (mkF m 25 #[.val (.int k), .val (.int z)] [])
      refine Go.of (fun _ hr => XS.iloadN X0.here hx rfl (hb hby d3_25) rfl  hr) ?_
      show Go p e s below _ _ _ s₁ (mkF m 26 #[.val (.int k), .val (.int z)] [(.int k)])
      refine Go.of (fun _ hr => XS.iconst X0.here hx rfl (hb hby d3_26) hr) ?_
      show Go p e s below _ _ _ s₁ (mkF m 27 #[.val (.int k), .val (.int z)] [(.int (2 : Int32)), (.int k)])
      by_cases hb27_107 : k = (2 : Int32)
      · refine Go.of (fun _ hr => XS.icmpNo X0.here hx rfl (hb hby d3_27) rfl (teq hb27_107).2 hr) ?_
        show Go p e s below _ _ _ s₁ (mkF m 30 #[.val (.int k), .val (.int z)] [])
        obtain ⟨T108, X108, e108, st108⟩ := getS2 X0 hx hZ hown (host := "") (Or.inl (hw _ (List.mem_of_getElem? (i := 22) rfl))) Via.refl e0 S_COMPLETE (g := (mkF m 30 #[.val (.int k), .val (.int z)] [])) rfl (hb hby d3_30)
        refine Go.of (fun _ hr => st108 _ hr) ?_
        show Go p e s below _ _ _ T108 (mkF m 33 #[.val (.int k), .val (.int z)] [(.ref w_COMPLETE)])
        exact Go.retA X108 hx hlk hret rfl rfl (hb hby d3_33) (by decide) (by decide) ⟨by simp [expP, selP, hb1_101, hb18_105, hb27_107], N0, e108⟩
      · refine Go.of (fun _ hr => XS.icmpYes X0.here hx rfl (pc0 := 27) (pc' := 34) rfl (hb hby d3_27) rfl (feq hb27_107).2 (by decide) (by decide) hr) ?_
        show Go p e s below _ _ _ s₁ (mkF m 34 #[.val (.int k), .val (.int z)] [])
        refine Go.of (fun _ hr => XS.iloadN X0.here hx rfl (hb hby d3_34) rfl  hr) ?_
        show Go p e s below _ _ _ s₁ (mkF m 35 #[.val (.int k), .val (.int z)] [(.int k)])
        refine Go.of (fun _ hr => XS.iconst X0.here hx rfl (hb hby d3_35) hr) ?_
        show Go p e s below _ _ _ s₁ (mkF m 36 #[.val (.int k), .val (.int z)] [(.int (3 : Int32)), (.int k)])
        by_cases hb36_109 : k = (3 : Int32)
        · refine Go.of (fun _ hr => XS.icmpNo X0.here hx rfl (hb hby d3_36) rfl (teq hb36_109).2 hr) ?_
          show Go p e s below _ _ _ s₁ (mkF m 39 #[.val (.int k), .val (.int z)] [])
          obtain ⟨T110, X110, e110, st110⟩ := getS2 X0 hx hZ hown (host := "") (Or.inl (hw _ (List.mem_of_getElem? (i := 20) rfl))) Via.refl e0 S_PAUSED (g := (mkF m 39 #[.val (.int k), .val (.int z)] [])) rfl (hb hby d3_39)
          refine Go.of (fun _ hr => st110 _ hr) ?_
          show Go p e s below _ _ _ T110 (mkF m 42 #[.val (.int k), .val (.int z)] [(.ref w_PAUSED)])
          exact Go.retA X110 hx hlk hret rfl rfl (hb hby d3_42) (by decide) (by decide) ⟨by simp [expP, selP, hb1_101, hb18_105, hb27_107, hb36_109], N0, e110⟩
        · refine Go.of (fun _ hr => XS.icmpYes X0.here hx rfl (pc0 := 36) (pc' := 43) rfl (hb hby d3_36) rfl (feq hb36_109).2 (by decide) (by decide) hr) ?_
          show Go p e s below _ _ _ s₁ (mkF m 43 #[.val (.int k), .val (.int z)] [])
          obtain ⟨T111, X111, e111, st111⟩ := getS2 X0 hx hZ hown (host := "") (Or.inl (hw _ (List.mem_of_getElem? (i := 18) rfl))) Via.refl e0 S_ERROR (g := (mkF m 43 #[.val (.int k), .val (.int z)] [])) rfl (hb hby d3_43)
          refine Go.of (fun _ hr => st111 _ hr) ?_
          show Go p e s below _ _ _ T111 (mkF m 46 #[.val (.int k), .val (.int z)] [(.ref w_ERROR)])
          exact Go.retA X111 hx hlk hret rfl rfl (hb hby d3_46) (by decide) (by decide) ⟨by simp [expP, selP, hb1_101, hb18_105, hb27_107, hb36_109], N0, e111⟩

theorem pd0 : parseMethodDescriptor "(I)Lcom/example/grid_job_scheduler/gridjobscheduler/TriggerState;" = some ⟨[.int], some (.object "com/example/grid_job_scheduler/gridjobscheduler/TriggerState")⟩ := by decide +kernel
theorem pd1 : parseMethodDescriptor "(Lcom/example/grid_job_scheduler/gridjobscheduler/TriggerState;Z)Lcom/example/grid_job_scheduler/gridjobscheduler/TriggerState;" = some ⟨[(.object "com/example/grid_job_scheduler/gridjobscheduler/TriggerState"), .boolean], some (.object "com/example/grid_job_scheduler/gridjobscheduler/TriggerState")⟩ := by decide +kernel
theorem pd2 : parseMethodDescriptor "(IZ)Lcom/example/grid_job_scheduler/gridjobscheduler/TriggerState;" = some ⟨[.int, .boolean], some (.object "com/example/grid_job_scheduler/gridjobscheduler/TriggerState")⟩ := by decide +kernel
set_option maxRecDepth 65536 in
set_option maxHeartbeats 40000000 in
theorem rm0 (l : Launch) (Z : State) (a0 : Array Value) (hw : ∀ d ∈ tables_1, d.before a0 Z = true) (ws : List Jvm.Cond) (p1 p2 : Int32) (w_NORMAL w_BLOCKED w_COMPLETE w_PAUSED w_ERROR : Addr) (h0 : Heap) (n0 : Nat) (Z0 : n0 ≤ h0.size) (S_NORMAL : Sta Z h0 "com/example/grid_job_scheduler/gridjobscheduler/TriggerState" "NORMAL" "Lcom/example/grid_job_scheduler/gridjobscheduler/TriggerState;" (.ref w_NORMAL)) (S_BLOCKED : Sta Z h0 "com/example/grid_job_scheduler/gridjobscheduler/TriggerState" "BLOCKED" "Lcom/example/grid_job_scheduler/gridjobscheduler/TriggerState;" (.ref w_BLOCKED)) (S_COMPLETE : Sta Z h0 "com/example/grid_job_scheduler/gridjobscheduler/TriggerState" "COMPLETE" "Lcom/example/grid_job_scheduler/gridjobscheduler/TriggerState;" (.ref w_COMPLETE)) (S_PAUSED : Sta Z h0 "com/example/grid_job_scheduler/gridjobscheduler/TriggerState" "PAUSED" "Lcom/example/grid_job_scheduler/gridjobscheduler/TriggerState;" (.ref w_PAUSED)) (S_ERROR : Sta Z h0 "com/example/grid_job_scheduler/gridjobscheduler/TriggerState" "ERROR" "Lcom/example/grid_job_scheduler/gridjobscheduler/TriggerState;" (.ref w_ERROR)) (NE_BLOCKED : ¬ w_BLOCKED = w_NORMAL) (NE_COMPLETE : ¬ w_COMPLETE = w_NORMAL) (NE_PAUSED : ¬ w_PAUSED = w_NORMAL) (NE_ERROR : ¬ w_ERROR = w_NORMAL) :
    Con l Z x code maxLocals ret ws room_1 #[(.int p1), (.int p2)] h0 (fun v h L => v = some (.int 1) ∧ Fr n0 L) := by
  refine Con.mk (plainFor_of_name pn0) ?_
  intro p e s m below meth c s₁ Cc X0 e0
  obtain ⟨hx, hZ, hown, hby, hml, hnm, hret, hlk⟩ := Cc
  replace hown : s.vm.findClass "com/example/grid_job_scheduler/gridjobscheduler/TriggerStateListedPinLaw" = some m.cls := hown
  replace hml : c.maxLocals = 7 := hml
  have N0 := Fr.nil n0
  show Go p e s below _ _ _ s₁ (mkF m 0 #[.val (.int p1), .val (.int p2), .unset, .unset, .unset, .unset, .unset] [])
  refine Go.of (fun _ hr => XS.iloadN X0.here hx rfl (hb hby at_0) rfl  hr) ?_
  show Go p e s below _ _ _ s₁ (mkF m 1 #[.val (.int p1), .val (.int p2), .unset, .unset, .unset, .unset, .unset] [(.int p1)])
  refine Go.of (fun _ hr => X0.ldcI hx hown (mvT hZ (hw _ (List.mem_of_getElem? (i := 0) rfl))) rfl (hb hby at_1) hr) ?_
  show Go p e s below _ _ _ s₁ (mkF m 3 #[.val (.int p1), .val (.int p2), .unset, .unset, .unset, .unset, .unset] [(.int (2147483647 : Int32)), (.int p1)])
  refine Go.of (fun _ hr => XS.iand X0.here hx rfl (hb hby at_3) rfl hr) ?_
  show Go p e s below _ _ _ s₁ (mkF m 4 #[.val (.int p1), .val (.int p2), .unset, .unset, .unset, .unset, .unset] [(.int (p1 &&& (2147483647 : Int32)))])
  refine Go.of (fun _ hr => XS.iconst X0.here hx rfl (hb hby at_4) hr) ?_
  show Go p e s below _ _ _ s₁ (mkF m 5 #[.val (.int p1), .val (.int p2), .unset, .unset, .unset, .unset, .unset] [(.int (5 : Int32)), (.int (p1 &&& (2147483647 : Int32)))])
  refine Go.of (fun _ hr => iremM X0 hx rfl (hb hby at_5) rfl (by decide) hr) ?_
  show Go p e s below _ _ _ s₁ (mkF m 6 #[.val (.int p1), .val (.int p2), .unset, .unset, .unset, .unset, .unset] [(.int ((p1 &&& (2147483647 : Int32)) % (5 : Int32)))])
  generalize ((p1 &&& (2147483647 : Int32)) % (5 : Int32)) = k
  show Go p e s below _ _ _ s₁ (mkF m 6 #[.val (.int p1), .val (.int p2), .unset, .unset, .unset, .unset, .unset] [(.int k)])
  refine Go.of (fun _ hr => XS.istoreN X0.here hx rfl (hb hby at_6) rfl (l' := #[.val (.int p1), .val (.int p2), .val (.int k), .unset, .unset, .unset, .unset]) rfl hr) ?_
  show Go p e s below _ _ _ s₁ (mkF m 7 #[.val (.int p1), .val (.int p2), .val (.int k), .unset, .unset, .unset, .unset] [])
  refine Go.of (fun _ hr => XS.iloadN X0.here hx rfl (hb hby at_7) rfl  hr) ?_
  show Go p e s below _ _ _ s₁ (mkF m 8 #[.val (.int p1), .val (.int p2), .val (.int k), .unset, .unset, .unset, .unset] [(.int p2)])
  refine Go.of (fun _ hr => XS.iconst X0.here hx rfl (hb hby at_8) hr) ?_
  show Go p e s below _ _ _ s₁ (mkF m 9 #[.val (.int p1), .val (.int p2), .val (.int k), .unset, .unset, .unset, .unset] [(.int (1 : Int32)), (.int p2)])
  refine Go.of (fun _ hr => XS.iand X0.here hx rfl (hb hby at_9) rfl hr) ?_
  show Go p e s below _ _ _ s₁ (mkF m 10 #[.val (.int p1), .val (.int p2), .val (.int k), .unset, .unset, .unset, .unset] [(.int (p2 &&& (1 : Int32)))])
  by_cases hb10_101 : (p2 &&& (1 : Int32)) = (0 : Int32)
  · refine Go.of (fun _ hr => XS.ifYes X0.here hx rfl (pc0 := 10) (pc' := 17) rfl (hb hby at_10) rfl ((if0 _ _).trans (teq hb10_101).1) (by decide) (by decide) hr) ?_
    show Go p e s below _ _ _ s₁ (mkF m 17 #[.val (.int p1), .val (.int p2), .val (.int k), .unset, .unset, .unset, .unset] [])
    refine Go.of (fun _ hr => XS.iconst X0.here hx rfl (hb hby at_17) hr) ?_
    show Go p e s below _ _ _ s₁ (mkF m 18 #[.val (.int p1), .val (.int p2), .val (.int k), .unset, .unset, .unset, .unset] [(.int (0 : Int32))])
    refine Go.of (fun _ hr => XS.istoreN X0.here hx rfl (hb hby at_18) rfl (l' := #[.val (.int p1), .val (.int p2), .val (.int k), .val (.int (0 : Int32)), .unset, .unset, .unset]) rfl hr) ?_
    show Go p e s below _ _ _ s₁ (mkF m 19 #[.val (.int p1), .val (.int p2), .val (.int k), .val (.int (0 : Int32)), .unset, .unset, .unset] [])
    refine Go.of (fun _ hr => XS.iloadN X0.here hx rfl (hb hby at_19) rfl  hr) ?_
    show Go p e s below _ _ _ s₁ (mkF m 20 #[.val (.int p1), .val (.int p2), .val (.int k), .val (.int (0 : Int32)), .unset, .unset, .unset] [(.int k)])
    obtain ⟨_, T102, L102, X102, hQ102, st102⟩ := own_callS X0 hx hZ hown (hw _ (List.mem_of_getElem? (i := 1) rfl)) (hw _ (List.mem_of_getElem? (i := 2) rfl)) (hw _ (List.mem_of_getElem? (i := 3) rfl)) (hw _ (List.mem_of_getElem? (i := 4) rfl)) (by decide) (rm1 l Z a0 hw [] k w_NORMAL w_BLOCKED w_COMPLETE w_PAUSED w_ERROR h0 n0 Z0 S_NORMAL S_BLOCKED S_COMPLETE S_PAUSED S_ERROR) e0 (g := (mkF m 20 #[.val (.int p1), .val (.int p2), .val (.int k), .val (.int (0 : Int32)), .unset, .unset, .unset] [(.int k)])) rfl (by rw [hml]; rfl) (argsL := [(.int k)]) (rest := []) (lenOf pd0 rfl) rfl (W := 0) (by show 2 * 0 + _ ≤ _; exact Nat.le_of_eq rfl) (hb hby at_20) (by decide) (by decide) (by decide) (by decide)
    obtain ⟨rfl, N102, e102⟩ := hQ102
    refine Go.of st102 ?_
    have NF102 := Fr.app N0 N102
    show Go p e s below _ _ _ T102 (mkF m 23 #[.val (.int p1), .val (.int p2), .val (.int k), .val (.int (0 : Int32)), .unset, .unset, .unset] [(.ref (selP k w_NORMAL w_BLOCKED w_COMPLETE w_PAUSED w_ERROR))])
    refine Go.of (fun _ hr => XS.astore X102.here hx rfl (hb hby at_23) rfl rfl (l' := #[.val (.int p1), .val (.int p2), .val (.int k), .val (.int (0 : Int32)), .val (.ref (selP k w_NORMAL w_BLOCKED w_COMPLETE w_PAUSED w_ERROR)), .unset, .unset]) rfl hr) ?_
    show Go p e s below _ _ _ T102 (mkF m 25 #[.val (.int p1), .val (.int p2), .val (.int k), .val (.int (0 : Int32)), .val (.ref (selP k w_NORMAL w_BLOCKED w_COMPLETE w_PAUSED w_ERROR)), .unset, .unset] [])
    refine Go.of (fun _ hr => XS.aload X102.here hx rfl (hb hby at_25) rfl rfl hr) ?_
    show Go p e s below _ _ _ T102 (mkF m 27 #[.val (.int p1), .val (.int p2), .val (.int k), .val (.int (0 : Int32)), .val (.ref (selP k w_NORMAL w_BLOCKED w_COMPLETE w_PAUSED w_ERROR)), .unset, .unset] [(.ref (selP k w_NORMAL w_BLOCKED w_COMPLETE w_PAUSED w_ERROR))])
    refine Go.of (fun _ hr => XS.iloadN X102.here hx rfl (hb hby at_27) rfl  hr) ?_
    show Go p e s below _ _ _ T102 (mkF m 28 #[.val (.int p1), .val (.int p2), .val (.int k), .val (.int (0 : Int32)), .val (.ref (selP k w_NORMAL w_BLOCKED w_COMPLETE w_PAUSED w_ERROR)), .unset, .unset] [(.int (0 : Int32)), (.ref (selP k w_NORMAL w_BLOCKED w_COMPLETE w_PAUSED w_ERROR))])
    obtain ⟨_, T103, L103, X103, hQ103, st103⟩ := own_callS X102 hx hZ hown (hw _ (List.mem_of_getElem? (i := 8) rfl)) (hw _ (List.mem_of_getElem? (i := 9) rfl)) (hw _ (List.mem_of_getElem? (i := 6) rfl)) (hw _ (List.mem_of_getElem? (i := 10) rfl)) (by decide) (rm2 l Z a0 hw [] (selP k w_NORMAL w_BLOCKED w_COMPLETE w_PAUSED w_ERROR) (0 : Int32) w_NORMAL w_BLOCKED h0 n0 Z0 S_NORMAL S_BLOCKED) e102 (g := (mkF m 28 #[.val (.int p1), .val (.int p2), .val (.int k), .val (.int (0 : Int32)), .val (.ref (selP k w_NORMAL w_BLOCKED w_COMPLETE w_PAUSED w_ERROR)), .unset, .unset] [(.int (0 : Int32)), (.ref (selP k w_NORMAL w_BLOCKED w_COMPLETE w_PAUSED w_ERROR))])) rfl (by rw [hml]; rfl) (argsL := [(.ref (selP k w_NORMAL w_BLOCKED w_COMPLETE w_PAUSED w_ERROR)), (.int (0 : Int32))]) (rest := []) (lenOf pd1 rfl) rfl (W := 0) (by show 2 * 0 + _ ≤ _; exact Nat.le_of_eq rfl) (hb hby at_28) (by decide) (by decide) (by decide) (by decide)
    obtain ⟨rfl, N103, e103⟩ := hQ103
    refine Go.of st103 ?_
    have NF103 := Fr.app NF102 N103
    show Go p e s below _ _ _ T103 (mkF m 31 #[.val (.int p1), .val (.int p2), .val (.int k), .val (.int (0 : Int32)), .val (.ref (selP k w_NORMAL w_BLOCKED w_COMPLETE w_PAUSED w_ERROR)), .unset, .unset] [(.ref (lst (selP k w_NORMAL w_BLOCKED w_COMPLETE w_PAUSED w_ERROR) (0 : Int32) w_NORMAL w_BLOCKED))])
    rw [lst_sel NE_BLOCKED NE_COMPLETE NE_PAUSED NE_ERROR]
    show Go p e s below _ _ _ T103 (mkF m 31 #[.val (.int p1), .val (.int p2), .val (.int k), .val (.int (0 : Int32)), .val (.ref (selP k w_NORMAL w_BLOCKED w_COMPLETE w_PAUSED w_ERROR)), .unset, .unset] [(.ref (expP k (0 : Int32) w_NORMAL w_BLOCKED w_COMPLETE w_PAUSED w_ERROR))])
    refine Go.of (fun _ hr => XS.astore X103.here hx rfl (hb hby at_31) rfl rfl (l' := #[.val (.int p1), .val (.int p2), .val (.int k), .val (.int (0 : Int32)), .val (.ref (selP k w_NORMAL w_BLOCKED w_COMPLETE w_PAUSED w_ERROR)), .val (.ref (expP k (0 : Int32) w_NORMAL w_BLOCKED w_COMPLETE w_PAUSED w_ERROR)), .unset]) rfl hr) ?_
    show Go p e s below _ _ _ T103 (mkF m 33 #[.val (.int p1), .val (.int p2), .val (.int k), .val (.int (0 : Int32)), .val (.ref (selP k w_NORMAL w_BLOCKED w_COMPLETE w_PAUSED w_ERROR)), .val (.ref (expP k (0 : Int32) w_NORMAL w_BLOCKED w_COMPLETE w_PAUSED w_ERROR)), .unset] [])
    refine Go.of (fun _ hr => XS.aload X103.here hx rfl (hb hby at_33) rfl rfl hr) ?_
    show Go p e s below _ _ _ T103 (mkF m 35 #[.val (.int p1), .val (.int p2), .val (.int k), .val (.int (0 : Int32)), .val (.ref (selP k w_NORMAL w_BLOCKED w_COMPLETE w_PAUSED w_ERROR)), .val (.ref (expP k (0 : Int32) w_NORMAL w_BLOCKED w_COMPLETE w_PAUSED w_ERROR)), .unset] [(.ref (expP k (0 : Int32) w_NORMAL w_BLOCKED w_COMPLETE w_PAUSED w_ERROR))])
    refine Go.of (fun _ hr => XS.iloadN X103.here hx rfl (hb hby at_35) rfl  hr) ?_
    show Go p e s below _ _ _ T103 (mkF m 36 #[.val (.int p1), .val (.int p2), .val (.int k), .val (.int (0 : Int32)), .val (.ref (selP k w_NORMAL w_BLOCKED w_COMPLETE w_PAUSED w_ERROR)), .val (.ref (expP k (0 : Int32) w_NORMAL w_BLOCKED w_COMPLETE w_PAUSED w_ERROR)), .unset] [(.int k), (.ref (expP k (0 : Int32) w_NORMAL w_BLOCKED w_COMPLETE w_PAUSED w_ERROR))])
    refine Go.of (fun _ hr => XS.iloadN X103.here hx rfl (hb hby at_36) rfl  hr) ?_
    show Go p e s below _ _ _ T103 (mkF m 37 #[.val (.int p1), .val (.int p2), .val (.int k), .val (.int (0 : Int32)), .val (.ref (selP k w_NORMAL w_BLOCKED w_COMPLETE w_PAUSED w_ERROR)), .val (.ref (expP k (0 : Int32) w_NORMAL w_BLOCKED w_COMPLETE w_PAUSED w_ERROR)), .unset] [(.int (0 : Int32)), (.int k), (.ref (expP k (0 : Int32) w_NORMAL w_BLOCKED w_COMPLETE w_PAUSED w_ERROR))])
    obtain ⟨_, T104, L104, X104, hQ104, st104⟩ := own_callS X103 hx hZ hown (hw _ (List.mem_of_getElem? (i := 14) rfl)) (hw _ (List.mem_of_getElem? (i := 15) rfl)) (hw _ (List.mem_of_getElem? (i := 3) rfl)) (hw _ (List.mem_of_getElem? (i := 16) rfl)) (by decide) (rm3 l Z a0 hw [] k (0 : Int32) w_NORMAL w_BLOCKED w_COMPLETE w_PAUSED w_ERROR h0 n0 Z0 S_NORMAL S_BLOCKED S_COMPLETE S_PAUSED S_ERROR) e103 (g := (mkF m 37 #[.val (.int p1), .val (.int p2), .val (.int k), .val (.int (0 : Int32)), .val (.ref (selP k w_NORMAL w_BLOCKED w_COMPLETE w_PAUSED w_ERROR)), .val (.ref (expP k (0 : Int32) w_NORMAL w_BLOCKED w_COMPLETE w_PAUSED w_ERROR)), .unset] [(.int (0 : Int32)), (.int k), (.ref (expP k (0 : Int32) w_NORMAL w_BLOCKED w_COMPLETE w_PAUSED w_ERROR))])) rfl (by rw [hml]; rfl) (argsL := [(.int k), (.int (0 : Int32))]) (rest := [(.ref (expP k (0 : Int32) w_NORMAL w_BLOCKED w_COMPLETE w_PAUSED w_ERROR))]) (lenOf pd2 rfl) rfl (W := 1) (by show 2 * 0 + _ ≤ _; exact Nat.le_of_eq rfl) (hb hby at_37) (by decide) (by decide) (by decide) (by decide)
    obtain ⟨rfl, N104, e104⟩ := hQ104
    refine Go.of st104 ?_
    have NF104 := Fr.app NF103 N104
    show Go p e s below _ _ _ T104 (mkF m 40 #[.val (.int p1), .val (.int p2), .val (.int k), .val (.int (0 : Int32)), .val (.ref (selP k w_NORMAL w_BLOCKED w_COMPLETE w_PAUSED w_ERROR)), .val (.ref (expP k (0 : Int32) w_NORMAL w_BLOCKED w_COMPLETE w_PAUSED w_ERROR)), .unset] [(.ref (expP k (0 : Int32) w_NORMAL w_BLOCKED w_COMPLETE w_PAUSED w_ERROR)), (.ref (expP k (0 : Int32) w_NORMAL w_BLOCKED w_COMPLETE w_PAUSED w_ERROR))])
    refine Go.of (fun _ hr => Jvm.RoadKit.acmp (g := (mkF m 40 #[.val (.int p1), .val (.int p2), .val (.int k), .val (.int (0 : Int32)), .val (.ref (selP k w_NORMAL w_BLOCKED w_COMPLETE w_PAUSED w_ERROR)), .val (.ref (expP k (0 : Int32) w_NORMAL w_BLOCKED w_COMPLETE w_PAUSED w_ERROR)), .unset] [(.ref (expP k (0 : Int32) w_NORMAL w_BLOCKED w_COMPLETE w_PAUSED w_ERROR)), (.ref (expP k (0 : Int32) w_NORMAL w_BLOCKED w_COMPLETE w_PAUSED w_ERROR))])) X104 hx rfl rfl rfl (pc0 := 40) (pc' := 45) (same := true) rfl (hb hby at_40) rfl (decide_eq_true rfl) (by decide) (by decide) hr) ?_
    show Go p e s below _ _ _ T104 (mkF m 45 #[.val (.int p1), .val (.int p2), .val (.int k), .val (.int (0 : Int32)), .val (.ref (selP k w_NORMAL w_BLOCKED w_COMPLETE w_PAUSED w_ERROR)), .val (.ref (expP k (0 : Int32) w_NORMAL w_BLOCKED w_COMPLETE w_PAUSED w_ERROR)), .unset] [])
    refine Go.of (fun _ hr => XS.aload X104.here hx rfl (hb hby at_45) rfl rfl hr) ?_
    show Go p e s below _ _ _ T104 (mkF m 47 #[.val (.int p1), .val (.int p2), .val (.int k), .val (.int (0 : Int32)), .val (.ref (selP k w_NORMAL w_BLOCKED w_COMPLETE w_PAUSED w_ERROR)), .val (.ref (expP k (0 : Int32) w_NORMAL w_BLOCKED w_COMPLETE w_PAUSED w_ERROR)), .unset] [(.ref (expP k (0 : Int32) w_NORMAL w_BLOCKED w_COMPLETE w_PAUSED w_ERROR))])
    refine Go.of (fun _ hr => XS.iloadN X104.here hx rfl (hb hby at_47) rfl  hr) ?_
    show Go p e s below _ _ _ T104 (mkF m 48 #[.val (.int p1), .val (.int p2), .val (.int k), .val (.int (0 : Int32)), .val (.ref (selP k w_NORMAL w_BLOCKED w_COMPLETE w_PAUSED w_ERROR)), .val (.ref (expP k (0 : Int32) w_NORMAL w_BLOCKED w_COMPLETE w_PAUSED w_ERROR)), .unset] [(.int (0 : Int32)), (.ref (expP k (0 : Int32) w_NORMAL w_BLOCKED w_COMPLETE w_PAUSED w_ERROR))])
    obtain ⟨_, T105, L105, X105, hQ105, st105⟩ := own_callS X104 hx hZ hown (hw _ (List.mem_of_getElem? (i := 8) rfl)) (hw _ (List.mem_of_getElem? (i := 9) rfl)) (hw _ (List.mem_of_getElem? (i := 6) rfl)) (hw _ (List.mem_of_getElem? (i := 10) rfl)) (by decide) (rm2 l Z a0 hw [] (expP k (0 : Int32) w_NORMAL w_BLOCKED w_COMPLETE w_PAUSED w_ERROR) (0 : Int32) w_NORMAL w_BLOCKED h0 n0 Z0 S_NORMAL S_BLOCKED) e104 (g := (mkF m 48 #[.val (.int p1), .val (.int p2), .val (.int k), .val (.int (0 : Int32)), .val (.ref (selP k w_NORMAL w_BLOCKED w_COMPLETE w_PAUSED w_ERROR)), .val (.ref (expP k (0 : Int32) w_NORMAL w_BLOCKED w_COMPLETE w_PAUSED w_ERROR)), .unset] [(.int (0 : Int32)), (.ref (expP k (0 : Int32) w_NORMAL w_BLOCKED w_COMPLETE w_PAUSED w_ERROR))])) rfl (by rw [hml]; rfl) (argsL := [(.ref (expP k (0 : Int32) w_NORMAL w_BLOCKED w_COMPLETE w_PAUSED w_ERROR)), (.int (0 : Int32))]) (rest := []) (lenOf pd1 rfl) rfl (W := 0) (by show 2 * 0 + _ ≤ _; exact Nat.le_of_eq rfl) (hb hby at_48) (by decide) (by decide) (by decide) (by decide)
    obtain ⟨rfl, N105, e105⟩ := hQ105
    refine Go.of st105 ?_
    have NF105 := Fr.app NF104 N105
    show Go p e s below _ _ _ T105 (mkF m 51 #[.val (.int p1), .val (.int p2), .val (.int k), .val (.int (0 : Int32)), .val (.ref (selP k w_NORMAL w_BLOCKED w_COMPLETE w_PAUSED w_ERROR)), .val (.ref (expP k (0 : Int32) w_NORMAL w_BLOCKED w_COMPLETE w_PAUSED w_ERROR)), .unset] [(.ref (lst (expP k (0 : Int32) w_NORMAL w_BLOCKED w_COMPLETE w_PAUSED w_ERROR) (0 : Int32) w_NORMAL w_BLOCKED))])
    refine Go.of (fun _ hr => XS.astore X105.here hx rfl (hb hby at_51) rfl rfl (l' := #[.val (.int p1), .val (.int p2), .val (.int k), .val (.int (0 : Int32)), .val (.ref (selP k w_NORMAL w_BLOCKED w_COMPLETE w_PAUSED w_ERROR)), .val (.ref (expP k (0 : Int32) w_NORMAL w_BLOCKED w_COMPLETE w_PAUSED w_ERROR)), .val (.ref (lst (expP k (0 : Int32) w_NORMAL w_BLOCKED w_COMPLETE w_PAUSED w_ERROR) (0 : Int32) w_NORMAL w_BLOCKED))]) rfl hr) ?_
    show Go p e s below _ _ _ T105 (mkF m 53 #[.val (.int p1), .val (.int p2), .val (.int k), .val (.int (0 : Int32)), .val (.ref (selP k w_NORMAL w_BLOCKED w_COMPLETE w_PAUSED w_ERROR)), .val (.ref (expP k (0 : Int32) w_NORMAL w_BLOCKED w_COMPLETE w_PAUSED w_ERROR)), .val (.ref (lst (expP k (0 : Int32) w_NORMAL w_BLOCKED w_COMPLETE w_PAUSED w_ERROR) (0 : Int32) w_NORMAL w_BLOCKED))] [])
    refine Go.of (fun _ hr => XS.aload X105.here hx rfl (hb hby at_53) rfl rfl hr) ?_
    show Go p e s below _ _ _ T105 (mkF m 55 #[.val (.int p1), .val (.int p2), .val (.int k), .val (.int (0 : Int32)), .val (.ref (selP k w_NORMAL w_BLOCKED w_COMPLETE w_PAUSED w_ERROR)), .val (.ref (expP k (0 : Int32) w_NORMAL w_BLOCKED w_COMPLETE w_PAUSED w_ERROR)), .val (.ref (lst (expP k (0 : Int32) w_NORMAL w_BLOCKED w_COMPLETE w_PAUSED w_ERROR) (0 : Int32) w_NORMAL w_BLOCKED))] [(.ref (lst (expP k (0 : Int32) w_NORMAL w_BLOCKED w_COMPLETE w_PAUSED w_ERROR) (0 : Int32) w_NORMAL w_BLOCKED))])
    refine Go.of (fun _ hr => XS.aload X105.here hx rfl (hb hby at_55) rfl rfl hr) ?_
    show Go p e s below _ _ _ T105 (mkF m 57 #[.val (.int p1), .val (.int p2), .val (.int k), .val (.int (0 : Int32)), .val (.ref (selP k w_NORMAL w_BLOCKED w_COMPLETE w_PAUSED w_ERROR)), .val (.ref (expP k (0 : Int32) w_NORMAL w_BLOCKED w_COMPLETE w_PAUSED w_ERROR)), .val (.ref (lst (expP k (0 : Int32) w_NORMAL w_BLOCKED w_COMPLETE w_PAUSED w_ERROR) (0 : Int32) w_NORMAL w_BLOCKED))] [(.ref (expP k (0 : Int32) w_NORMAL w_BLOCKED w_COMPLETE w_PAUSED w_ERROR)), (.ref (lst (expP k (0 : Int32) w_NORMAL w_BLOCKED w_COMPLETE w_PAUSED w_ERROR) (0 : Int32) w_NORMAL w_BLOCKED))])
    refine Go.of (fun _ hr => Jvm.RoadKit.acmp (g := (mkF m 57 #[.val (.int p1), .val (.int p2), .val (.int k), .val (.int (0 : Int32)), .val (.ref (selP k w_NORMAL w_BLOCKED w_COMPLETE w_PAUSED w_ERROR)), .val (.ref (expP k (0 : Int32) w_NORMAL w_BLOCKED w_COMPLETE w_PAUSED w_ERROR)), .val (.ref (lst (expP k (0 : Int32) w_NORMAL w_BLOCKED w_COMPLETE w_PAUSED w_ERROR) (0 : Int32) w_NORMAL w_BLOCKED))] [(.ref (expP k (0 : Int32) w_NORMAL w_BLOCKED w_COMPLETE w_PAUSED w_ERROR)), (.ref (lst (expP k (0 : Int32) w_NORMAL w_BLOCKED w_COMPLETE w_PAUSED w_ERROR) (0 : Int32) w_NORMAL w_BLOCKED))])) X105 hx rfl rfl rfl (pc0 := 57) (pc' := 60) (same := true) rfl (hb hby at_57) rfl (decide_eq_true (congrArg Value.ref (lst_exp NE_BLOCKED NE_COMPLETE NE_PAUSED NE_ERROR))) (by decide) (by decide) hr) ?_
    show Go p e s below _ _ _ T105 (mkF m 60 #[.val (.int p1), .val (.int p2), .val (.int k), .val (.int (0 : Int32)), .val (.ref (selP k w_NORMAL w_BLOCKED w_COMPLETE w_PAUSED w_ERROR)), .val (.ref (expP k (0 : Int32) w_NORMAL w_BLOCKED w_COMPLETE w_PAUSED w_ERROR)), .val (.ref (lst (expP k (0 : Int32) w_NORMAL w_BLOCKED w_COMPLETE w_PAUSED w_ERROR) (0 : Int32) w_NORMAL w_BLOCKED))] [])
    refine Go.of (fun _ hr => XS.iconst X105.here hx rfl (hb hby at_60) hr) ?_
    show Go p e s below _ _ _ T105 (mkF m 61 #[.val (.int p1), .val (.int p2), .val (.int k), .val (.int (0 : Int32)), .val (.ref (selP k w_NORMAL w_BLOCKED w_COMPLETE w_PAUSED w_ERROR)), .val (.ref (expP k (0 : Int32) w_NORMAL w_BLOCKED w_COMPLETE w_PAUSED w_ERROR)), .val (.ref (lst (expP k (0 : Int32) w_NORMAL w_BLOCKED w_COMPLETE w_PAUSED w_ERROR) (0 : Int32) w_NORMAL w_BLOCKED))] [(.int (1 : Int32))])
    refine Go.of (fun _ hr => XS.goto X105.here hx rfl (pc0 := 61) (pc' := 65) rfl (hb hby at_61) (by decide) (by decide) hr) ?_
    show Go p e s below _ _ _ T105 (mkF m 65 #[.val (.int p1), .val (.int p2), .val (.int k), .val (.int (0 : Int32)), .val (.ref (selP k w_NORMAL w_BLOCKED w_COMPLETE w_PAUSED w_ERROR)), .val (.ref (expP k (0 : Int32) w_NORMAL w_BLOCKED w_COMPLETE w_PAUSED w_ERROR)), .val (.ref (lst (expP k (0 : Int32) w_NORMAL w_BLOCKED w_COMPLETE w_PAUSED w_ERROR) (0 : Int32) w_NORMAL w_BLOCKED))] [(.int (1 : Int32))])
    exact Go.retN X105 hx hlk (t := .boolean) (z' := (1 : Int32)) hret (by simp) (hb hby at_65) rfl (by decide) (by decide) ⟨rfl, NF105⟩
  · refine Go.of (fun _ hr => XS.ifNo X0.here hx rfl (hb hby at_10) rfl ((if0 _ _).trans (feq hb10_101).1) hr) ?_
    show Go p e s below _ _ _ s₁ (mkF m 13 #[.val (.int p1), .val (.int p2), .val (.int k), .unset, .unset, .unset, .unset] [])
    refine Go.of (fun _ hr => XS.iconst X0.here hx rfl (hb hby at_13) hr) ?_
    show Go p e s below _ _ _ s₁ (mkF m 14 #[.val (.int p1), .val (.int p2), .val (.int k), .unset, .unset, .unset, .unset] [(.int (1 : Int32))])
    refine Go.of (fun _ hr => XS.goto X0.here hx rfl (pc0 := 14) (pc' := 18) rfl (hb hby at_14) (by decide) (by decide) hr) ?_
    show Go p e s below _ _ _ s₁ (mkF m 18 #[.val (.int p1), .val (.int p2), .val (.int k), .unset, .unset, .unset, .unset] [(.int (1 : Int32))])
    refine Go.of (fun _ hr => XS.istoreN X0.here hx rfl (hb hby at_18) rfl (l' := #[.val (.int p1), .val (.int p2), .val (.int k), .val (.int (1 : Int32)), .unset, .unset, .unset]) rfl hr) ?_
    show Go p e s below _ _ _ s₁ (mkF m 19 #[.val (.int p1), .val (.int p2), .val (.int k), .val (.int (1 : Int32)), .unset, .unset, .unset] [])
    refine Go.of (fun _ hr => XS.iloadN X0.here hx rfl (hb hby at_19) rfl  hr) ?_
    show Go p e s below _ _ _ s₁ (mkF m 20 #[.val (.int p1), .val (.int p2), .val (.int k), .val (.int (1 : Int32)), .unset, .unset, .unset] [(.int k)])
    obtain ⟨_, T106, L106, X106, hQ106, st106⟩ := own_callS X0 hx hZ hown (hw _ (List.mem_of_getElem? (i := 1) rfl)) (hw _ (List.mem_of_getElem? (i := 2) rfl)) (hw _ (List.mem_of_getElem? (i := 3) rfl)) (hw _ (List.mem_of_getElem? (i := 4) rfl)) (by decide) (rm1 l Z a0 hw [] k w_NORMAL w_BLOCKED w_COMPLETE w_PAUSED w_ERROR h0 n0 Z0 S_NORMAL S_BLOCKED S_COMPLETE S_PAUSED S_ERROR) e0 (g := (mkF m 20 #[.val (.int p1), .val (.int p2), .val (.int k), .val (.int (1 : Int32)), .unset, .unset, .unset] [(.int k)])) rfl (by rw [hml]; rfl) (argsL := [(.int k)]) (rest := []) (lenOf pd0 rfl) rfl (W := 0) (by show 2 * 0 + _ ≤ _; exact Nat.le_of_eq rfl) (hb hby at_20) (by decide) (by decide) (by decide) (by decide)
    obtain ⟨rfl, N106, e106⟩ := hQ106
    refine Go.of st106 ?_
    have NF106 := Fr.app N0 N106
    show Go p e s below _ _ _ T106 (mkF m 23 #[.val (.int p1), .val (.int p2), .val (.int k), .val (.int (1 : Int32)), .unset, .unset, .unset] [(.ref (selP k w_NORMAL w_BLOCKED w_COMPLETE w_PAUSED w_ERROR))])
    refine Go.of (fun _ hr => XS.astore X106.here hx rfl (hb hby at_23) rfl rfl (l' := #[.val (.int p1), .val (.int p2), .val (.int k), .val (.int (1 : Int32)), .val (.ref (selP k w_NORMAL w_BLOCKED w_COMPLETE w_PAUSED w_ERROR)), .unset, .unset]) rfl hr) ?_
    show Go p e s below _ _ _ T106 (mkF m 25 #[.val (.int p1), .val (.int p2), .val (.int k), .val (.int (1 : Int32)), .val (.ref (selP k w_NORMAL w_BLOCKED w_COMPLETE w_PAUSED w_ERROR)), .unset, .unset] [])
    refine Go.of (fun _ hr => XS.aload X106.here hx rfl (hb hby at_25) rfl rfl hr) ?_
    show Go p e s below _ _ _ T106 (mkF m 27 #[.val (.int p1), .val (.int p2), .val (.int k), .val (.int (1 : Int32)), .val (.ref (selP k w_NORMAL w_BLOCKED w_COMPLETE w_PAUSED w_ERROR)), .unset, .unset] [(.ref (selP k w_NORMAL w_BLOCKED w_COMPLETE w_PAUSED w_ERROR))])
    refine Go.of (fun _ hr => XS.iloadN X106.here hx rfl (hb hby at_27) rfl  hr) ?_
    show Go p e s below _ _ _ T106 (mkF m 28 #[.val (.int p1), .val (.int p2), .val (.int k), .val (.int (1 : Int32)), .val (.ref (selP k w_NORMAL w_BLOCKED w_COMPLETE w_PAUSED w_ERROR)), .unset, .unset] [(.int (1 : Int32)), (.ref (selP k w_NORMAL w_BLOCKED w_COMPLETE w_PAUSED w_ERROR))])
    obtain ⟨_, T107, L107, X107, hQ107, st107⟩ := own_callS X106 hx hZ hown (hw _ (List.mem_of_getElem? (i := 8) rfl)) (hw _ (List.mem_of_getElem? (i := 9) rfl)) (hw _ (List.mem_of_getElem? (i := 6) rfl)) (hw _ (List.mem_of_getElem? (i := 10) rfl)) (by decide) (rm2 l Z a0 hw [] (selP k w_NORMAL w_BLOCKED w_COMPLETE w_PAUSED w_ERROR) (1 : Int32) w_NORMAL w_BLOCKED h0 n0 Z0 S_NORMAL S_BLOCKED) e106 (g := (mkF m 28 #[.val (.int p1), .val (.int p2), .val (.int k), .val (.int (1 : Int32)), .val (.ref (selP k w_NORMAL w_BLOCKED w_COMPLETE w_PAUSED w_ERROR)), .unset, .unset] [(.int (1 : Int32)), (.ref (selP k w_NORMAL w_BLOCKED w_COMPLETE w_PAUSED w_ERROR))])) rfl (by rw [hml]; rfl) (argsL := [(.ref (selP k w_NORMAL w_BLOCKED w_COMPLETE w_PAUSED w_ERROR)), (.int (1 : Int32))]) (rest := []) (lenOf pd1 rfl) rfl (W := 0) (by show 2 * 0 + _ ≤ _; exact Nat.le_of_eq rfl) (hb hby at_28) (by decide) (by decide) (by decide) (by decide)
    obtain ⟨rfl, N107, e107⟩ := hQ107
    refine Go.of st107 ?_
    have NF107 := Fr.app NF106 N107
    show Go p e s below _ _ _ T107 (mkF m 31 #[.val (.int p1), .val (.int p2), .val (.int k), .val (.int (1 : Int32)), .val (.ref (selP k w_NORMAL w_BLOCKED w_COMPLETE w_PAUSED w_ERROR)), .unset, .unset] [(.ref (lst (selP k w_NORMAL w_BLOCKED w_COMPLETE w_PAUSED w_ERROR) (1 : Int32) w_NORMAL w_BLOCKED))])
    rw [lst_sel NE_BLOCKED NE_COMPLETE NE_PAUSED NE_ERROR]
    show Go p e s below _ _ _ T107 (mkF m 31 #[.val (.int p1), .val (.int p2), .val (.int k), .val (.int (1 : Int32)), .val (.ref (selP k w_NORMAL w_BLOCKED w_COMPLETE w_PAUSED w_ERROR)), .unset, .unset] [(.ref (expP k (1 : Int32) w_NORMAL w_BLOCKED w_COMPLETE w_PAUSED w_ERROR))])
    refine Go.of (fun _ hr => XS.astore X107.here hx rfl (hb hby at_31) rfl rfl (l' := #[.val (.int p1), .val (.int p2), .val (.int k), .val (.int (1 : Int32)), .val (.ref (selP k w_NORMAL w_BLOCKED w_COMPLETE w_PAUSED w_ERROR)), .val (.ref (expP k (1 : Int32) w_NORMAL w_BLOCKED w_COMPLETE w_PAUSED w_ERROR)), .unset]) rfl hr) ?_
    show Go p e s below _ _ _ T107 (mkF m 33 #[.val (.int p1), .val (.int p2), .val (.int k), .val (.int (1 : Int32)), .val (.ref (selP k w_NORMAL w_BLOCKED w_COMPLETE w_PAUSED w_ERROR)), .val (.ref (expP k (1 : Int32) w_NORMAL w_BLOCKED w_COMPLETE w_PAUSED w_ERROR)), .unset] [])
    refine Go.of (fun _ hr => XS.aload X107.here hx rfl (hb hby at_33) rfl rfl hr) ?_
    show Go p e s below _ _ _ T107 (mkF m 35 #[.val (.int p1), .val (.int p2), .val (.int k), .val (.int (1 : Int32)), .val (.ref (selP k w_NORMAL w_BLOCKED w_COMPLETE w_PAUSED w_ERROR)), .val (.ref (expP k (1 : Int32) w_NORMAL w_BLOCKED w_COMPLETE w_PAUSED w_ERROR)), .unset] [(.ref (expP k (1 : Int32) w_NORMAL w_BLOCKED w_COMPLETE w_PAUSED w_ERROR))])
    refine Go.of (fun _ hr => XS.iloadN X107.here hx rfl (hb hby at_35) rfl  hr) ?_
    show Go p e s below _ _ _ T107 (mkF m 36 #[.val (.int p1), .val (.int p2), .val (.int k), .val (.int (1 : Int32)), .val (.ref (selP k w_NORMAL w_BLOCKED w_COMPLETE w_PAUSED w_ERROR)), .val (.ref (expP k (1 : Int32) w_NORMAL w_BLOCKED w_COMPLETE w_PAUSED w_ERROR)), .unset] [(.int k), (.ref (expP k (1 : Int32) w_NORMAL w_BLOCKED w_COMPLETE w_PAUSED w_ERROR))])
    refine Go.of (fun _ hr => XS.iloadN X107.here hx rfl (hb hby at_36) rfl  hr) ?_
    show Go p e s below _ _ _ T107 (mkF m 37 #[.val (.int p1), .val (.int p2), .val (.int k), .val (.int (1 : Int32)), .val (.ref (selP k w_NORMAL w_BLOCKED w_COMPLETE w_PAUSED w_ERROR)), .val (.ref (expP k (1 : Int32) w_NORMAL w_BLOCKED w_COMPLETE w_PAUSED w_ERROR)), .unset] [(.int (1 : Int32)), (.int k), (.ref (expP k (1 : Int32) w_NORMAL w_BLOCKED w_COMPLETE w_PAUSED w_ERROR))])
    obtain ⟨_, T108, L108, X108, hQ108, st108⟩ := own_callS X107 hx hZ hown (hw _ (List.mem_of_getElem? (i := 14) rfl)) (hw _ (List.mem_of_getElem? (i := 15) rfl)) (hw _ (List.mem_of_getElem? (i := 3) rfl)) (hw _ (List.mem_of_getElem? (i := 16) rfl)) (by decide) (rm3 l Z a0 hw [] k (1 : Int32) w_NORMAL w_BLOCKED w_COMPLETE w_PAUSED w_ERROR h0 n0 Z0 S_NORMAL S_BLOCKED S_COMPLETE S_PAUSED S_ERROR) e107 (g := (mkF m 37 #[.val (.int p1), .val (.int p2), .val (.int k), .val (.int (1 : Int32)), .val (.ref (selP k w_NORMAL w_BLOCKED w_COMPLETE w_PAUSED w_ERROR)), .val (.ref (expP k (1 : Int32) w_NORMAL w_BLOCKED w_COMPLETE w_PAUSED w_ERROR)), .unset] [(.int (1 : Int32)), (.int k), (.ref (expP k (1 : Int32) w_NORMAL w_BLOCKED w_COMPLETE w_PAUSED w_ERROR))])) rfl (by rw [hml]; rfl) (argsL := [(.int k), (.int (1 : Int32))]) (rest := [(.ref (expP k (1 : Int32) w_NORMAL w_BLOCKED w_COMPLETE w_PAUSED w_ERROR))]) (lenOf pd2 rfl) rfl (W := 1) (by show 2 * 0 + _ ≤ _; exact Nat.le_of_eq rfl) (hb hby at_37) (by decide) (by decide) (by decide) (by decide)
    obtain ⟨rfl, N108, e108⟩ := hQ108
    refine Go.of st108 ?_
    have NF108 := Fr.app NF107 N108
    show Go p e s below _ _ _ T108 (mkF m 40 #[.val (.int p1), .val (.int p2), .val (.int k), .val (.int (1 : Int32)), .val (.ref (selP k w_NORMAL w_BLOCKED w_COMPLETE w_PAUSED w_ERROR)), .val (.ref (expP k (1 : Int32) w_NORMAL w_BLOCKED w_COMPLETE w_PAUSED w_ERROR)), .unset] [(.ref (expP k (1 : Int32) w_NORMAL w_BLOCKED w_COMPLETE w_PAUSED w_ERROR)), (.ref (expP k (1 : Int32) w_NORMAL w_BLOCKED w_COMPLETE w_PAUSED w_ERROR))])
    refine Go.of (fun _ hr => Jvm.RoadKit.acmp (g := (mkF m 40 #[.val (.int p1), .val (.int p2), .val (.int k), .val (.int (1 : Int32)), .val (.ref (selP k w_NORMAL w_BLOCKED w_COMPLETE w_PAUSED w_ERROR)), .val (.ref (expP k (1 : Int32) w_NORMAL w_BLOCKED w_COMPLETE w_PAUSED w_ERROR)), .unset] [(.ref (expP k (1 : Int32) w_NORMAL w_BLOCKED w_COMPLETE w_PAUSED w_ERROR)), (.ref (expP k (1 : Int32) w_NORMAL w_BLOCKED w_COMPLETE w_PAUSED w_ERROR))])) X108 hx rfl rfl rfl (pc0 := 40) (pc' := 45) (same := true) rfl (hb hby at_40) rfl (decide_eq_true rfl) (by decide) (by decide) hr) ?_
    show Go p e s below _ _ _ T108 (mkF m 45 #[.val (.int p1), .val (.int p2), .val (.int k), .val (.int (1 : Int32)), .val (.ref (selP k w_NORMAL w_BLOCKED w_COMPLETE w_PAUSED w_ERROR)), .val (.ref (expP k (1 : Int32) w_NORMAL w_BLOCKED w_COMPLETE w_PAUSED w_ERROR)), .unset] [])
    refine Go.of (fun _ hr => XS.aload X108.here hx rfl (hb hby at_45) rfl rfl hr) ?_
    show Go p e s below _ _ _ T108 (mkF m 47 #[.val (.int p1), .val (.int p2), .val (.int k), .val (.int (1 : Int32)), .val (.ref (selP k w_NORMAL w_BLOCKED w_COMPLETE w_PAUSED w_ERROR)), .val (.ref (expP k (1 : Int32) w_NORMAL w_BLOCKED w_COMPLETE w_PAUSED w_ERROR)), .unset] [(.ref (expP k (1 : Int32) w_NORMAL w_BLOCKED w_COMPLETE w_PAUSED w_ERROR))])
    refine Go.of (fun _ hr => XS.iloadN X108.here hx rfl (hb hby at_47) rfl  hr) ?_
    show Go p e s below _ _ _ T108 (mkF m 48 #[.val (.int p1), .val (.int p2), .val (.int k), .val (.int (1 : Int32)), .val (.ref (selP k w_NORMAL w_BLOCKED w_COMPLETE w_PAUSED w_ERROR)), .val (.ref (expP k (1 : Int32) w_NORMAL w_BLOCKED w_COMPLETE w_PAUSED w_ERROR)), .unset] [(.int (1 : Int32)), (.ref (expP k (1 : Int32) w_NORMAL w_BLOCKED w_COMPLETE w_PAUSED w_ERROR))])
    obtain ⟨_, T109, L109, X109, hQ109, st109⟩ := own_callS X108 hx hZ hown (hw _ (List.mem_of_getElem? (i := 8) rfl)) (hw _ (List.mem_of_getElem? (i := 9) rfl)) (hw _ (List.mem_of_getElem? (i := 6) rfl)) (hw _ (List.mem_of_getElem? (i := 10) rfl)) (by decide) (rm2 l Z a0 hw [] (expP k (1 : Int32) w_NORMAL w_BLOCKED w_COMPLETE w_PAUSED w_ERROR) (1 : Int32) w_NORMAL w_BLOCKED h0 n0 Z0 S_NORMAL S_BLOCKED) e108 (g := (mkF m 48 #[.val (.int p1), .val (.int p2), .val (.int k), .val (.int (1 : Int32)), .val (.ref (selP k w_NORMAL w_BLOCKED w_COMPLETE w_PAUSED w_ERROR)), .val (.ref (expP k (1 : Int32) w_NORMAL w_BLOCKED w_COMPLETE w_PAUSED w_ERROR)), .unset] [(.int (1 : Int32)), (.ref (expP k (1 : Int32) w_NORMAL w_BLOCKED w_COMPLETE w_PAUSED w_ERROR))])) rfl (by rw [hml]; rfl) (argsL := [(.ref (expP k (1 : Int32) w_NORMAL w_BLOCKED w_COMPLETE w_PAUSED w_ERROR)), (.int (1 : Int32))]) (rest := []) (lenOf pd1 rfl) rfl (W := 0) (by show 2 * 0 + _ ≤ _; exact Nat.le_of_eq rfl) (hb hby at_48) (by decide) (by decide) (by decide) (by decide)
    obtain ⟨rfl, N109, e109⟩ := hQ109
    refine Go.of st109 ?_
    have NF109 := Fr.app NF108 N109
    show Go p e s below _ _ _ T109 (mkF m 51 #[.val (.int p1), .val (.int p2), .val (.int k), .val (.int (1 : Int32)), .val (.ref (selP k w_NORMAL w_BLOCKED w_COMPLETE w_PAUSED w_ERROR)), .val (.ref (expP k (1 : Int32) w_NORMAL w_BLOCKED w_COMPLETE w_PAUSED w_ERROR)), .unset] [(.ref (lst (expP k (1 : Int32) w_NORMAL w_BLOCKED w_COMPLETE w_PAUSED w_ERROR) (1 : Int32) w_NORMAL w_BLOCKED))])
    refine Go.of (fun _ hr => XS.astore X109.here hx rfl (hb hby at_51) rfl rfl (l' := #[.val (.int p1), .val (.int p2), .val (.int k), .val (.int (1 : Int32)), .val (.ref (selP k w_NORMAL w_BLOCKED w_COMPLETE w_PAUSED w_ERROR)), .val (.ref (expP k (1 : Int32) w_NORMAL w_BLOCKED w_COMPLETE w_PAUSED w_ERROR)), .val (.ref (lst (expP k (1 : Int32) w_NORMAL w_BLOCKED w_COMPLETE w_PAUSED w_ERROR) (1 : Int32) w_NORMAL w_BLOCKED))]) rfl hr) ?_
    show Go p e s below _ _ _ T109 (mkF m 53 #[.val (.int p1), .val (.int p2), .val (.int k), .val (.int (1 : Int32)), .val (.ref (selP k w_NORMAL w_BLOCKED w_COMPLETE w_PAUSED w_ERROR)), .val (.ref (expP k (1 : Int32) w_NORMAL w_BLOCKED w_COMPLETE w_PAUSED w_ERROR)), .val (.ref (lst (expP k (1 : Int32) w_NORMAL w_BLOCKED w_COMPLETE w_PAUSED w_ERROR) (1 : Int32) w_NORMAL w_BLOCKED))] [])
    refine Go.of (fun _ hr => XS.aload X109.here hx rfl (hb hby at_53) rfl rfl hr) ?_
    show Go p e s below _ _ _ T109 (mkF m 55 #[.val (.int p1), .val (.int p2), .val (.int k), .val (.int (1 : Int32)), .val (.ref (selP k w_NORMAL w_BLOCKED w_COMPLETE w_PAUSED w_ERROR)), .val (.ref (expP k (1 : Int32) w_NORMAL w_BLOCKED w_COMPLETE w_PAUSED w_ERROR)), .val (.ref (lst (expP k (1 : Int32) w_NORMAL w_BLOCKED w_COMPLETE w_PAUSED w_ERROR) (1 : Int32) w_NORMAL w_BLOCKED))] [(.ref (lst (expP k (1 : Int32) w_NORMAL w_BLOCKED w_COMPLETE w_PAUSED w_ERROR) (1 : Int32) w_NORMAL w_BLOCKED))])
    refine Go.of (fun _ hr => XS.aload X109.here hx rfl (hb hby at_55) rfl rfl hr) ?_
    show Go p e s below _ _ _ T109 (mkF m 57 #[.val (.int p1), .val (.int p2), .val (.int k), .val (.int (1 : Int32)), .val (.ref (selP k w_NORMAL w_BLOCKED w_COMPLETE w_PAUSED w_ERROR)), .val (.ref (expP k (1 : Int32) w_NORMAL w_BLOCKED w_COMPLETE w_PAUSED w_ERROR)), .val (.ref (lst (expP k (1 : Int32) w_NORMAL w_BLOCKED w_COMPLETE w_PAUSED w_ERROR) (1 : Int32) w_NORMAL w_BLOCKED))] [(.ref (expP k (1 : Int32) w_NORMAL w_BLOCKED w_COMPLETE w_PAUSED w_ERROR)), (.ref (lst (expP k (1 : Int32) w_NORMAL w_BLOCKED w_COMPLETE w_PAUSED w_ERROR) (1 : Int32) w_NORMAL w_BLOCKED))])
    refine Go.of (fun _ hr => Jvm.RoadKit.acmp (g := (mkF m 57 #[.val (.int p1), .val (.int p2), .val (.int k), .val (.int (1 : Int32)), .val (.ref (selP k w_NORMAL w_BLOCKED w_COMPLETE w_PAUSED w_ERROR)), .val (.ref (expP k (1 : Int32) w_NORMAL w_BLOCKED w_COMPLETE w_PAUSED w_ERROR)), .val (.ref (lst (expP k (1 : Int32) w_NORMAL w_BLOCKED w_COMPLETE w_PAUSED w_ERROR) (1 : Int32) w_NORMAL w_BLOCKED))] [(.ref (expP k (1 : Int32) w_NORMAL w_BLOCKED w_COMPLETE w_PAUSED w_ERROR)), (.ref (lst (expP k (1 : Int32) w_NORMAL w_BLOCKED w_COMPLETE w_PAUSED w_ERROR) (1 : Int32) w_NORMAL w_BLOCKED))])) X109 hx rfl rfl rfl (pc0 := 57) (pc' := 60) (same := true) rfl (hb hby at_57) rfl (decide_eq_true (congrArg Value.ref (lst_exp NE_BLOCKED NE_COMPLETE NE_PAUSED NE_ERROR))) (by decide) (by decide) hr) ?_
    show Go p e s below _ _ _ T109 (mkF m 60 #[.val (.int p1), .val (.int p2), .val (.int k), .val (.int (1 : Int32)), .val (.ref (selP k w_NORMAL w_BLOCKED w_COMPLETE w_PAUSED w_ERROR)), .val (.ref (expP k (1 : Int32) w_NORMAL w_BLOCKED w_COMPLETE w_PAUSED w_ERROR)), .val (.ref (lst (expP k (1 : Int32) w_NORMAL w_BLOCKED w_COMPLETE w_PAUSED w_ERROR) (1 : Int32) w_NORMAL w_BLOCKED))] [])
    refine Go.of (fun _ hr => XS.iconst X109.here hx rfl (hb hby at_60) hr) ?_
    show Go p e s below _ _ _ T109 (mkF m 61 #[.val (.int p1), .val (.int p2), .val (.int k), .val (.int (1 : Int32)), .val (.ref (selP k w_NORMAL w_BLOCKED w_COMPLETE w_PAUSED w_ERROR)), .val (.ref (expP k (1 : Int32) w_NORMAL w_BLOCKED w_COMPLETE w_PAUSED w_ERROR)), .val (.ref (lst (expP k (1 : Int32) w_NORMAL w_BLOCKED w_COMPLETE w_PAUSED w_ERROR) (1 : Int32) w_NORMAL w_BLOCKED))] [(.int (1 : Int32))])
    refine Go.of (fun _ hr => XS.goto X109.here hx rfl (pc0 := 61) (pc' := 65) rfl (hb hby at_61) (by decide) (by decide) hr) ?_
    show Go p e s below _ _ _ T109 (mkF m 65 #[.val (.int p1), .val (.int p2), .val (.int k), .val (.int (1 : Int32)), .val (.ref (selP k w_NORMAL w_BLOCKED w_COMPLETE w_PAUSED w_ERROR)), .val (.ref (expP k (1 : Int32) w_NORMAL w_BLOCKED w_COMPLETE w_PAUSED w_ERROR)), .val (.ref (lst (expP k (1 : Int32) w_NORMAL w_BLOCKED w_COMPLETE w_PAUSED w_ERROR) (1 : Int32) w_NORMAL w_BLOCKED))] [(.int (1 : Int32))])
    exact Go.retN X109 hx hlk (t := .boolean) (z' := (1 : Int32)) hret (by simp) (hb hby at_65) rfl (by decide) (by decide) ⟨rfl, NF109⟩

set_option maxRecDepth 65536 in
set_option maxHeartbeats 40000000 in
theorem comes_1 {Post : Tables → Env → Array Value → State → Outcome → State → Prop} (hpost : ∀ tb e args s v u, (limb_1_1.after args s (.returned v) u = true ∧ limb_1_2.after args s (.returned v) u = true ∧ True) → FrameEnd s (.returned v) u (Jvm.fieldLocs frame_1_writes args s ++ Jvm.arrayLocs frame_1_arrays args s ++ Jvm.staticLocs frame_1_statics s) 0 0 → Post tb e args s (.returned v) u) :
    ArmFor flags0 classFile x code maxLocals ret World_1 tables_1 room_1 Calls_1 rest_1 Pre_1 Post := by
  intro l hfl _ _ p e ha hc hk s m args below hf hA hF happ hP
  obtain ⟨hcalls, hrest, hpre⟩ := hP
  obtain ⟨-, -, -, hnamed, -, -, -, hat⟩ := (Spec.applies_iff hf).mp happ
  obtain ⟨hg, hn⟩ := and_e (Cond.before_iff.mp (show (Jvm.Cond.and given_1 narrow_1).before args s = true from hpre))
  have hw := fun d (hd : d ∈ tables_1) => atoms_spec (ws := Jvm.Cond.code x code maxLocals ret :: tables_1) hat d (List.mem_cons_of_mem _ hd)
  have hfit : Fit s := fun {y c} hc i hi => by
    obtain ⟨ha, rfl⟩ := Array.getElem?_eq_some_iff.mp hc
    have q := List.all_eq_true.mp ((Array.all_eq_true_iff_forall_mem.mp hF) _ (Array.getElem_mem ha)) i (List.mem_range.mpr hi)
    simpa [Array.getElem?_eq_getElem hi] using q
  obtain ⟨hg0, hg⟩ := and_e hg
  obtain ⟨hg1, hg⟩ := and_e hg
  obtain ⟨w0, w1, rfl⟩ : ∃ w0 w1 : Value, args = #[w0, w1] := by
    have hs : args.size = 2 := by simpa [Cond.value] using hg0
    obtain ⟨L⟩ := args
    match L, hs with
    | [w0, w1], _ => exact ⟨w0, w1, rfl⟩
  obtain ⟨i0, ev0⟩ := is_v hg1
  obtain rfl : w0 = (.int i0) := Option.some.inj ev0
  obtain ⟨i1, ev1⟩ := is_v hg
  obtain rfl : w1 = (.int i1) := Option.some.inj ev1
  obtain ⟨hn0, hn⟩ := and_e hn
  obtain ⟨hn1, hn⟩ := and_e hn
  obtain ⟨hn2, hn⟩ := and_e hn
  obtain ⟨hn3, hn⟩ := and_e hn
  obtain ⟨hn4, hn⟩ := and_e hn
  obtain ⟨hn5, hn⟩ := and_e hn
  obtain ⟨hn6, hn⟩ := and_e hn
  obtain ⟨hn7, hn⟩ := and_e hn
  obtain ⟨hn8, hn⟩ := and_e hn
  obtain ⟨w_NORMAL, ev_NORMAL⟩ := exa_v hn0
  have E_NORMAL := Exa.start ev_NORMAL hn0
  have S_NORMAL := Sta.start ev_NORMAL (Or.inr ⟨(hw _ (List.mem_of_getElem? (i := 6) rfl)), (hw _ (List.mem_of_getElem? (i := 7) rfl))⟩)
  obtain ⟨w_BLOCKED, ev_BLOCKED⟩ := exa_v hn1
  have E_BLOCKED := Exa.start ev_BLOCKED hn1
  have S_BLOCKED := Sta.start ev_BLOCKED (Or.inr ⟨(hw _ (List.mem_of_getElem? (i := 6) rfl)), (hw _ (List.mem_of_getElem? (i := 13) rfl))⟩)
  obtain ⟨w_ERROR, ev_ERROR⟩ := exa_v hn4
  have E_ERROR := Exa.start ev_ERROR hn4
  have S_ERROR := Sta.start ev_ERROR (Or.inr ⟨(hw _ (List.mem_of_getElem? (i := 6) rfl)), (hw _ (List.mem_of_getElem? (i := 19) rfl))⟩)
  obtain ⟨w_PAUSED, ev_PAUSED⟩ := exa_v hn6
  have E_PAUSED := Exa.start ev_PAUSED hn6
  have S_PAUSED := Sta.start ev_PAUSED (Or.inr ⟨(hw _ (List.mem_of_getElem? (i := 6) rfl)), (hw _ (List.mem_of_getElem? (i := 21) rfl))⟩)
  obtain ⟨w_COMPLETE, ev_COMPLETE⟩ := exa_v hn8
  have E_COMPLETE := Exa.start ev_COMPLETE hn8
  have S_COMPLETE := Sta.start ev_COMPLETE (Or.inr ⟨(hw _ (List.mem_of_getElem? (i := 6) rfl)), (hw _ (List.mem_of_getElem? (i := 23) rfl))⟩)
  have O_BLOCKED := Fld.start ((fld_at ev_BLOCKED).symm.trans (own_eqI hn2))
  have O_NORMAL := Fld.start ((fld_at ev_NORMAL).symm.trans (own_eqI hn3))
  have O_ERROR := Fld.start ((fld_at ev_ERROR).symm.trans (own_eqI hn5))
  have O_PAUSED := Fld.start ((fld_at ev_PAUSED).symm.trans (own_eqI hn7))
  have O_COMPLETE := Fld.start ((fld_at ev_COMPLETE).symm.trans (own_eqI hn))
  obtain ⟨n, o, h1, h2, h3, _, L, rfl, ⟨rfl, N⟩, hq⟩ := rm0 l s _ hw tables_1 i0 i1 w_NORMAL w_BLOCKED w_COMPLETE w_PAUSED w_ERROR s.heap s.heap.size (Nat.le_refl _) S_NORMAL S_BLOCKED S_COMPLETE S_PAUSED S_ERROR (Fld.ne O_BLOCKED O_NORMAL (by decide)) (Fld.ne O_COMPLETE O_NORMAL (by decide)) (Fld.ne O_PAUSED O_NORMAL (by decide)) (Fld.ne O_ERROR O_NORMAL (by decide)) p e ha hc hk s m _ below hf ((Spec.applies_iff_loose hf).mp happ).1 ⟨rfl, State.Warmed39.refl s, rfl⟩ trivial
  refine ⟨n, _, h1, h2, h3, hpost _ _ _ _ _ _ ⟨Cond.after_iff.mpr rfl, Cond.after_iff.mpr (eq_i res_at (Term.int_eval (1)) rfl), trivial⟩ ⟨hq.1, hq.2.1, (hq.2.2.sift fun y hy => Or.inr (N y hy)).mono (by decide) (by decide)⟩⟩
theorem main_1_1 : Claimed_1_1 := comes_1 fun _ _ _ _ _ _ h hF => ⟨h.1, hF⟩
theorem main_1_2 : Claimed_1_2 := comes_1 fun _ _ _ _ _ _ h hF => ⟨h.2.1, hF⟩

end Jvm.Pilot.@@N@@
namespace Jvm.Pilot.@@N@@
open Jvm Jvm.ClassFile Sem Op Lib Jvm.Free Jvm.Stand Jvm.Pilot.@@N@@.Jvm.D
/-! MADE BY PROGRAM (witnessworld.py) out of the Statement's table words and the real class files: 12 classes; the members and pool entries that the words name. The judged class is class 1, her method 3. -/
namespace start1
open Jvm.ClassFile
def u (s : String) : CpInfo := .utf8 (stringToUtf16 s)
/-- a pool by its gaps: so many unusable entries, then the entry; so many at the end -/
def gap : Nat → List CpInfo → List CpInfo
  | 0, r => r
  | n + 1, r => .unusable :: gap n r
def poolList (es : List (Nat × CpInfo)) (last : Nat) : List CpInfo := es.foldr (fun e r => gap e.1 (e.2 :: r)) (gap last [])
def pool (es : List (Nat × CpInfo)) (last : Nat) : Array CpInfo := ⟨poolList es last⟩
def fileOf (pool : Array CpInfo) (this : Nat) (attrs : Array Attribute := #[]) (ms : Array MethodInfo := #[]) (fl : Nat := 33) (sup : Nat := 0) (ifs : Array Nat := #[]) (fds : Array FieldInfo := #[]) : ClassFile where
  minorVersion := 0
  majorVersion := 65
  constantPool := pool
  accessFlags := fl
  thisClass := this
  superClass := sup
  interfaces := ifs
  fields := fds
  methods := ms
  attributes := attrs
def plain (name : String) (sup : Option ClassId) : Class where
  name := name
  kind := .ordinary
  loader := none
  accessFlags := 33
  super := sup
  interfaces := #[]
  cf := none
  fields := #[]
  methods := #[]
  instanceTypes := #[]
  staticTypes := #[]
  resolved := #[]
  callSites := []
  init := .initialized
  statics := none
  mirror := none

def pool0 : Array CpInfo := pool [(5, u "<init>"), (0, u "()V"), (1, .class_ 10), (1, u "java/lang/Object")] 113

def k0m0 : Method := { name := "<init>", desc := "()V", sig := { parameters := [], returnType := none }, accessFlags := 1, code := none }
/-- java/lang/Object -/
def k0 : Class := { plain "java/lang/Object" none with
  accessFlags := 33
  interfaces := #[]
  cf := some (fileOf pool0 8 #[] #[{ accessFlags := 1, nameIndex := 5, descriptorIndex := 6, attributes := #[] }] 33 0 #[] #[])
  fields := #[]
  methods := #[k0m0]
  instanceTypes := #[]
  staticTypes := #[]
  resolved := Array.replicate 124 none
  statics := none }

def pool1 : Array CpInfo := pool [(2, .class_ 4), (1, u "java/lang/Object"), (0, u "<init>"), (0, u "()V"), (0, .fieldref 8 9), (0, .class_ 10), (0, .nameAndType 11 12), (0, u "com/example/grid_job_scheduler/gridjobscheduler/TriggerState"), (0, u "NORMAL"), (0, u "Lcom/example/grid_job_scheduler/gridjobscheduler/TriggerState;"), (0, .fieldref 8 14), (0, .nameAndType 15 12), (0, u "BLOCKED"), (0, .fieldref 8 17), (0, .nameAndType 18 12), (0, u "COMPLETE"), (0, .fieldref 8 20), (0, .nameAndType 21 12), (0, u "PAUSED"), (0, .fieldref 8 23), (0, .nameAndType 24 12), (0, u "ERROR"), (0, .integer 2147483647), (0, .methodref 27 28), (0, .class_ 29), (0, .nameAndType 30 31), (0, u "com/example/grid_job_scheduler/gridjobscheduler/TriggerStateListedPinLaw"), (0, u "pick"), (0, u "(I)Lcom/example/grid_job_scheduler/gridjobscheduler/TriggerState;"), (0, .methodref 8 33), (0, .nameAndType 34 35), (0, u "listed"), (0, u "(Lcom/example/grid_job_scheduler/gridjobscheduler/TriggerState;Z)Lcom/example/grid_job_scheduler/gridjobscheduler/TriggerState;"), (0, .methodref 27 37), (0, .nameAndType 38 39), (0, u "expected"), (0, u "(IZ)Lcom/example/grid_job_scheduler/gridjobscheduler/TriggerState;"), (3, u "law"), (0, u "(II)Z")] 2

def k1m0 : Method := { name := "<init>", desc := "()V", sig := { parameters := [], returnType := none }, accessFlags := 1, code := none }
def k1c1 : Code := { maxStack := 2, maxLocals := 1, code := method_2_code, exceptionTable := #[], attributes := #[] }
def k1m1 : Method := { name := "pick", desc := "(I)Lcom/example/grid_job_scheduler/gridjobscheduler/TriggerState;", sig := { parameters := [.int], returnType := some (.object "com/example/grid_job_scheduler/gridjobscheduler/TriggerState") }, accessFlags := 10, code := some k1c1 }
def k1c2 : Code := { maxStack := 2, maxLocals := 2, code := method_3_code, exceptionTable := #[], attributes := #[] }
def k1m2 : Method := { name := "expected", desc := "(IZ)Lcom/example/grid_job_scheduler/gridjobscheduler/TriggerState;", sig := { parameters := [.int, .boolean], returnType := some (.object "com/example/grid_job_scheduler/gridjobscheduler/TriggerState") }, accessFlags := 10, code := some k1c2 }
def k1c3 : Code := { maxStack := 3, maxLocals := 7, code := code, exceptionTable := #[], attributes := #[] }
def k1m3 : Method := { name := "law", desc := "(II)Z", sig := { parameters := [.int, .int], returnType := some .boolean }, accessFlags := 9, code := some k1c3 }
/-- com/example/grid_job_scheduler/gridjobscheduler/TriggerStateListedPinLaw -/
def k1 : Class := { plain "com/example/grid_job_scheduler/gridjobscheduler/TriggerStateListedPinLaw" (some 0) with
  accessFlags := 49
  interfaces := #[]
  cf := some (fileOf pool1 27 #[] #[{ accessFlags := 1, nameIndex := 5, descriptorIndex := 6, attributes := #[] }, { accessFlags := 10, nameIndex := 30, descriptorIndex := 31, attributes := #[] }, { accessFlags := 10, nameIndex := 38, descriptorIndex := 39, attributes := #[] }, { accessFlags := 9, nameIndex := 43, descriptorIndex := 44, attributes := #[] }] 49 2 #[] #[])
  fields := #[]
  methods := #[k1m0, k1m1, k1m2, k1m3]
  instanceTypes := #[]
  staticTypes := #[]
  resolved := Array.replicate 47 none
  statics := none }

def pool2 : Array CpInfo := pool [(1, .class_ 2), (0, u "java/lang/constant/Constable"), (0, .class_ 4), (0, u "java/lang/Object")] 6

/-- java/lang/constant/Constable -/
def k2 : Class := { plain "java/lang/constant/Constable" (some 0) with
  accessFlags := 1537
  interfaces := #[]
  cf := some (fileOf pool2 1 #[] #[] 1537 3 #[] #[])
  fields := #[]
  methods := #[]
  instanceTypes := #[]
  staticTypes := #[]
  resolved := Array.replicate 11 none
  statics := none }

def pool3 : Array CpInfo := pool [(1, .class_ 2), (0, u "java/lang/Comparable"), (0, .class_ 4), (0, u "java/lang/Object")] 7

/-- java/lang/Comparable -/
def k3 : Class := { plain "java/lang/Comparable" (some 0) with
  accessFlags := 1537
  interfaces := #[]
  cf := some (fileOf pool3 1 #[] #[] 1537 3 #[] #[])
  fields := #[]
  methods := #[]
  instanceTypes := #[]
  staticTypes := #[]
  resolved := Array.replicate 12 none
  statics := none }

def pool4 : Array CpInfo := pool [(1, .class_ 2), (0, u "java/io/Serializable"), (0, .class_ 4), (0, u "java/lang/Object")] 2

/-- java/io/Serializable -/
def k4 : Class := { plain "java/io/Serializable" (some 0) with
  accessFlags := 1537
  interfaces := #[]
  cf := some (fileOf pool4 1 #[] #[] 1537 3 #[] #[])
  fields := #[]
  methods := #[]
  instanceTypes := #[]
  staticTypes := #[]
  resolved := Array.replicate 7 none
  statics := none }

def pool5 : Array CpInfo := pool [(2, .class_ 4), (1, u "java/lang/Enum"), (0, u "name"), (0, u "Ljava/lang/String;"), (2, u "ordinal"), (0, u "I"), (1, .class_ 14), (1, u "java/lang/Object"), (4, u "hash"), (86, .class_ 108), (1, u "java/lang/Enum$EnumDesc"), (2, .class_ 112), (0, u "java/lang/constant/Constable"), (0, .class_ 114), (0, u "java/lang/Comparable"), (0, .class_ 116), (0, u "java/io/Serializable")] 87

/-- java/lang/Enum -/
def k5 : Class := { plain "java/lang/Enum" (some 0) with
  accessFlags := 1057
  interfaces := #[2, 3, 4]
  cf := some (fileOf pool5 2 #[.nestMembers #[106]] #[] 1057 12 #[111, 113, 115] #[{ accessFlags := 18, nameIndex := 5, descriptorIndex := 6, attributes := #[] }, { accessFlags := 18, nameIndex := 9, descriptorIndex := 10, attributes := #[] }, { accessFlags := 2, nameIndex := 19, descriptorIndex := 10, attributes := #[] }])
  fields := #[{ name := "name", type := (.object "java/lang/String"), accessFlags := 18, slot := 0, constantValue := 0 }, { name := "ordinal", type := .int, accessFlags := 18, slot := 1, constantValue := 0 }, { name := "hash", type := .int, accessFlags := 2, slot := 2, constantValue := 0 }]
  methods := #[]
  instanceTypes := #[(.object "java/lang/String"), .int, .int]
  staticTypes := #[]
  resolved := Array.replicate 204 none
  statics := none }

def pool6 : Array CpInfo := pool [(1, .class_ 2), (0, u "com/example/grid_job_scheduler/gridjobscheduler/TriggerState"), (0, .fieldref 1 4), (0, .nameAndType 5 6), (0, u "NORMAL"), (0, u "Lcom/example/grid_job_scheduler/gridjobscheduler/TriggerState;"), (0, .fieldref 1 8), (0, .nameAndType 9 6), (0, u "BLOCKED"), (2, u "COMPLETE"), (2, u "PAUSED"), (2, u "ERROR"), (2, u "$VALUES"), (0, u "[Lcom/example/grid_job_scheduler/gridjobscheduler/TriggerState;"), (6, .class_ 31), (1, u "java/lang/Enum"), (23, u "listed"), (0, u "(Lcom/example/grid_job_scheduler/gridjobscheduler/TriggerState;Z)Lcom/example/grid_job_scheduler/gridjobscheduler/TriggerState;")] 5

def k6c0 : Code := { maxStack := 2, maxLocals := 2, code := prog_40_method_4_code, exceptionTable := #[], attributes := #[] }
def k6m0 : Method := { name := "listed", desc := "(Lcom/example/grid_job_scheduler/gridjobscheduler/TriggerState;Z)Lcom/example/grid_job_scheduler/gridjobscheduler/TriggerState;", sig := { parameters := [(.object "com/example/grid_job_scheduler/gridjobscheduler/TriggerState"), .boolean], returnType := some (.object "com/example/grid_job_scheduler/gridjobscheduler/TriggerState") }, accessFlags := 8, code := some k6c0 }
/-- com/example/grid_job_scheduler/gridjobscheduler/TriggerState -/
def k6 : Class := { plain "com/example/grid_job_scheduler/gridjobscheduler/TriggerState" (some 5) with
  accessFlags := 16433
  interfaces := #[]
  cf := some (fileOf pool6 1 #[] #[{ accessFlags := 8, nameIndex := 55, descriptorIndex := 56, attributes := #[] }] 16433 29 #[] #[{ accessFlags := 16409, nameIndex := 5, descriptorIndex := 6, attributes := #[] }, { accessFlags := 16409, nameIndex := 9, descriptorIndex := 6, attributes := #[] }, { accessFlags := 16409, nameIndex := 12, descriptorIndex := 6, attributes := #[] }, { accessFlags := 16409, nameIndex := 15, descriptorIndex := 6, attributes := #[] }, { accessFlags := 16409, nameIndex := 18, descriptorIndex := 6, attributes := #[] }, { accessFlags := 4122, nameIndex := 21, descriptorIndex := 22, attributes := #[] }])
  fields := #[{ name := "NORMAL", type := (.object "com/example/grid_job_scheduler/gridjobscheduler/TriggerState"), accessFlags := 16409, slot := 0, constantValue := 0 }, { name := "BLOCKED", type := (.object "com/example/grid_job_scheduler/gridjobscheduler/TriggerState"), accessFlags := 16409, slot := 1, constantValue := 0 }, { name := "COMPLETE", type := (.object "com/example/grid_job_scheduler/gridjobscheduler/TriggerState"), accessFlags := 16409, slot := 2, constantValue := 0 }, { name := "PAUSED", type := (.object "com/example/grid_job_scheduler/gridjobscheduler/TriggerState"), accessFlags := 16409, slot := 3, constantValue := 0 }, { name := "ERROR", type := (.object "com/example/grid_job_scheduler/gridjobscheduler/TriggerState"), accessFlags := 16409, slot := 4, constantValue := 0 }, { name := "$VALUES", type := (.array (.object "com/example/grid_job_scheduler/gridjobscheduler/TriggerState")), accessFlags := 4122, slot := 5, constantValue := 0 }]
  methods := #[k6m0]
  instanceTypes := #[(.object "java/lang/String"), .int, .int]
  staticTypes := #[(.object "com/example/grid_job_scheduler/gridjobscheduler/TriggerState"), (.object "com/example/grid_job_scheduler/gridjobscheduler/TriggerState"), (.object "com/example/grid_job_scheduler/gridjobscheduler/TriggerState"), (.object "com/example/grid_job_scheduler/gridjobscheduler/TriggerState"), (.object "com/example/grid_job_scheduler/gridjobscheduler/TriggerState"), (.array (.object "com/example/grid_job_scheduler/gridjobscheduler/TriggerState"))]
  resolved := Array.replicate 62 none
  statics := some 0 }

def pool7 : Array CpInfo := pool [(1, u "java/lang/Cloneable"), (0, .class_ 1), (0, u "java/lang/Object"), (0, .class_ 3)] 3

/-- java/lang/Cloneable -/
def k7 : Class := { plain "java/lang/Cloneable" (some 0) with
  accessFlags := 1537
  interfaces := #[]
  cf := some (fileOf pool7 2 #[] #[] 1537 4 #[] #[])
  fields := #[]
  methods := #[]
  instanceTypes := #[]
  staticTypes := #[]
  resolved := Array.replicate 8 none
  statics := none }

/-- the primitive byte -/
def k8 : Class := { plain "byte" none with kind := .primitive 'B', accessFlags := 0x411 }
/-- [B -/
def k9 : Class := { plain "[B" (some 0) with kind := .array 8 .byte, interfaces := #[7, 4], accessFlags := 1041 }

/-- the primitive int -/
def k10 : Class := { plain "int" none with kind := .primitive 'I', accessFlags := 0x411 }
/-- [I -/
def k11 : Class := { plain "[I" (some 0) with kind := .array 10 .int, interfaces := #[7, 4], accessFlags := 1041 }

def heap : Heap := #[{ cls := 6, slots := #[.ref 1, .ref 2, .ref 3, .ref 4, .ref 5, .null], vm := .statics 6 },
  { cls := 6, slots := #[.null, .int 0, .int 0], vm := .none },
  { cls := 6, slots := #[.null, .int 1, .int 0], vm := .none },
  { cls := 6, slots := #[.null, .int 2, .int 0], vm := .none },
  { cls := 6, slots := #[.null, .int 3, .int 0], vm := .none },
  { cls := 6, slots := #[.null, .int 4, .int 0], vm := .none }]
def classes : Array Class := #[k0, k1, k2, k3, k4, k5, k6, k7, k8, k9, k10, k11]
def interned : List (Array UInt16 × Addr) := []
def slotsUsed : Nat := 21
def theMethod : MethodId := ⟨1, 3⟩
def args0 : Array Value := #[.int 5, .int 6]
def aboutOver (below : List Frame) : State where
  vm := { classes := classes, interned := interned.toArray }
  heap := heap
  slotsUsed := slotsUsed
  threads := #[{ frames := .invoking theMethod args0 :: below }]
def below0 : List Frame := [.native { method := ⟨0, 0⟩, args := #[] }]
def about1 : State := aboutOver below0
def p0 : Program := .bare "" "" ""
def e0 : Env := launch0.env 0 0 0
theorem w_frames : about1.frames = Frame.invoking theMethod args0 :: below0 := rfl
set_option maxRecDepth 65536 in
theorem w_args : argsFit about1.vm theMethod args0 = true := by decide +kernel
set_option maxRecDepth 65536 in
theorem w_heap : heapFits about1 = true := by decide +kernel
set_option maxRecDepth 65536 in
theorem w_runnable : about1.curStatus? = some .runnable := by decide +kernel
set_option maxRecDepth 65536 in
theorem w_alone : about1.alone = true := by decide +kernel
set_option maxRecDepth 65536 in
theorem w_named : about1.methodNamed? x = some theMethod := by decide +kernel
set_option maxRecDepth 65536 in
theorem w_hears : about1.hears theMethod below0 = true := by decide +kernel
set_option maxRecDepth 65536 in
theorem w_ripe : about1.ripe theMethod args0 below0 = true := by decide +kernel
theorem w_running : about1.status = .running := rfl
set_option maxRecDepth 65536 in
theorem w_room : about1.hasRoom e0.platform room_1 = true :=
  launch0.hasRoom_least _ room_1 (by decide +kernel) (by decide +kernel) (by decide +kernel) (by decide +kernel) (by decide +kernel) (by decide +kernel)
theorem allAtoms_all (ts : List Jvm.Cond) (a : Array Jvm.Value) (st : Jvm.State) : (allAtoms ts).before a st = ts.all (fun c => c.before a st) := by
  induction ts with
  | nil => rfl
  | cons c t ih =>
    show (Jvm.Cond.and c (allAtoms t)).before a st = _
    rw [Jvm.Cond.before_and, ih, List.all_cons]
def words1 : List Jvm.Cond := Jvm.Cond.code x code maxLocals ret :: tables_1
/-- a 'code' word, met by the world's own term for the bytes: nothing is compared byte by byte -/
theorem code_word {y : MethodName} {bytes : ByteArray} {mx : Nat} {rt : Option FieldType} {a : Array Value} {s : State} {m : MethodId} {meth : Method} {c : Code} (h1 : s.methodNamed? y = some m) (h2 : s.vm.method? m = some meth) (h3 : meth.code = some c) (h4 : c.code = bytes)
    (h5 : (c.maxLocals == mx && c.exceptionTable.isEmpty && decide (c.maxStack ≤ mostOperands) && decide (meth.sig.returnType = rt) && !meth.locks && decide (parseMethodDescriptor y.desc = some meth.sig)) = true) : (Jvm.Cond.code y bytes mx rt).before a s = true := by
  simp only [Bool.and_eq_true, beq_iff_eq, Bool.not_eq_true', decide_eq_true_eq] at h5
  obtain ⟨⟨⟨⟨⟨g1, g2⟩, g3⟩, g4⟩, g5⟩, g6⟩ := h5
  simp [Cond.before, Cond.holds, Cond.value, h1, h2, h3, h4, g1, g2, g3, g4, g5, g6]
def isCode : Jvm.Cond → Bool
  | .code _ _ _ _ => true
  | _ => false
theorem all_split {L : List Jvm.Cond} {P : Jvm.Cond → Bool} (h1 : L.all (fun c => isCode c || P c) = true) (h2 : ∀ c ∈ L.filter isCode, P c = true) : L.all P = true := by
  refine List.all_eq_true.mpr fun c hc => ?_
  have h := List.all_eq_true.mp h1 c hc
  rcases Bool.eq_false_or_eq_true (isCode c) with hi | hi
  · exact h2 c (List.mem_filter.mpr ⟨hc, hi⟩)
  · simpa [hi] using h
set_option maxRecDepth 65536 in
theorem w_c0 : (Jvm.Cond.code x code maxLocals ret).before args0 about1 = true := code_word (m := ⟨1, 3⟩) (meth := k1m3) (c := k1c3) (by decide +kernel) rfl rfl rfl (by decide +kernel)
set_option maxRecDepth 65536 in
theorem w_c1 : (Jvm.Cond.code ({ cls := "com/example/grid_job_scheduler/gridjobscheduler/TriggerStateListedPinLaw", name := "pick", desc := "(I)Lcom/example/grid_job_scheduler/gridjobscheduler/TriggerState;" } : Jvm.MethodName) method_2_code (1 : Nat) (Option.some (Jvm.ClassFile.FieldType.object "com/example/grid_job_scheduler/gridjobscheduler/TriggerState"))).before args0 about1 = true := code_word (m := ⟨1, 1⟩) (meth := k1m1) (c := k1c1) (by decide +kernel) rfl rfl rfl (by decide +kernel)
set_option maxRecDepth 65536 in
theorem w_c2 : (Jvm.Cond.code ({ cls := "com/example/grid_job_scheduler/gridjobscheduler/TriggerState", name := "listed", desc := "(Lcom/example/grid_job_scheduler/gridjobscheduler/TriggerState;Z)Lcom/example/grid_job_scheduler/gridjobscheduler/TriggerState;" } : Jvm.MethodName) prog_40_method_4_code (2 : Nat) (Option.some (Jvm.ClassFile.FieldType.object "com/example/grid_job_scheduler/gridjobscheduler/TriggerState"))).before args0 about1 = true := code_word (m := ⟨6, 0⟩) (meth := k6m0) (c := k6c0) (by decide +kernel) rfl rfl rfl (by decide +kernel)
set_option maxRecDepth 65536 in
theorem w_c3 : (Jvm.Cond.code ({ cls := "com/example/grid_job_scheduler/gridjobscheduler/TriggerStateListedPinLaw", name := "expected", desc := "(IZ)Lcom/example/grid_job_scheduler/gridjobscheduler/TriggerState;" } : Jvm.MethodName) method_3_code (2 : Nat) (Option.some (Jvm.ClassFile.FieldType.object "com/example/grid_job_scheduler/gridjobscheduler/TriggerState"))).before args0 about1 = true := code_word (m := ⟨1, 2⟩) (meth := k1m2) (c := k1c2) (by decide +kernel) rfl rfl rfl (by decide +kernel)
def codes1 : List Jvm.Cond := [Jvm.Cond.code x code maxLocals ret, Jvm.Cond.code ({ cls := "com/example/grid_job_scheduler/gridjobscheduler/TriggerStateListedPinLaw", name := "pick", desc := "(I)Lcom/example/grid_job_scheduler/gridjobscheduler/TriggerState;" } : Jvm.MethodName) method_2_code (1 : Nat) (Option.some (Jvm.ClassFile.FieldType.object "com/example/grid_job_scheduler/gridjobscheduler/TriggerState")), Jvm.Cond.code ({ cls := "com/example/grid_job_scheduler/gridjobscheduler/TriggerState", name := "listed", desc := "(Lcom/example/grid_job_scheduler/gridjobscheduler/TriggerState;Z)Lcom/example/grid_job_scheduler/gridjobscheduler/TriggerState;" } : Jvm.MethodName) prog_40_method_4_code (2 : Nat) (Option.some (Jvm.ClassFile.FieldType.object "com/example/grid_job_scheduler/gridjobscheduler/TriggerState")), Jvm.Cond.code ({ cls := "com/example/grid_job_scheduler/gridjobscheduler/TriggerStateListedPinLaw", name := "expected", desc := "(IZ)Lcom/example/grid_job_scheduler/gridjobscheduler/TriggerState;" } : Jvm.MethodName) method_3_code (2 : Nat) (Option.some (Jvm.ClassFile.FieldType.object "com/example/grid_job_scheduler/gridjobscheduler/TriggerState"))]
set_option maxRecDepth 65536 in
theorem codes_eq : words1.filter isCode = codes1 := rfl
theorem w_codes : ∀ c ∈ words1.filter isCode, c.before args0 about1 = true := by
  rw [codes_eq]
  intro c hc
  simp only [codes1, List.mem_cons, List.not_mem_nil, or_false] at hc
  rcases hc with rfl | rfl | rfl | rfl
  · exact w_c0
  · exact w_c1
  · exact w_c2
  · exact w_c3
set_option maxRecDepth 65536 in
theorem w_t1 : (words1.take 24).all (fun c => isCode c || c.before args0 about1) = true := by decide +kernel
set_option maxRecDepth 65536 in
theorem w_t2 : (words1.drop 24).all (fun c => isCode c || c.before args0 about1) = true := by decide +kernel
theorem w_tables : (allAtoms (Jvm.Cond.code x code maxLocals ret :: tables_1)).before args0 about1 = true := by
  rw [allAtoms_all]
  show words1.all (fun c => c.before args0 about1) = true
  refine all_split ?_ w_codes
  rw [← List.take_append_drop 24 words1, List.all_append, w_t1, w_t2]
  rfl
set_option maxRecDepth 65536 in
theorem w_case : (Jvm.Cond.and given_1 narrow_1).before args0 about1 = true := by decide +kernel
theorem w_applies : (headSpec (Jvm.Cond.code x code maxLocals ret :: tables_1) room_1).applies x e0.platform about1 = true :=
  (Spec.applies_iff w_frames).mpr ⟨w_running, w_runnable, w_alone, w_named, w_hears, w_ripe, w_room, w_tables⟩
theorem atStart : AtStart classFile x code maxLocals ret World_1 tables_1 room_1 Calls_1 rest_1 Pre_1 launch0 p0 e0 about1 theMethod args0 below0 :=
  ⟨lists_1, trivial, launch0.admits_env _ _ _, launch0.least_env, fairChoices_fair.cas, fairChoices_fair.clock, w_frames, w_args, w_heap, w_applies, trivial, trivial, w_case⟩
end start1
theorem witness_1 : WitnessClaimed_1 := ⟨start1.p0, start1.e0, start1.about1, start1.theMethod, start1.args0, start1.below0, start1.atStart⟩
end Jvm.Pilot.@@N@@
