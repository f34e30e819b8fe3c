import JvmDerived
import JvmDerived.Pilot.@@N@@Statement
import JvmDerived.Pilot.@@N@@Code
set_option linter.unusedVariables false
set_option linter.unusedSimpArgs false

namespace Jvm.Pilot.@@N@@
open Jvm Jvm.ClassFile Sem Op Lib Jvm.Free Jvm.Stand Jvm.LawKit Jvm.RoadKit Bundle Jvm.Pilot.@@N@@.Jvm.D

section OwnKit
variable {p : Program} {l : Launch} {e : Env} {R : Room} {s : State} {m : MethodId} {args : Array Value} {below : List Frame} {meth : Method} {c : Code} {T T' : State} {locs : List Loc} {cells slots : Nat} {Z : State} {a0 : Array Value} {h : Heap} {K N : Nat} {Q : Option Value → Heap → List Loc → Prop} {g g' : JFrame}
/-- from the frame g over T the body comes to its end, and there Q holds -/
def Go (p : Program) (e : Env) (s : State) (below : List Frame) (K N : Nat) (Q : Option Value → Heap → List Loc → Prop) (T : State) (g : JFrame) : Prop :=
  ∃ s₂ o, Steps p.tables e below (T.setTop g) s₂ ∧ s₂.status = .running ∧ Ended s₂ below o ∧ ∃ v L, o = .returned v ∧ Q v s₂.heap L ∧ FrameEnd s o s₂ L K N
theorem Go.of (st : ∀ t, Steps p.tables e below (T'.setTop g') t → Steps p.tables e below (T.setTop g) t) (q : Go p e s below K N Q T' g') : Go p e s below K N Q T g := by
  obtain ⟨s2, o, h1, r⟩ := q
  exact ⟨s2, o, st _ h1, r⟩
theorem own_retI (X : Stand p l e R s m args below meth c T locs cells slots) (hx : p.tables.exec = Jvm.exec) {pc : Nat} {Ls : Array Slot} {z : Int32} {rest : List Value} (hret : meth.sig.returnType = some .int) (hd : decode c.code pc = .ok (.ireturn, 1)) {fs : List Frame}
    (hl : ∀ (f : JFrame) (acts : List Action), f.method = m → f.locked = none → f.entered = [] → (doReturn e (T.setTop f) acts (some (.int z))).1 = T.setFrames fs) : Steps p.tables e below (T.setTop (mkF m pc Ls (.int z :: rest))) (T.setFrames fs) := by
  have hm' : T.vm.method? m = some meth := X.method'
  have hn : narrow .int (.int z) = .int z := rfl
  show Steps p.tables e below (T.setTop { method := m, pc := pc, locals := Ls, stack := _ :: rest, locked := none }) _
  jvm_step X.here [X.here.top, hx, hd, hm', hret, hn]
  first | (intro acts; rw [hl _ acts rfl rfl rfl]) | rw [hl _ _ rfl rfl rfl]
  exact Steps.refl _
theorem Go.retI (X : Stand p l e R s m args below meth c T locs cells slots) (hx : p.tables.exec = Jvm.exec) (hlk : meth.locks = false) {pc : Nat} {Ls : Array Slot} {z : Int32} {rest : List Value} (hret : meth.sig.returnType = some .int) (hd : decode c.code pc = .ok (.ireturn, 1)) (hK : cells ≤ K) (hN : slots ≤ N)
    (hQ : Q (some (.int z)) T.heap locs) : Go p e s below K N Q T (mkF m pc Ls (.int z :: rest)) := by
  obtain ⟨fs, hr, hrun, hended, hW, hsame⟩ := X.leave (v := some (.int z)) (fun q => by rw [hret] at q; cases q) hlk
  exact ⟨_, _, own_retI X hx hret hd hr, hrun, hended, _, _, rfl, hQ, ⟨_, rfl⟩, hW, hsame.mono hK hN⟩
theorem Go.retN (X : Stand p l e R s m args below meth c T locs cells slots) (hx : p.tables.exec = Jvm.exec) (hlk : meth.locks = false) {pc : Nat} {Ls : Array Slot} {z z' : Int32} {t : FieldType} {rest : List Value} (hret : meth.sig.returnType = some t) (ht : t = .boolean ∨ t = .byte ∨ t = .char ∨ t = .short) (hd : decode c.code pc = .ok (.ireturn, 1)) (hz : nar t z = z') (hK : cells ≤ K) (hN : slots ≤ N)
    (hQ : Q (some (.int z')) T.heap locs) : Go p e s below K N Q T (mkF m pc Ls (.int z :: rest)) := by
  subst hz
  obtain ⟨fs, hr, hrun, hended, hW, hsame⟩ := X.leave (v := some (.int (nar t z))) (fun q => by rw [hret] at q; cases q) hlk
  exact ⟨_, _, Jvm.RoadKit.retN X hx hret ht hd hr, hrun, hended, _, _, rfl, hQ, ⟨_, rfl⟩, hW, hsame.mono hK hN⟩
theorem Go.retA (X : Stand p l e R s m args below meth c T locs cells slots) (hx : p.tables.exec = Jvm.exec) (hlk : meth.locks = false) {pc : Nat} {Ls : Array Slot} {w : Value} {t : FieldType} {rest : List Value} (hret : meth.sig.returnType = some t) (ht : t.isReference = true) (hw : w.isRef = true) (hd : decode c.code pc = .ok (.areturn, 1)) (hK : cells ≤ K) (hN : slots ≤ N)
    (hQ : Q (some w) T.heap locs) : Go p e s below K N Q T (mkF m pc Ls (w :: rest)) := by
  obtain ⟨fs, hr, hrun, hended, hW, hsame⟩ := X.leave (v := some w) (fun q => by rw [hret] at q; cases q) hlk
  have hn : narrow t w = w := by
    cases t <;> first | (cases ht; done) | (cases w <;> first | rfl | (cases hw; done))
  exact ⟨_, _, retOut X hx hret hn (Or.inr (Or.inr (Or.inr (Or.inr ⟨rfl, ht, hw⟩)))) hd hr, hrun, hended, _, _, rfl, hQ, ⟨_, rfl⟩, hW, hsame.mono hK hN⟩
theorem Go.retV (X : Stand p l e R s m args below meth c T locs cells slots) (hx : p.tables.exec = Jvm.exec) (hlk : meth.locks = false) {pc : Nat} {Ls : Array Slot} (hret : meth.sig.returnType = none) (hd : decode c.code pc = .ok (.return_, 1)) (hK : cells ≤ K) (hN : slots ≤ N)
    (hQ : Q none T.heap locs) : Go p e s below K N Q T (mkF m pc Ls []) := by
  obtain ⟨fs, hr, hrun, hended, hW, hsame⟩ := X.leave (v := none) (fun _ => rfl) hlk
  exact ⟨_, _, X.returnOut hx hret hd hr, hrun, hended, _, _, rfl, hQ, ⟨_, rfl⟩, hW, hsame.mono hK hN⟩
/-- a body's contract in this family -/
def Con (l : Launch) (Z : State) (y : MethodName) (bytes : ByteArray) (maxL : Nat) (ret : Option FieldType) (ws : List Jvm.Cond) (rm : Room) (as' : Array Value) (h : Heap) (Q : Option Value → Heap → List Loc → Prop) : Prop :=
  MetFree l y (head1 (Jvm.Cond.code y bytes maxL ret :: ws) rm) (fun a U => a = as' ∧ Z.Warmed39 U.vm ∧ U.heap = h) (fun _ _ _ _ _ => True) (fun _ U o U' => ∃ v L, o = .returned v ∧ Q v U'.heap L ∧ FrameEnd U o U' L rm.cells rm.slots)
/-- what a walk knows of the body that it walks -/
def Cx (Z : State) (p : Program) (s : State) (m : MethodId) (meth : Method) (c : Code) (own : String) (bytes : ByteArray) (ml : Nat) (nm : String) (rt : Option FieldType) : Prop :=
  p.tables.exec = Jvm.exec ∧ Z.Warmed39 s.vm ∧ s.vm.findClass own = some m.cls ∧ c.code = bytes ∧ c.maxLocals = ml ∧ meth.name = nm ∧ meth.sig.returnType = rt ∧ meth.locks = false
theorem Con.mk {y : MethodName} {bytes : ByteArray} {maxL : Nat} {ret : Option FieldType} {ws : List Jvm.Cond} {rm : Room} {as' : Array Value} (hp : plainFor y = true)
    (body : ∀ p e s m below meth c s₁, Cx Z p s m meth c y.cls bytes maxL y.name ret → Stand p l e rm s m as' below meth c s₁ [] 0 0 → s₁.heap = h → Go p e s below rm.cells rm.slots Q s₁ (entryFrame m as' maxL)) : Con l Z y bytes maxL ret ws rm as' h Q := by
  refine MetFree.of_bodySF hp hisR ?_
  intro p e s m args below meth c s₁ Bd hml0 hP hK
  obtain ⟨rfl, hZ, hh⟩ := hP
  exact body p e s m below meth c s₁ ⟨Bd.exec, hZ, findClass_of_methodNamed Bd.named, Bd.bytes, hml0, (name_of_methodNamed Bd.named Bd.method).1, Bd.returns, Bd.notSynchronized⟩ (Stand.of_body Bd) (by rw [← hh, Bd.state]; rfl)
section Calls
variable {y : MethodName} {bytes : ByteArray} {maxL : Nat} {ret : Option FieldType} {rm : Room} {own : String} {index W : Nat} {argsL rest : List Value} {Q' : Option Value → Heap → List Loc → Prop}
/-- what a call leaves -/
def Called (p : Program) (l : Launch) (e : Env) (R : Room) (s : State) (m : MethodId) (args : Array Value) (below : List Frame) (meth : Method) (c : Code) (locs : List Loc) (cells slots : Nat) (Q' : Option Value → Heap → List Loc → Prop) (T : State) (g : JFrame) (len : Nat) (rest : List Value) : Prop :=
  ∃ v T' L, Stand p l e R s m args below meth c T' (locs ++ L) cells slots ∧ Q' v T'.heap L ∧ ∀ t, Steps p.tables e below (T'.setTop { g with pc := g.pc + len, stack := v.toList ++ rest }) t → Steps p.tables e below (T.setTop g) t
theorem own_callS (X : Stand p l e R s m args below meth c T locs cells slots) (hx : p.tables.exec = Jvm.exec) (hZ : Z.Warmed39 s.vm) (hown : s.vm.findClass own = some m.cls)
    (wl : (Jvm.Cond.methodLink own index y).before a0 Z = true) (wst : (Jvm.Cond.static y).before a0 Z = true) (wi : (Jvm.Cond.initialized y.cls).before a0 Z = true) (wc : (Jvm.Cond.code y bytes maxL ret).before a0 Z = true) (hy : y.cls ≠ "java/lang/invoke/MethodHandle" ∧ y.cls ≠ "java/lang/invoke/VarHandle")
    (hM : Con l Z y bytes maxL ret [] rm argsL.toArray h Q') (eT : T.heap = h) (hg : g.method = m) (hsize : g.locals.size = c.maxLocals) (hlen : ∀ sig, parseMethodDescriptor y.desc = some sig → argsL.length = sig.parameters.length) (hstack : g.stack = argsL.reverse ++ rest)
    (hW : 2 * g.monitorRoom + (rest.map fun v => v.category).sum ≤ W) (hdg : decode c.code g.pc = .ok (.invokestatic index, 3)) (hf : rm.frames + 1 ≤ R.frames) (hl : W + (maxL + 11) + rm.locals ≤ R.locals) (hc : cells + rm.cells ≤ R.cells) (hs : slots + rm.slots ≤ R.slots) :
    Called p l e R s m args below meth c locs (cells + rm.cells) (slots + rm.slots) Q' T g 3 rest := by
  obtain ⟨v, _, ⟨T1, L1, k1, n1⟩, -, X1, ⟨Lc, hQ, l1, y1, z1⟩, st⟩ := Jvm.LawKit.callS X hx (y := y) hown (mvT hZ wl) (mvT hZ wst) (mvT hZ wi) (mvT hZ wc) hy (backOf (W := W) hM hZ wc wi hf hl) hg hsize (argsL := argsL) (rest := rest) hlen hstack hW hdg (fun _ _ => ⟨rfl, eT, hc, hs⟩)
  dsimp only [Pt.U, Pt.locs, Pt.cells, Pt.slots] at X1 l1 y1 z1 st hQ
  subst l1 y1 z1
  exact ⟨v, T1, Lc, X1, hQ, st⟩
theorem own_callI (X : Stand p l e R s m args below meth c T locs cells slots) (hx : p.tables.exec = Jvm.exec) (hZ : Z.Warmed39 s.vm) (hown : s.vm.findClass own = some m.cls) (hin : y.name = "<init>")
    (wl : (Jvm.Cond.methodLink own index y).before a0 Z = true) (wim : (Jvm.Cond.instanceMethod y).before a0 Z = true) (wi : (Jvm.Cond.initialized y.cls).before a0 Z = true) (wc : (Jvm.Cond.code y bytes maxL none).before a0 Z = true) (hy : y.cls ≠ "java/lang/invoke/MethodHandle" ∧ y.cls ≠ "java/lang/invoke/VarHandle")
    {a : Addr} (hM : Con l Z y bytes maxL none [] rm (Value.ref a :: argsL).toArray h Q') (eT : T.heap = h) (hg : g.method = m) (hsize : g.locals.size = c.maxLocals) (hlen : ∀ sig, parseMethodDescriptor y.desc = some sig → argsL.length = sig.parameters.length) (hstack : g.stack = argsL.reverse ++ .ref a :: rest)
    (hW : 2 * g.monitorRoom + (rest.map fun v => v.category).sum ≤ W) (hdg : decode c.code g.pc = .ok (.invokespecial index, 3)) (hf : rm.frames + 1 ≤ R.frames) (hl : W + (maxL + 11) + rm.locals ≤ R.locals) (hc : cells + rm.cells ≤ R.cells) (hs : slots + rm.slots ≤ R.slots) :
    Called p l e R s m args below meth c locs (cells + rm.cells) (slots + rm.slots) Q' T g 3 rest := by
  obtain ⟨v, _, ⟨T1, L1, k1, n1⟩, -, X1, ⟨Lc, hQ, l1, y1, z1⟩, st⟩ := X.specialBack hx (y := y) hin hown (mvT hZ wl) (mvT hZ wim) (mvT hZ wc) hy (backOf (W := W) hM hZ wc wi hf hl) hg hsize (Steps.refl _) (a := a) (argsL := argsL) (rest := rest) hlen hstack hW hdg (fun _ _ => ⟨rfl, eT, hc, hs⟩)
  dsimp only [Pt.U, Pt.locs, Pt.cells, Pt.slots] at X1 l1 y1 z1 st hQ
  subst l1 y1 z1
  exact ⟨v, T1, Lc, X1, hQ, fun _ hr => st.trans hr⟩
theorem own_callV (X : Stand p l e R s m args below meth c T locs cells slots) (hx : p.tables.exec = Jvm.exec) (hZ : Z.Warmed39 s.vm) (hown : s.vm.findClass own = some m.cls) {z : MethodName} {C : String}
    (wl : (Jvm.Cond.methodLink own index y).before a0 Z = true) (wd : (Jvm.Cond.declares y).before a0 Z = true) (nf : NotFace s y) (wsel : (Jvm.Cond.selects C y z).before a0 Z = true) (wim : (Jvm.Cond.instanceMethod z).before a0 Z = true) (wi : (Jvm.Cond.initialized z.cls).before a0 Z = true) (wc : (Jvm.Cond.code z bytes maxL ret).before a0 Z = true) (hy : y.cls ≠ "java/lang/invoke/MethodHandle" ∧ y.cls ≠ "java/lang/invoke/VarHandle")
    {a : Addr} (E : Exa Z h a C) (hM : Con l Z z bytes maxL ret [] rm (Value.ref a :: argsL).toArray h Q') (eT : T.heap = h) (hg : g.method = m) (hsize : g.locals.size = c.maxLocals) (hlen : ∀ sig, parseMethodDescriptor y.desc = some sig → argsL.length = sig.parameters.length) (hstack : g.stack = argsL.reverse ++ .ref a :: rest)
    (hW : 2 * g.monitorRoom + (rest.map fun v => v.category).sum ≤ W) (hdg : decode c.code g.pc = .ok (.invokevirtual index, 3)) (hf : rm.frames + 1 ≤ R.frames) (hl : W + (maxL + 11) + rm.locals ≤ R.locals) (hc : cells + rm.cells ≤ R.cells) (hs : slots + rm.slots ≤ R.slots) :
    Called p l e R s m args below meth c locs (cells + rm.cells) (slots + rm.slots) Q' T g 3 rest := by
  obtain ⟨cq, kq, qa, qb, qc⟩ := isOf hZ eT E
  obtain ⟨v, _, ⟨T1, L1, k1, n1⟩, -, X1, ⟨Lc, hQ, l1, y1, z1⟩, st⟩ := X.virtualBack hx (y := y) (z := z) hown (mvT hZ wl) (mvT hZ wd) nf (mvT hZ wsel) (mvT hZ wim) hy (backOf (W := W) hM hZ wc wi hf hl) qa qc hg hsize (Steps.refl _) (argsL := argsL) (rest := rest) hlen hstack hW hdg (fun _ _ => ⟨rfl, eT, hc, hs⟩)
  dsimp only [Pt.U, Pt.locs, Pt.cells, Pt.slots] at X1 l1 y1 z1 st hQ
  subst l1 y1 z1
  exact ⟨v, T1, Lc, X1, hQ, fun _ hr => st.trans hr⟩
/-- an inherited method, by the class that the entry names -/
theorem own_callU (X : Stand p l e R s m args below meth c T locs cells slots) (hx : p.tables.exec = Jvm.exec) (hZ : Z.Warmed39 s.vm) (hown : s.vm.findClass own = some m.cls) {z : MethodName} {C owner : String}
    (wl : (Jvm.Cond.methodLink own index y).before a0 Z = true) (wsm : (Jvm.Cond.sameMethod y.cls owner y.name y.desc).before a0 Z = true) (wd : (Jvm.Cond.declares ⟨owner, y.name, y.desc⟩).before a0 Z = true) (wsel : (Jvm.Cond.selects C y z).before a0 Z = true) (wim : (Jvm.Cond.instanceMethod z).before a0 Z = true) (wi : (Jvm.Cond.initialized z.cls).before a0 Z = true) (wc : (Jvm.Cond.code z bytes maxL ret).before a0 Z = true) (ho : owner ≠ "java/lang/invoke/MethodHandle" ∧ owner ≠ "java/lang/invoke/VarHandle")
    {a : Addr} (E : Exa Z h a C) (hM : Con l Z z bytes maxL ret [] rm (Value.ref a :: argsL).toArray h Q') (eT : T.heap = h) (hg : g.method = m) (hsize : g.locals.size = c.maxLocals) (hlen : ∀ sig, parseMethodDescriptor y.desc = some sig → argsL.length = sig.parameters.length) (hstack : g.stack = argsL.reverse ++ .ref a :: rest)
    (hW : 2 * g.monitorRoom + (rest.map fun v => v.category).sum ≤ W) (hdg : decode c.code g.pc = .ok (.invokevirtual index, 3)) (hf : rm.frames + 1 ≤ R.frames) (hl : W + (maxL + 11) + rm.locals ≤ R.locals) (hc : cells + rm.cells ≤ R.cells) (hs : slots + rm.slots ≤ R.slots) :
    Called p l e R s m args below meth c locs (cells + rm.cells) (slots + rm.slots) Q' T g 3 rest := by
  obtain ⟨cq, kq, qa, qb, cellB, hcellT, hclsB, hstatB⟩ := isOf hZ eT E
  obtain ⟨r0, r, hn, hrm, hstR, hsigR⟩ := Cond.declares_spec (mv (args := args) hZ wd)
  obtain ⟨mk, methM, hnamed, hmethM, -, habM⟩ := Cond.instanceMethod_spec (mv (args := args) hZ wim)
  obtain ⟨c2, r2, m2, q1, q2, q3, q4, kP, hkP, hkPi⟩ := Cond.selects_spec (mv (args := args) hZ wsel)
  obtain ⟨cn, ck, r1, hcn, hck, hni, hfd, hn1⟩ := Cond.sameMethod_found (mv (args := args) hZ wsm)
  cases qa.symm.trans q1
  cases hn.symm.trans hn1
  cases hfd.symm.trans q2
  cases hnamed.symm.trans q3
  have hselP : selectMethod e.platform s.vm cellB.cls r0 = .method mk := by rw [Launch.admits_selectMethod X.admits, hclsB]; exact q4
  obtain ⟨vm₁, X₁, hstep₁⟩ := X.invokevirtualUp hx hown (mv hZ wl) (mv hZ wsm) ho hn hrm hstR (a := a) (cell := cellB) hcellT
    (fun z h => by rw [h] at hstatB; cases hstatB) hselP hmethM habM hkP hkPi (g := g) hg (argsL := argsL) (rest := rest) (hlen _ hsigR) hstack hdg
  obtain ⟨v, ⟨T1, L1, k1, n1⟩, X1, ⟨Lc, hQ, l1, y1, z1⟩, st⟩ := (backOf (p := p) (e := e) (below := below) (s := s) (args := args) (len := 3) (W := W) hM hZ wc wi hf hl) m meth c ⟨T.setVm vm₁, locs, cells, slots⟩ { g with stack := rest } (.invokevirtual index) mk (.ref a :: argsL).toArray X₁ hg hsize hdg hW (X₁.named hnamed) ⟨rfl, eT, hc, hs⟩
  dsimp only [Pt.U, Pt.locs, Pt.cells, Pt.slots] at X1 l1 y1 z1 st hQ
  subst l1 y1 z1
  exact ⟨v, T1, Lc, X1, hQ, fun t hr => hstep₁ _ fun acts => by rw [doInvoke_state]; exact st.trans hr⟩
end Calls
/-- an equation of the case's words -/
theorem own_eqI {t : Term} {n : Int32} (q : (Jvm.Cond.eq t (.int n)).value args s none s [] = some true) : t.eval args s none [] s = some (.int n) := by
  cases ha : t.eval args s none [] s with
  | none => simp [Cond.value, ha] at q
  | some x => cases x <;> simp [Cond.value, Term.eval, ha] at q ⊢; exact q
end OwnKit

def selP (k : Int32) (w_ADD w_SUBTRACT w_MULTIPLY w_DIVIDE w_REMAINDER w_LESS w_LESS_EQUAL w_GREATER w_GREATER_EQUAL w_EQUAL w_NOT_EQUAL : Addr) : Addr := if k = 0 then w_ADD else if k = 1 then w_SUBTRACT else if k = 2 then w_MULTIPLY else if k = 3 then w_DIVIDE else if k = 4 then w_REMAINDER else if k = 5 then w_LESS else if k = 6 then w_LESS_EQUAL else if k = 7 then w_GREATER else if k = 8 then w_GREATER_EQUAL else if k = 9 then w_EQUAL else w_NOT_EQUAL
theorem selP_exa {Z : State} {h0 : Heap} {k : Int32} {w_ADD w_SUBTRACT w_MULTIPLY w_DIVIDE w_REMAINDER w_LESS w_LESS_EQUAL w_GREATER w_GREATER_EQUAL w_EQUAL w_NOT_EQUAL : Addr} (E_ADD : Exa Z h0 w_ADD "com/example/liken2/liken2/frontend/BinaryOperator") (E_SUBTRACT : Exa Z h0 w_SUBTRACT "com/example/liken2/liken2/frontend/BinaryOperator") (E_MULTIPLY : Exa Z h0 w_MULTIPLY "com/example/liken2/liken2/frontend/BinaryOperator") (E_DIVIDE : Exa Z h0 w_DIVIDE "com/example/liken2/liken2/frontend/BinaryOperator") (E_REMAINDER : Exa Z h0 w_REMAINDER "com/example/liken2/liken2/frontend/BinaryOperator") (E_LESS : Exa Z h0 w_LESS "com/example/liken2/liken2/frontend/BinaryOperator") (E_LESS_EQUAL : Exa Z h0 w_LESS_EQUAL "com/example/liken2/liken2/frontend/BinaryOperator") (E_GREATER : Exa Z h0 w_GREATER "com/example/liken2/liken2/frontend/BinaryOperator") (E_GREATER_EQUAL : Exa Z h0 w_GREATER_EQUAL "com/example/liken2/liken2/frontend/BinaryOperator") (E_EQUAL : Exa Z h0 w_EQUAL "com/example/liken2/liken2/frontend/BinaryOperator") (E_NOT_EQUAL : Exa Z h0 w_NOT_EQUAL "com/example/liken2/liken2/frontend/BinaryOperator") : Exa Z h0 (selP k w_ADD w_SUBTRACT w_MULTIPLY w_DIVIDE w_REMAINDER w_LESS w_LESS_EQUAL w_GREATER w_GREATER_EQUAL w_EQUAL w_NOT_EQUAL) "com/example/liken2/liken2/frontend/BinaryOperator" := by
  unfold selP
  by_cases h0 : k = 0
  · simp only [if_pos h0]; exact E_ADD
  simp only [if_neg h0]
  by_cases h1 : k = 1
  · simp only [if_pos h1]; exact E_SUBTRACT
  simp only [if_neg h1]
  by_cases h2 : k = 2
  · simp only [if_pos h2]; exact E_MULTIPLY
  simp only [if_neg h2]
  by_cases h3 : k = 3
  · simp only [if_pos h3]; exact E_DIVIDE
  simp only [if_neg h3]
  by_cases h4 : k = 4
  · simp only [if_pos h4]; exact E_REMAINDER
  simp only [if_neg h4]
  by_cases h5 : k = 5
  · simp only [if_pos h5]; exact E_LESS
  simp only [if_neg h5]
  by_cases h6 : k = 6
  · simp only [if_pos h6]; exact E_LESS_EQUAL
  simp only [if_neg h6]
  by_cases h7 : k = 7
  · simp only [if_pos h7]; exact E_GREATER
  simp only [if_neg h7]
  by_cases h8 : k = 8
  · simp only [if_pos h8]; exact E_GREATER_EQUAL
  simp only [if_neg h8]
  by_cases h9 : k = 9
  · simp only [if_pos h9]; exact E_EQUAL
  simp only [if_neg h9]
  exact E_NOT_EQUAL
def ordP (k : Int32) : Int32 := if k = 0 then 0 else if k = 1 then 1 else if k = 2 then 2 else if k = 3 then 3 else if k = 4 then 4 else if k = 5 then 5 else if k = 6 then 6 else if k = 7 then 7 else if k = 8 then 8 else if k = 9 then 9 else 10
theorem selP_ord {Z : State} {h0 : Heap} {k : Int32} {w_ADD w_SUBTRACT w_MULTIPLY w_DIVIDE w_REMAINDER w_LESS w_LESS_EQUAL w_GREATER w_GREATER_EQUAL w_EQUAL w_NOT_EQUAL : Addr} (O_ADD : Fld Z h0 w_ADD "java/lang/Enum" "ordinal" "I" (.int (0 : Int32))) (O_SUBTRACT : Fld Z h0 w_SUBTRACT "java/lang/Enum" "ordinal" "I" (.int (1 : Int32))) (O_MULTIPLY : Fld Z h0 w_MULTIPLY "java/lang/Enum" "ordinal" "I" (.int (2 : Int32))) (O_DIVIDE : Fld Z h0 w_DIVIDE "java/lang/Enum" "ordinal" "I" (.int (3 : Int32))) (O_REMAINDER : Fld Z h0 w_REMAINDER "java/lang/Enum" "ordinal" "I" (.int (4 : Int32))) (O_LESS : Fld Z h0 w_LESS "java/lang/Enum" "ordinal" "I" (.int (5 : Int32))) (O_LESS_EQUAL : Fld Z h0 w_LESS_EQUAL "java/lang/Enum" "ordinal" "I" (.int (6 : Int32))) (O_GREATER : Fld Z h0 w_GREATER "java/lang/Enum" "ordinal" "I" (.int (7 : Int32))) (O_GREATER_EQUAL : Fld Z h0 w_GREATER_EQUAL "java/lang/Enum" "ordinal" "I" (.int (8 : Int32))) (O_EQUAL : Fld Z h0 w_EQUAL "java/lang/Enum" "ordinal" "I" (.int (9 : Int32))) (O_NOT_EQUAL : Fld Z h0 w_NOT_EQUAL "java/lang/Enum" "ordinal" "I" (.int (10 : Int32))) : Fld Z h0 (selP k w_ADD w_SUBTRACT w_MULTIPLY w_DIVIDE w_REMAINDER w_LESS w_LESS_EQUAL w_GREATER w_GREATER_EQUAL w_EQUAL w_NOT_EQUAL) "java/lang/Enum" "ordinal" "I" (.int (ordP k)) := by
  unfold selP ordP
  by_cases h0 : k = 0
  · simp only [if_pos h0]; exact O_ADD
  simp only [if_neg h0]
  by_cases h1 : k = 1
  · simp only [if_pos h1]; exact O_SUBTRACT
  simp only [if_neg h1]
  by_cases h2 : k = 2
  · simp only [if_pos h2]; exact O_MULTIPLY
  simp only [if_neg h2]
  by_cases h3 : k = 3
  · simp only [if_pos h3]; exact O_DIVIDE
  simp only [if_neg h3]
  by_cases h4 : k = 4
  · simp only [if_pos h4]; exact O_REMAINDER
  simp only [if_neg h4]
  by_cases h5 : k = 5
  · simp only [if_pos h5]; exact O_LESS
  simp only [if_neg h5]
  by_cases h6 : k = 6
  · simp only [if_pos h6]; exact O_LESS_EQUAL
  simp only [if_neg h6]
  by_cases h7 : k = 7
  · simp only [if_pos h7]; exact O_GREATER
  simp only [if_neg h7]
  by_cases h8 : k = 8
  · simp only [if_pos h8]; exact O_GREATER_EQUAL
  simp only [if_neg h8]
  by_cases h9 : k = 9
  · simp only [if_pos h9]; exact O_EQUAL
  simp only [if_neg h9]
  exact O_NOT_EQUAL

def exB (k : Int32) : Int32 := if k = 0 then 0 else if k = 1 then 0 else if k = 2 then 0 else if k = 3 then 0 else if k = 4 then 0 else 1
theorem ord_ex {k : Int32} : (if ordP k < 5 then (0 : Int32) else 1) = exB k := by
  unfold ordP exB
  by_cases h0 : k = 0
  · subst h0; decide
  by_cases h1 : k = 1
  · subst h1; decide
  by_cases h2 : k = 2
  · subst h2; decide
  by_cases h3 : k = 3
  · subst h3; decide
  by_cases h4 : k = 4
  · subst h4; decide
  simp only [if_neg h0, if_neg h1, if_neg h2, if_neg h3, if_neg h4]
  repeat' split
  all_goals first | rfl | (exfalso; rename_i q; revert q; decide)

theorem pn0 : plainName "com/example/liken2/liken2/frontend/BinaryOperatorIsComparisonPinLaw" = true := by first | (simp [plainName, overriddenIn]; done) | decide +kernel
theorem d1_0 : decode method_2_code 0 = .ok (.iload_n 0, 1) := by decide +kernel
theorem d1_1 : decode method_2_code 1 = .ok (.ifCond .ne 7, 3) := by decide +kernel
theorem d1_4 : decode method_2_code 4 = .ok (.getstatic 7, 3) := by decide +kernel
theorem d1_7 : decode method_2_code 7 = .ok (.areturn, 1) := by decide +kernel
theorem d1_8 : decode method_2_code 8 = .ok (.iload_n 0, 1) := by decide +kernel
theorem d1_9 : decode method_2_code 9 = .ok (.iconst 1, 1) := by decide +kernel
theorem d1_10 : decode method_2_code 10 = .ok (.if_icmp .ne 7, 3) := by decide +kernel
theorem d1_13 : decode method_2_code 13 = .ok (.getstatic 13, 3) := by decide +kernel
theorem d1_16 : decode method_2_code 16 = .ok (.areturn, 1) := by decide +kernel
theorem d1_17 : decode method_2_code 17 = .ok (.iload_n 0, 1) := by decide +kernel
theorem d1_18 : decode method_2_code 18 = .ok (.iconst 2, 1) := by decide +kernel
theorem d1_19 : decode method_2_code 19 = .ok (.if_icmp .ne 7, 3) := by decide +kernel
theorem d1_22 : decode method_2_code 22 = .ok (.getstatic 16, 3) := by decide +kernel
theorem d1_25 : decode method_2_code 25 = .ok (.areturn, 1) := by decide +kernel
theorem d1_26 : decode method_2_code 26 = .ok (.iload_n 0, 1) := by decide +kernel
theorem d1_27 : decode method_2_code 27 = .ok (.iconst 3, 1) := by decide +kernel
theorem d1_28 : decode method_2_code 28 = .ok (.if_icmp .ne 7, 3) := by decide +kernel
theorem d1_31 : decode method_2_code 31 = .ok (.getstatic 19, 3) := by decide +kernel
theorem d1_34 : decode method_2_code 34 = .ok (.areturn, 1) := by decide +kernel
theorem d1_35 : decode method_2_code 35 = .ok (.iload_n 0, 1) := by decide +kernel
theorem d1_36 : decode method_2_code 36 = .ok (.iconst 4, 1) := by decide +kernel
theorem d1_37 : decode method_2_code 37 = .ok (.if_icmp .ne 7, 3) := by decide +kernel
theorem d1_40 : decode method_2_code 40 = .ok (.getstatic 22, 3) := by decide +kernel
theorem d1_43 : decode method_2_code 43 = .ok (.areturn, 1) := by decide +kernel
theorem d1_44 : decode method_2_code 44 = .ok (.iload_n 0, 1) := by decide +kernel
theorem d1_45 : decode method_2_code 45 = .ok (.iconst 5, 1) := by decide +kernel
theorem d1_46 : decode method_2_code 46 = .ok (.if_icmp .ne 7, 3) := by decide +kernel
theorem d1_49 : decode method_2_code 49 = .ok (.getstatic 25, 3) := by decide +kernel
theorem d1_52 : decode method_2_code 52 = .ok (.areturn, 1) := by decide +kernel
theorem d1_53 : decode method_2_code 53 = .ok (.iload_n 0, 1) := by decide +kernel
theorem d1_54 : decode method_2_code 54 = .ok (.bipush 6, 2) := by decide +kernel
theorem d1_56 : decode method_2_code 56 = .ok (.if_icmp .ne 7, 3) := by decide +kernel
theorem d1_59 : decode method_2_code 59 = .ok (.getstatic 28, 3) := by decide +kernel
theorem d1_62 : decode method_2_code 62 = .ok (.areturn, 1) := by decide +kernel
theorem d1_63 : decode method_2_code 63 = .ok (.iload_n 0, 1) := by decide +kernel
theorem d1_64 : decode method_2_code 64 = .ok (.bipush 7, 2) := by decide +kernel
theorem d1_66 : decode method_2_code 66 = .ok (.if_icmp .ne 7, 3) := by decide +kernel
theorem d1_69 : decode method_2_code 69 = .ok (.getstatic 31, 3) := by decide +kernel
theorem d1_72 : decode method_2_code 72 = .ok (.areturn, 1) := by decide +kernel
theorem d1_73 : decode method_2_code 73 = .ok (.iload_n 0, 1) := by decide +kernel
theorem d1_74 : decode method_2_code 74 = .ok (.bipush 8, 2) := by decide +kernel
theorem d1_76 : decode method_2_code 76 = .ok (.if_icmp .ne 7, 3) := by decide +kernel
theorem d1_79 : decode method_2_code 79 = .ok (.getstatic 34, 3) := by decide +kernel
theorem d1_82 : decode method_2_code 82 = .ok (.areturn, 1) := by decide +kernel
theorem d1_83 : decode method_2_code 83 = .ok (.iload_n 0, 1) := by decide +kernel
theorem d1_84 : decode method_2_code 84 = .ok (.bipush 9, 2) := by decide +kernel
theorem d1_86 : decode method_2_code 86 = .ok (.if_icmp .ne 7, 3) := by decide +kernel
theorem d1_89 : decode method_2_code 89 = .ok (.getstatic 37, 3) := by decide +kernel
theorem d1_92 : decode method_2_code 92 = .ok (.areturn, 1) := by decide +kernel
theorem d1_93 : decode method_2_code 93 = .ok (.getstatic 40, 3) := by decide +kernel
theorem d1_96 : decode method_2_code 96 = .ok (.areturn, 1) := by decide +kernel
set_option maxRecDepth 65536 in
set_option maxHeartbeats 40000000 in
theorem rm1 (l : Launch) (Z : State) (a0 : Array Value) (hw : ∀ d ∈ tables_1, d.before a0 Z = true) (ws : List Jvm.Cond) (k : Int32) (w_ADD w_SUBTRACT w_MULTIPLY w_DIVIDE w_REMAINDER w_LESS w_LESS_EQUAL w_GREATER w_GREATER_EQUAL w_EQUAL w_NOT_EQUAL : Addr) (h0 : Heap) (n0 : Nat) (Z0 : n0 ≤ h0.size) (S_ADD : Sta Z h0 "com/example/liken2/liken2/frontend/BinaryOperator" "ADD" "Lcom/example/liken2/liken2/frontend/BinaryOperator;" (.ref w_ADD)) (S_SUBTRACT : Sta Z h0 "com/example/liken2/liken2/frontend/BinaryOperator" "SUBTRACT" "Lcom/example/liken2/liken2/frontend/BinaryOperator;" (.ref w_SUBTRACT)) (S_MULTIPLY : Sta Z h0 "com/example/liken2/liken2/frontend/BinaryOperator" "MULTIPLY" "Lcom/example/liken2/liken2/frontend/BinaryOperator;" (.ref w_MULTIPLY)) (S_DIVIDE : Sta Z h0 "com/example/liken2/liken2/frontend/BinaryOperator" "DIVIDE" "Lcom/example/liken2/liken2/frontend/BinaryOperator;" (.ref w_DIVIDE)) (S_REMAINDER : Sta Z h0 "com/example/liken2/liken2/frontend/BinaryOperator" "REMAINDER" "Lcom/example/liken2/liken2/frontend/BinaryOperator;" (.ref w_REMAINDER)) (S_LESS : Sta Z h0 "com/example/liken2/liken2/frontend/BinaryOperator" "LESS" "Lcom/example/liken2/liken2/frontend/BinaryOperator;" (.ref w_LESS)) (S_LESS_EQUAL : Sta Z h0 "com/example/liken2/liken2/frontend/BinaryOperator" "LESS_EQUAL" "Lcom/example/liken2/liken2/frontend/BinaryOperator;" (.ref w_LESS_EQUAL)) (S_GREATER : Sta Z h0 "com/example/liken2/liken2/frontend/BinaryOperator" "GREATER" "Lcom/example/liken2/liken2/frontend/BinaryOperator;" (.ref w_GREATER)) (S_GREATER_EQUAL : Sta Z h0 "com/example/liken2/liken2/frontend/BinaryOperator" "GREATER_EQUAL" "Lcom/example/liken2/liken2/frontend/BinaryOperator;" (.ref w_GREATER_EQUAL)) (S_EQUAL : Sta Z h0 "com/example/liken2/liken2/frontend/BinaryOperator" "EQUAL" "Lcom/example/liken2/liken2/frontend/BinaryOperator;" (.ref w_EQUAL)) (S_NOT_EQUAL : Sta Z h0 "com/example/liken2/liken2/frontend/BinaryOperator" "NOT_EQUAL" "Lcom/example/liken2/liken2/frontend/BinaryOperator;" (.ref w_NOT_EQUAL)) :
    Con l Z (⟨"com/example/liken2/liken2/frontend/BinaryOperatorIsComparisonPinLaw", "pick", "(I)Lcom/example/liken2/liken2/frontend/BinaryOperator;"⟩ : MethodName) method_2_code 1 (some (.object "com/example/liken2/liken2/frontend/BinaryOperator")) ws ({ frames := 0, cells := 0, slots := 0, locals := 0 } : Room) #[(.int k)] h0 (fun v h L => v = some (.ref (selP k w_ADD w_SUBTRACT w_MULTIPLY w_DIVIDE w_REMAINDER w_LESS w_LESS_EQUAL w_GREATER w_GREATER_EQUAL w_EQUAL w_NOT_EQUAL)) ∧ Fr n0 L ∧ h = h0) := by
  refine Con.mk (plainFor_of_name pn0) ?_
  intro p e s m below meth c s₁ Cc X0 e0
  obtain ⟨hx, hZ, hown, hby, hml, hnm, hret, hlk⟩ := Cc
  have N0 := Fr.nil n0
  show Go p e s below _ _ _ s₁ (mkF m 0 #[.val (.int k)] [])
  refine Go.of (fun _ hr => XS.iloadN X0.here hx rfl (hb hby d1_0) rfl  hr) ?_
  show Go p e s below _ _ _ s₁ (mkF m 1 #[.val (.int k)] [(.int k)])
  by_cases hb1_101 : k = (0 : Int32)
  · refine Go.of (fun _ hr => XS.ifNo X0.here hx rfl (hb hby d1_1) rfl ((if0 _ _).trans (teq hb1_101).2) hr) ?_
    show Go p e s below _ _ _ s₁ (mkF m 4 #[.val (.int k)] [])
    obtain ⟨T102, X102, e102, st102⟩ := getS2 X0 hx hZ hown (host := "") (Or.inl (hw _ (List.mem_of_getElem? (i := 5) rfl))) Via.refl e0 S_ADD (g := (mkF m 4 #[.val (.int k)] [])) rfl (hb hby d1_4)
    refine Go.of (fun _ hr => st102 _ hr) ?_
    show Go p e s below _ _ _ T102 (mkF m 7 #[.val (.int k)] [(.ref w_ADD)])
    exact Go.retA X102 hx hlk hret rfl rfl (hb hby d1_7) (by decide) (by decide) ⟨by simp [selP, hb1_101], N0, e102⟩
  · refine Go.of (fun _ hr => XS.ifYes X0.here hx rfl (pc0 := 1) (pc' := 8) rfl (hb hby d1_1) rfl ((if0 _ _).trans (feq hb1_101).2) (by decide) (by decide) hr) ?_
    show Go p e s below _ _ _ s₁ (mkF m 8 #[.val (.int k)] [])
    refine Go.of (fun _ hr => XS.iloadN X0.here hx rfl (hb hby d1_8) rfl  hr) ?_
    show Go p e s below _ _ _ s₁ (mkF m 9 #[.val (.int k)] [(.int k)])
    refine Go.of (fun _ hr => XS.iconst X0.here hx rfl (hb hby d1_9) hr) ?_
    show Go p e s below _ _ _ s₁ (mkF m 10 #[.val (.int k)] [(.int (1 : Int32)), (.int k)])
    by_cases hb10_103 : k = (1 : Int32)
    · refine Go.of (fun _ hr => XS.icmpNo X0.here hx rfl (hb hby d1_10) rfl (teq hb10_103).2 hr) ?_
      show Go p e s below _ _ _ s₁ (mkF m 13 #[.val (.int k)] [])
      obtain ⟨T104, X104, e104, st104⟩ := getS2 X0 hx hZ hown (host := "") (Or.inl (hw _ (List.mem_of_getElem? (i := 37) rfl))) Via.refl e0 S_SUBTRACT (g := (mkF m 13 #[.val (.int k)] [])) rfl (hb hby d1_13)
      refine Go.of (fun _ hr => st104 _ hr) ?_
      show Go p e s below _ _ _ T104 (mkF m 16 #[.val (.int k)] [(.ref w_SUBTRACT)])
      exact Go.retA X104 hx hlk hret rfl rfl (hb hby d1_16) (by decide) (by decide) ⟨by simp [selP, hb1_101, hb10_103], N0, e104⟩
    · refine Go.of (fun _ hr => XS.icmpYes X0.here hx rfl (pc0 := 10) (pc' := 17) rfl (hb hby d1_10) rfl (feq hb10_103).2 (by decide) (by decide) hr) ?_
      show Go p e s below _ _ _ s₁ (mkF m 17 #[.val (.int k)] [])
      refine Go.of (fun _ hr => XS.iloadN X0.here hx rfl (hb hby d1_17) rfl  hr) ?_
      show Go p e s below _ _ _ s₁ (mkF m 18 #[.val (.int k)] [(.int k)])
      refine Go.of (fun _ hr => XS.iconst X0.here hx rfl (hb hby d1_18) hr) ?_
      show Go p e s below _ _ _ s₁ (mkF m 19 #[.val (.int k)] [(.int (2 : Int32)), (.int k)])
      by_cases hb19_105 : k = (2 : Int32)
      · refine Go.of (fun _ hr => XS.icmpNo X0.here hx rfl (hb hby d1_19) rfl (teq hb19_105).2 hr) ?_
        show Go p e s below _ _ _ s₁ (mkF m 22 #[.val (.int k)] [])
        obtain ⟨T106, X106, e106, st106⟩ := getS2 X0 hx hZ hown (host := "") (Or.inl (hw _ (List.mem_of_getElem? (i := 33) rfl))) Via.refl e0 S_MULTIPLY (g := (mkF m 22 #[.val (.int k)] [])) rfl (hb hby d1_22)
        refine Go.of (fun _ hr => st106 _ hr) ?_
        show Go p e s below _ _ _ T106 (mkF m 25 #[.val (.int k)] [(.ref w_MULTIPLY)])
        exact Go.retA X106 hx hlk hret rfl rfl (hb hby d1_25) (by decide) (by decide) ⟨by simp [selP, hb1_101, hb10_103, hb19_105], N0, e106⟩
      · refine Go.of (fun _ hr => XS.icmpYes X0.here hx rfl (pc0 := 19) (pc' := 26) rfl (hb hby d1_19) rfl (feq hb19_105).2 (by decide) (by decide) hr) ?_
        show Go p e s below _ _ _ s₁ (mkF m 26 #[.val (.int k)] [])
        refine Go.of (fun _ hr => XS.iloadN X0.here hx rfl (hb hby d1_26) rfl  hr) ?_
        show Go p e s below _ _ _ s₁ (mkF m 27 #[.val (.int k)] [(.int k)])
        refine Go.of (fun _ hr => XS.iconst X0.here hx rfl (hb hby d1_27) hr) ?_
        show Go p e s below _ _ _ s₁ (mkF m 28 #[.val (.int k)] [(.int (3 : Int32)), (.int k)])
        by_cases hb28_107 : k = (3 : Int32)
        · refine Go.of (fun _ hr => XS.icmpNo X0.here hx rfl (hb hby d1_28) rfl (teq hb28_107).2 hr) ?_
          show Go p e s below _ _ _ s₁ (mkF m 31 #[.val (.int k)] [])
          obtain ⟨T108, X108, e108, st108⟩ := getS2 X0 hx hZ hown (host := "") (Or.inl (hw _ (List.mem_of_getElem? (i := 27) rfl))) Via.refl e0 S_DIVIDE (g := (mkF m 31 #[.val (.int k)] [])) rfl (hb hby d1_31)
          refine Go.of (fun _ hr => st108 _ hr) ?_
          show Go p e s below _ _ _ T108 (mkF m 34 #[.val (.int k)] [(.ref w_DIVIDE)])
          exact Go.retA X108 hx hlk hret rfl rfl (hb hby d1_34) (by decide) (by decide) ⟨by simp [selP, hb1_101, hb10_103, hb19_105, hb28_107], N0, e108⟩
        · refine Go.of (fun _ hr => XS.icmpYes X0.here hx rfl (pc0 := 28) (pc' := 35) rfl (hb hby d1_28) rfl (feq hb28_107).2 (by decide) (by decide) hr) ?_
          show Go p e s below _ _ _ s₁ (mkF m 35 #[.val (.int k)] [])
          refine Go.of (fun _ hr => XS.iloadN X0.here hx rfl (hb hby d1_35) rfl  hr) ?_
          show Go p e s below _ _ _ s₁ (mkF m 36 #[.val (.int k)] [(.int k)])
          refine Go.of (fun _ hr => XS.iconst X0.here hx rfl (hb hby d1_36) hr) ?_
          show Go p e s below _ _ _ s₁ (mkF m 37 #[.val (.int k)] [(.int (4 : Int32)), (.int k)])
          by_cases hb37_109 : k = (4 : Int32)
          · refine Go.of (fun _ hr => XS.icmpNo X0.here hx rfl (hb hby d1_37) rfl (teq hb37_109).2 hr) ?_
            show Go p e s below _ _ _ s₁ (mkF m 40 #[.val (.int k)] [])
            obtain ⟨T110, X110, e110, st110⟩ := getS2 X0 hx hZ hown (host := "") (Or.inl (hw _ (List.mem_of_getElem? (i := 44) rfl))) Via.refl e0 S_REMAINDER (g := (mkF m 40 #[.val (.int k)] [])) rfl (hb hby d1_40)
            refine Go.of (fun _ hr => st110 _ hr) ?_
            show Go p e s below _ _ _ T110 (mkF m 43 #[.val (.int k)] [(.ref w_REMAINDER)])
            exact Go.retA X110 hx hlk hret rfl rfl (hb hby d1_43) (by decide) (by decide) ⟨by simp [selP, hb1_101, hb10_103, hb19_105, hb28_107, hb37_109], N0, e110⟩
          · refine Go.of (fun _ hr => XS.icmpYes X0.here hx rfl (pc0 := 37) (pc' := 44) rfl (hb hby d1_37) rfl (feq hb37_109).2 (by decide) (by decide) hr) ?_
            show Go p e s below _ _ _ s₁ (mkF m 44 #[.val (.int k)] [])
            refine Go.of (fun _ hr => XS.iloadN X0.here hx rfl (hb hby d1_44) rfl  hr) ?_
            show Go p e s below _ _ _ s₁ (mkF m 45 #[.val (.int k)] [(.int k)])
            refine Go.of (fun _ hr => XS.iconst X0.here hx rfl (hb hby d1_45) hr) ?_
            show Go p e s below _ _ _ s₁ (mkF m 46 #[.val (.int k)] [(.int (5 : Int32)), (.int k)])
            by_cases hb46_111 : k = (5 : Int32)
            · refine Go.of (fun _ hr => XS.icmpNo X0.here hx rfl (hb hby d1_46) rfl (teq hb46_111).2 hr) ?_
              show Go p e s below _ _ _ s₁ (mkF m 49 #[.val (.int k)] [])
              obtain ⟨T112, X112, e112, st112⟩ := getS2 X0 hx hZ hown (host := "") (Or.inl (hw _ (List.mem_of_getElem? (i := 41) rfl))) Via.refl e0 S_LESS (g := (mkF m 49 #[.val (.int k)] [])) rfl (hb hby d1_49)
              refine Go.of (fun _ hr => st112 _ hr) ?_
              show Go p e s below _ _ _ T112 (mkF m 52 #[.val (.int k)] [(.ref w_LESS)])
              exact Go.retA X112 hx hlk hret rfl rfl (hb hby d1_52) (by decide) (by decide) ⟨by simp [selP, hb1_101, hb10_103, hb19_105, hb28_107, hb37_109, hb46_111], N0, e112⟩
            · refine Go.of (fun _ hr => XS.icmpYes X0.here hx rfl (pc0 := 46) (pc' := 53) rfl (hb hby d1_46) rfl (feq hb46_111).2 (by decide) (by decide) hr) ?_
              show Go p e s below _ _ _ s₁ (mkF m 53 #[.val (.int k)] [])
              refine Go.of (fun _ hr => XS.iloadN X0.here hx rfl (hb hby d1_53) rfl  hr) ?_
              show Go p e s below _ _ _ s₁ (mkF m 54 #[.val (.int k)] [(.int k)])
              refine Go.of (fun _ hr => XS.bipush X0.here hx rfl (hb hby d1_54) hr) ?_
              show Go p e s below _ _ _ s₁ (mkF m 56 #[.val (.int k)] [(.int (6 : Int32)), (.int k)])
              by_cases hb56_113 : k = (6 : Int32)
              · refine Go.of (fun _ hr => XS.icmpNo X0.here hx rfl (hb hby d1_56) rfl (teq hb56_113).2 hr) ?_
                show Go p e s below _ _ _ s₁ (mkF m 59 #[.val (.int k)] [])
                obtain ⟨T114, X114, e114, st114⟩ := getS2 X0 hx hZ hown (host := "") (Or.inl (hw _ (List.mem_of_getElem? (i := 42) rfl))) Via.refl e0 S_LESS_EQUAL (g := (mkF m 59 #[.val (.int k)] [])) rfl (hb hby d1_59)
                refine Go.of (fun _ hr => st114 _ hr) ?_
                show Go p e s below _ _ _ T114 (mkF m 62 #[.val (.int k)] [(.ref w_LESS_EQUAL)])
                exact Go.retA X114 hx hlk hret rfl rfl (hb hby d1_62) (by decide) (by decide) ⟨by simp [selP, hb1_101, hb10_103, hb19_105, hb28_107, hb37_109, hb46_111, hb56_113], N0, e114⟩
              · refine Go.of (fun _ hr => XS.icmpYes X0.here hx rfl (pc0 := 56) (pc' := 63) rfl (hb hby d1_56) rfl (feq hb56_113).2 (by decide) (by decide) hr) ?_
                show Go p e s below _ _ _ s₁ (mkF m 63 #[.val (.int k)] [])
                refine Go.of (fun _ hr => XS.iloadN X0.here hx rfl (hb hby d1_63) rfl  hr) ?_
                show Go p e s below _ _ _ s₁ (mkF m 64 #[.val (.int k)] [(.int k)])
                refine Go.of (fun _ hr => XS.bipush X0.here hx rfl (hb hby d1_64) hr) ?_
                show Go p e s below _ _ _ s₁ (mkF m 66 #[.val (.int k)] [(.int (7 : Int32)), (.int k)])
                by_cases hb66_115 : k = (7 : Int32)
                · refine Go.of (fun _ hr => XS.icmpNo X0.here hx rfl (hb hby d1_66) rfl (teq hb66_115).2 hr) ?_
                  show Go p e s below _ _ _ s₁ (mkF m 69 #[.val (.int k)] [])
                  obtain ⟨T116, X116, e116, st116⟩ := getS2 X0 hx hZ hown (host := "") (Or.inl (hw _ (List.mem_of_getElem? (i := 29) rfl))) Via.refl e0 S_GREATER (g := (mkF m 69 #[.val (.int k)] [])) rfl (hb hby d1_69)
                  refine Go.of (fun _ hr => st116 _ hr) ?_
                  show Go p e s below _ _ _ T116 (mkF m 72 #[.val (.int k)] [(.ref w_GREATER)])
                  exact Go.retA X116 hx hlk hret rfl rfl (hb hby d1_72) (by decide) (by decide) ⟨by simp [selP, hb1_101, hb10_103, hb19_105, hb28_107, hb37_109, hb46_111, hb56_113, hb66_115], N0, e116⟩
                · refine Go.of (fun _ hr => XS.icmpYes X0.here hx rfl (pc0 := 66) (pc' := 73) rfl (hb hby d1_66) rfl (feq hb66_115).2 (by decide) (by decide) hr) ?_
                  show Go p e s below _ _ _ s₁ (mkF m 73 #[.val (.int k)] [])
                  refine Go.of (fun _ hr => XS.iloadN X0.here hx rfl (hb hby d1_73) rfl  hr) ?_
                  show Go p e s below _ _ _ s₁ (mkF m 74 #[.val (.int k)] [(.int k)])
                  refine Go.of (fun _ hr => XS.bipush X0.here hx rfl (hb hby d1_74) hr) ?_
                  show Go p e s below _ _ _ s₁ (mkF m 76 #[.val (.int k)] [(.int (8 : Int32)), (.int k)])
                  by_cases hb76_117 : k = (8 : Int32)
                  · refine Go.of (fun _ hr => XS.icmpNo X0.here hx rfl (hb hby d1_76) rfl (teq hb76_117).2 hr) ?_
                    show Go p e s below _ _ _ s₁ (mkF m 79 #[.val (.int k)] [])
                    obtain ⟨T118, X118, e118, st118⟩ := getS2 X0 hx hZ hown (host := "") (Or.inl (hw _ (List.mem_of_getElem? (i := 31) rfl))) Via.refl e0 S_GREATER_EQUAL (g := (mkF m 79 #[.val (.int k)] [])) rfl (hb hby d1_79)
                    refine Go.of (fun _ hr => st118 _ hr) ?_
                    show Go p e s below _ _ _ T118 (mkF m 82 #[.val (.int k)] [(.ref w_GREATER_EQUAL)])
                    exact Go.retA X118 hx hlk hret rfl rfl (hb hby d1_82) (by decide) (by decide) ⟨by simp [selP, hb1_101, hb10_103, hb19_105, hb28_107, hb37_109, hb46_111, hb56_113, hb66_115, hb76_117], N0, e118⟩
                  · refine Go.of (fun _ hr => XS.icmpYes X0.here hx rfl (pc0 := 76) (pc' := 83) rfl (hb hby d1_76) rfl (feq hb76_117).2 (by decide) (by decide) hr) ?_
                    show Go p e s below _ _ _ s₁ (mkF m 83 #[.val (.int k)] [])
                    refine Go.of (fun _ hr => XS.iloadN X0.here hx rfl (hb hby d1_83) rfl  hr) ?_
                    show Go p e s below _ _ _ s₁ (mkF m 84 #[.val (.int k)] [(.int k)])
                    refine Go.of (fun _ hr => XS.bipush X0.here hx rfl (hb hby d1_84) hr) ?_
                    show Go p e s below _ _ _ s₁ (mkF m 86 #[.val (.int k)] [(.int (9 : Int32)), (.int k)])
                    by_cases hb86_119 : k = (9 : Int32)
                    · refine Go.of (fun _ hr => XS.icmpNo X0.here hx rfl (hb hby d1_86) rfl (teq hb86_119).2 hr) ?_
                      show Go p e s below _ _ _ s₁ (mkF m 89 #[.val (.int k)] [])
                      obtain ⟨T120, X120, e120, st120⟩ := getS2 X0 hx hZ hown (host := "") (Or.inl (hw _ (List.mem_of_getElem? (i := 39) rfl))) Via.refl e0 S_EQUAL (g := (mkF m 89 #[.val (.int k)] [])) rfl (hb hby d1_89)
                      refine Go.of (fun _ hr => st120 _ hr) ?_
                      show Go p e s below _ _ _ T120 (mkF m 92 #[.val (.int k)] [(.ref w_EQUAL)])
                      exact Go.retA X120 hx hlk hret rfl rfl (hb hby d1_92) (by decide) (by decide) ⟨by simp [selP, hb1_101, hb10_103, hb19_105, hb28_107, hb37_109, hb46_111, hb56_113, hb66_115, hb76_117, hb86_119], N0, e120⟩
                    · refine Go.of (fun _ hr => XS.icmpYes X0.here hx rfl (pc0 := 86) (pc' := 93) rfl (hb hby d1_86) rfl (feq hb86_119).2 (by decide) (by decide) hr) ?_
                      show Go p e s below _ _ _ s₁ (mkF m 93 #[.val (.int k)] [])
                      obtain ⟨T121, X121, e121, st121⟩ := getS2 X0 hx hZ hown (host := "") (Or.inl (hw _ (List.mem_of_getElem? (i := 35) rfl))) Via.refl e0 S_NOT_EQUAL (g := (mkF m 93 #[.val (.int k)] [])) rfl (hb hby d1_93)
                      refine Go.of (fun _ hr => st121 _ hr) ?_
                      show Go p e s below _ _ _ T121 (mkF m 96 #[.val (.int k)] [(.ref w_NOT_EQUAL)])
                      exact Go.retA X121 hx hlk hret rfl rfl (hb hby d1_96) (by decide) (by decide) ⟨by simp [selP, hb1_101, hb10_103, hb19_105, hb28_107, hb37_109, hb46_111, hb56_113, hb66_115, hb76_117, hb86_119], N0, e121⟩

theorem pn1 : plainName "java/lang/Enum" = true := by first | (simp [plainName, overriddenIn]; done) | decide +kernel
theorem d3_0 : decode jdk_37_method_2_code 0 = .ok (.aload_n 0, 1) := by decide +kernel
theorem d3_1 : decode jdk_37_method_2_code 1 = .ok (.getfield 7, 3) := by decide +kernel
theorem d3_4 : decode jdk_37_method_2_code 4 = .ok (.ireturn, 1) := by decide +kernel
set_option maxRecDepth 65536 in
set_option maxHeartbeats 40000000 in
theorem rm3 (l : Launch) (Z : State) (a0 : Array Value) (hw : ∀ d ∈ tables_1, d.before a0 Z = true) (ws : List Jvm.Cond) (a1 : Addr) (o1 : Int32) (h0 : Heap) (n0 : Nat) (Z0 : n0 ≤ h0.size) (F1 : Fld Z h0 a1 "java/lang/Enum" "ordinal" "I" (.int o1)) :
    Con l Z (⟨"java/lang/Enum", "ordinal", "()I"⟩ : MethodName) jdk_37_method_2_code 1 (some .int) ws ({ frames := 0, cells := 0, slots := 0, locals := 0 } : Room) #[(.ref a1)] h0 (fun v h L => v = some (.int o1) ∧ Fr n0 L ∧ h = h0) := by
  refine Con.mk (plainFor_of_name pn1) ?_
  intro p e s m below meth c s₁ Cc X0 e0
  obtain ⟨hx, hZ, hown, hby, hml, hnm, hret, hlk⟩ := Cc
  have N0 := Fr.nil n0
  show Go p e s below _ _ _ s₁ (mkF m 0 #[.val (.ref a1)] [])
  refine Go.of (fun _ hr => XS.aloadN X0.here hx rfl (hb hby d3_0) rfl rfl hr) ?_
  show Go p e s below _ _ _ s₁ (mkF m 1 #[.val (.ref a1)] [(.ref a1)])
  obtain ⟨T101, X101, e101, st101⟩ := getF X0 hx hZ hown (host := "") (Or.inl (hw _ (List.mem_of_getElem? (i := 20) rfl))) Via.refl e0 F1 (g := (mkF m 1 #[.val (.ref a1)] [(.ref a1)])) rfl rfl (hb hby d3_1)
  refine Go.of (fun _ hr => st101 _ hr) ?_
  show Go p e s below _ _ _ T101 (mkF m 4 #[.val (.ref a1)] [(.int o1)])
  exact Go.retI X101 hx hlk hret (hb hby d3_4) (by decide) (by decide) ⟨rfl, N0, e101⟩

theorem pn2 : plainName "com/example/liken2/liken2/frontend/BinaryOperator" = true := by first | (simp [plainName, overriddenIn]; done) | decide +kernel
theorem d2_0 : decode prog_8_method_5_code 0 = .ok (.aload_n 0, 1) := by decide +kernel
theorem d2_1 : decode prog_8_method_5_code 1 = .ok (.invokevirtual 60, 3) := by decide +kernel
theorem pd0 : parseMethodDescriptor "()I" = some ⟨[], some .int⟩ := by decide +kernel
theorem d2_4 : decode prog_8_method_5_code 4 = .ok (.getstatic 19, 3) := by decide +kernel
theorem d2_7 : decode prog_8_method_5_code 7 = .ok (.invokevirtual 60, 3) := by decide +kernel
theorem d2_10 : decode prog_8_method_5_code 10 = .ok (.if_icmp .lt 7, 3) := by decide +kernel
theorem d2_17 : decode prog_8_method_5_code 17 = .ok (.iconst 0, 1) := by decide +kernel
theorem d2_18 : decode prog_8_method_5_code 18 = .ok (.ireturn, 1) := by decide +kernel
theorem d2_13 : decode prog_8_method_5_code 13 = .ok (.iconst 1, 1) := by decide +kernel
theorem d2_14 : decode prog_8_method_5_code 14 = .ok (.goto 4, 3) := by decide +kernel
set_option maxRecDepth 65536 in
set_option maxHeartbeats 40000000 in
theorem rm2 (l : Launch) (Z : State) (a0 : Array Value) (hw : ∀ d ∈ tables_1, d.before a0 Z = true) (ws : List Jvm.Cond) (a1 : Addr) (o1 : Int32) (w_LESS : Addr) (h0 : Heap) (n0 : Nat) (Z0 : n0 ≤ h0.size) (F1 : Fld Z h0 a1 "java/lang/Enum" "ordinal" "I" (.int o1)) (E1 : Exa Z h0 a1 "com/example/liken2/liken2/frontend/BinaryOperator") (S_LESS : Sta Z h0 "com/example/liken2/liken2/frontend/BinaryOperator" "LESS" "Lcom/example/liken2/liken2/frontend/BinaryOperator;" (.ref w_LESS)) (E_LESS : Exa Z h0 w_LESS "com/example/liken2/liken2/frontend/BinaryOperator") (O_LESS : Fld Z h0 w_LESS "java/lang/Enum" "ordinal" "I" (.int (5 : Int32))) :
    Con l Z (⟨"com/example/liken2/liken2/frontend/BinaryOperator", "isComparison", "()Z"⟩ : MethodName) prog_8_method_5_code 1 (some .boolean) ws ({ frames := 1, cells := 0, slots := 0, locals := 13 } : Room) #[(.ref a1)] h0 (fun v h L => v = some (.int (if o1 < 5 then (0 : Int32) else 1)) ∧ Fr n0 L ∧ h = h0) := by
  refine Con.mk (plainFor_of_name pn2) ?_
  intro p e s m below meth c s₁ Cc X0 e0
  obtain ⟨hx, hZ, hown, hby, hml, hnm, hret, hlk⟩ := Cc
  have N0 := Fr.nil n0
  show Go p e s below _ _ _ s₁ (mkF m 0 #[.val (.ref a1)] [])
  refine Go.of (fun _ hr => XS.aloadN X0.here hx rfl (hb hby d2_0) rfl rfl hr) ?_
  show Go p e s below _ _ _ s₁ (mkF m 1 #[.val (.ref a1)] [(.ref a1)])
  obtain ⟨_, T101, L101, X101, hQ101, st101⟩ := own_callU X0 hx hZ hown (y := (⟨"com/example/liken2/liken2/frontend/BinaryOperator", "ordinal", "()I"⟩ : MethodName)) (z := (⟨"java/lang/Enum", "ordinal", "()I"⟩ : MethodName)) (owner := "java/lang/Enum") (hw _ (List.mem_of_getElem? (i := 13) rfl)) (hw _ (List.mem_of_getElem? (i := 14) rfl)) (hw _ (List.mem_of_getElem? (i := 15) rfl)) (hw _ (List.mem_of_getElem? (i := 17) rfl)) (hw _ (List.mem_of_getElem? (i := 16) rfl)) (hw _ (List.mem_of_getElem? (i := 18) rfl)) (hw _ (List.mem_of_getElem? (i := 19) rfl)) (by decide) E1 (rm3 l Z a0 hw [] a1 o1 h0 n0 Z0 F1) e0 (g := (mkF m 1 #[.val (.ref a1)] [(.ref a1)])) rfl (by rw [hml]; rfl) (argsL := []) (rest := []) (lenOf pd0 rfl) rfl (W := 0) (by show 2 * 0 + _ ≤ _; exact Nat.le_of_eq rfl) (hb hby d2_1) (by decide) (by decide) (by decide) (by decide)
  obtain ⟨rfl, N101, e101⟩ := hQ101
  refine Go.of st101 ?_
  have NF101 := Fr.app N0 N101
  show Go p e s below _ _ _ T101 (mkF m 4 #[.val (.ref a1)] [(.int o1)])
  obtain ⟨T102, X102, e102, st102⟩ := getS2 X101 hx hZ hown (host := "") (Or.inl (hw _ (List.mem_of_getElem? (i := 22) rfl))) Via.refl e101 S_LESS (g := (mkF m 4 #[.val (.ref a1)] [(.int o1)])) rfl (hb hby d2_4)
  refine Go.of (fun _ hr => st102 _ hr) ?_
  show Go p e s below _ _ _ T102 (mkF m 7 #[.val (.ref a1)] [(.ref w_LESS), (.int o1)])
  obtain ⟨_, T103, L103, X103, hQ103, st103⟩ := own_callU X102 hx hZ hown (y := (⟨"com/example/liken2/liken2/frontend/BinaryOperator", "ordinal", "()I"⟩ : MethodName)) (z := (⟨"java/lang/Enum", "ordinal", "()I"⟩ : MethodName)) (owner := "java/lang/Enum") (hw _ (List.mem_of_getElem? (i := 13) rfl)) (hw _ (List.mem_of_getElem? (i := 14) rfl)) (hw _ (List.mem_of_getElem? (i := 15) rfl)) (hw _ (List.mem_of_getElem? (i := 17) rfl)) (hw _ (List.mem_of_getElem? (i := 16) rfl)) (hw _ (List.mem_of_getElem? (i := 18) rfl)) (hw _ (List.mem_of_getElem? (i := 19) rfl)) (by decide) E_LESS (rm3 l Z a0 hw [] w_LESS (5 : Int32) h0 n0 Z0 O_LESS) e102 (g := (mkF m 7 #[.val (.ref a1)] [(.ref w_LESS), (.int o1)])) rfl (by rw [hml]; rfl) (argsL := []) (rest := [(.int o1)]) (lenOf pd0 rfl) rfl (W := 1) (by show 2 * 0 + _ ≤ _; exact Nat.le_of_eq rfl) (hb hby d2_7) (by decide) (by decide) (by decide) (by decide)
  obtain ⟨rfl, N103, e103⟩ := hQ103
  refine Go.of st103 ?_
  have NF103 := Fr.app NF101 N103
  show Go p e s below _ _ _ T103 (mkF m 10 #[.val (.ref a1)] [(.int (5 : Int32)), (.int o1)])
  by_cases hb10_104 : o1 < (5 : Int32)
  · refine Go.of (fun _ hr => XS.icmpYes X103.here hx rfl (pc0 := 10) (pc' := 17) rfl (hb hby d2_10) rfl (tlt hb10_104).1 (by decide) (by decide) hr) ?_
    show Go p e s below _ _ _ T103 (mkF m 17 #[.val (.ref a1)] [])
    refine Go.of (fun _ hr => XS.iconst X103.here hx rfl (hb hby d2_17) hr) ?_
    show Go p e s below _ _ _ T103 (mkF m 18 #[.val (.ref a1)] [(.int (0 : Int32))])
    exact Go.retN X103 hx hlk (t := .boolean) (z' := (0 : Int32)) hret (by simp) (hb hby d2_18) rfl (by decide) (by decide) ⟨by simp [hb10_104], NF103, e103⟩
  · refine Go.of (fun _ hr => XS.icmpNo X103.here hx rfl (hb hby d2_10) rfl (flt hb10_104).1 hr) ?_
    show Go p e s below _ _ _ T103 (mkF m 13 #[.val (.ref a1)] [])
    refine Go.of (fun _ hr => XS.iconst X103.here hx rfl (hb hby d2_13) hr) ?_
    show Go p e s below _ _ _ T103 (mkF m 14 #[.val (.ref a1)] [(.int (1 : Int32))])
    refine Go.of (fun _ hr => XS.goto X103.here hx rfl (pc0 := 14) (pc' := 18) rfl (hb hby d2_14) (by decide) (by decide) hr) ?_
    show Go p e s below _ _ _ T103 (mkF m 18 #[.val (.ref a1)] [(.int (1 : Int32))])
    exact Go.retN X103 hx hlk (t := .boolean) (z' := (1 : Int32)) hret (by simp) (hb hby d2_18) rfl (by decide) (by decide) ⟨by simp [hb10_104], NF103, e103⟩

theorem d4_0 : decode method_3_code 0 = .ok (.iload_n 0, 1) := by decide +kernel
theorem d4_1 : decode method_3_code 1 = .ok (.ifCond .ne 5, 3) := by decide +kernel
theorem d4_4 : decode method_3_code 4 = .ok (.iconst 0, 1) := by decide +kernel
theorem d4_5 : decode method_3_code 5 = .ok (.ireturn, 1) := by decide +kernel
theorem d4_6 : decode method_3_code 6 = .ok (.iload_n 0, 1) := by decide +kernel
theorem d4_7 : decode method_3_code 7 = .ok (.iconst 1, 1) := by decide +kernel
theorem d4_8 : decode method_3_code 8 = .ok (.if_icmp .ne 5, 3) := by decide +kernel
theorem d4_11 : decode method_3_code 11 = .ok (.iconst 0, 1) := by decide +kernel
theorem d4_12 : decode method_3_code 12 = .ok (.ireturn, 1) := by decide +kernel
theorem d4_13 : decode method_3_code 13 = .ok (.iload_n 0, 1) := by decide +kernel
theorem d4_14 : decode method_3_code 14 = .ok (.iconst 2, 1) := by decide +kernel
theorem d4_15 : decode method_3_code 15 = .ok (.if_icmp .ne 5, 3) := by decide +kernel
theorem d4_18 : decode method_3_code 18 = .ok (.iconst 0, 1) := by decide +kernel
theorem d4_19 : decode method_3_code 19 = .ok (.ireturn, 1) := by decide +kernel
theorem d4_20 : decode method_3_code 20 = .ok (.iload_n 0, 1) := by decide +kernel
theorem d4_21 : decode method_3_code 21 = .ok (.iconst 3, 1) := by decide +kernel
theorem d4_22 : decode method_3_code 22 = .ok (.if_icmp .ne 5, 3) := by decide +kernel
theorem d4_25 : decode method_3_code 25 = .ok (.iconst 0, 1) := by decide +kernel
theorem d4_26 : decode method_3_code 26 = .ok (.ireturn, 1) := by decide +kernel
theorem d4_27 : decode method_3_code 27 = .ok (.iload_n 0, 1) := by decide +kernel
theorem d4_28 : decode method_3_code 28 = .ok (.iconst 4, 1) := by decide +kernel
theorem d4_29 : decode method_3_code 29 = .ok (.if_icmp .ne 5, 3) := by decide +kernel
theorem d4_32 : decode method_3_code 32 = .ok (.iconst 0, 1) := by decide +kernel
theorem d4_33 : decode method_3_code 33 = .ok (.ireturn, 1) := by decide +kernel
theorem d4_34 : decode method_3_code 34 = .ok (.iconst 1, 1) := by decide +kernel
theorem d4_35 : decode method_3_code 35 = .ok (.ireturn, 1) := by decide +kernel
set_option maxRecDepth 65536 in
set_option maxHeartbeats 40000000 in
theorem rm4 (l : Launch) (Z : State) (a0 : Array Value) (hw : ∀ d ∈ tables_1, d.before a0 Z = true) (ws : List Jvm.Cond) (k : Int32) (h0 : Heap) (n0 : Nat) (Z0 : n0 ≤ h0.size)  :
    Con l Z (⟨"com/example/liken2/liken2/frontend/BinaryOperatorIsComparisonPinLaw", "expected", "(I)Z"⟩ : MethodName) method_3_code 1 (some .boolean) ws ({ frames := 0, cells := 0, slots := 0, locals := 0 } : Room) #[(.int k)] h0 (fun v h L => v = some (.int (exB k)) ∧ Fr n0 L ∧ h = h0) := by
  refine Con.mk (plainFor_of_name pn0) ?_
  intro p e s m below meth c s₁ Cc X0 e0
  obtain ⟨hx, hZ, hown, hby, hml, hnm, hret, hlk⟩ := Cc
  have N0 := Fr.nil n0
  show Go p e s below _ _ _ s₁ (mkF m 0 #[.val (.int k)] [])
  refine Go.of (fun _ hr => XS.iloadN X0.here hx rfl (hb hby d4_0) rfl  hr) ?_
  show Go p e s below _ _ _ s₁ (mkF m 1 #[.val (.int k)] [(.int k)])
  by_cases hb1_101 : k = (0 : Int32)
  · refine Go.of (fun _ hr => XS.ifNo X0.here hx rfl (hb hby d4_1) rfl ((if0 _ _).trans (teq hb1_101).2) hr) ?_
    show Go p e s below _ _ _ s₁ (mkF m 4 #[.val (.int k)] [])
    refine Go.of (fun _ hr => XS.iconst X0.here hx rfl (hb hby d4_4) hr) ?_
    show Go p e s below _ _ _ s₁ (mkF m 5 #[.val (.int k)] [(.int (0 : Int32))])
    exact Go.retN X0 hx hlk (t := .boolean) (z' := (0 : Int32)) hret (by simp) (hb hby d4_5) rfl (by decide) (by decide) ⟨by simp [exB, hb1_101], N0, e0⟩
  · refine Go.of (fun _ hr => XS.ifYes X0.here hx rfl (pc0 := 1) (pc' := 6) rfl (hb hby d4_1) rfl ((if0 _ _).trans (feq hb1_101).2) (by decide) (by decide) hr) ?_
    show Go p e s below _ _ _ s₁ (mkF m 6 #[.val (.int k)] [])
    refine Go.of (fun _ hr => XS.iloadN X0.here hx rfl (hb hby d4_6) rfl  hr) ?_
    show Go p e s below _ _ _ s₁ (mkF m 7 #[.val (.int k)] [(.int k)])
    refine Go.of (fun _ hr => XS.iconst X0.here hx rfl (hb hby d4_7) hr) ?_
    show Go p e s below _ _ _ s₁ (mkF m 8 #[.val (.int k)] [(.int (1 : Int32)), (.int k)])
    by_cases hb8_102 : k = (1 : Int32)
    · refine Go.of (fun _ hr => XS.icmpNo X0.here hx rfl (hb hby d4_8) rfl (teq hb8_102).2 hr) ?_
      show Go p e s below _ _ _ s₁ (mkF m 11 #[.val (.int k)] [])
      refine Go.of (fun _ hr => XS.iconst X0.here hx rfl (hb hby d4_11) hr) ?_
      show Go p e s below _ _ _ s₁ (mkF m 12 #[.val (.int k)] [(.int (0 : Int32))])
      exact Go.retN X0 hx hlk (t := .boolean) (z' := (0 : Int32)) hret (by simp) (hb hby d4_12) rfl (by decide) (by decide) ⟨by simp [exB, hb1_101, hb8_102], N0, e0⟩
    · refine Go.of (fun _ hr => XS.icmpYes X0.here hx rfl (pc0 := 8) (pc' := 13) rfl (hb hby d4_8) rfl (feq hb8_102).2 (by decide) (by decide) hr) ?_
      show Go p e s below _ _ _ s₁ (mkF m 13 #[.val (.int k)] [])
      refine Go.of (fun _ hr => XS.iloadN X0.here hx rfl (hb hby d4_13) rfl  hr) ?_
      show Go p e s below _ _ _ s₁ (mkF m 14 #[.val (.int k)] [(.int k)])
      refine Go.of (fun _ hr => XS.iconst X0.here hx rfl (hb hby d4_14) hr) ?_
      show Go p e s below _ _ _ s₁ (mkF m 15 #[.val (.int k)] [(.int (2 : Int32)), (.int k)])
      by_cases hb15_103 : k = (2 : Int32)
      · refine Go.of (fun _ hr => XS.icmpNo X0.here hx rfl (hb hby d4_15) rfl (teq hb15_103).2 hr) ?_
        show Go p e s below _ _ _ s₁ (mkF m 18 #[.val (.int k)] [])
        refine Go.of (fun _ hr => XS.iconst X0.here hx rfl (hb hby d4_18) hr) ?_
        show Go p e s below _ _ _ s₁ (mkF m 19 #[.val (.int k)] [(.int (0 : Int32))])
        exact Go.retN X0 hx hlk (t := .boolean) (z' := (0 : Int32)) hret (by simp) (hb hby d4_19) rfl (by decide) (by decide) ⟨by simp [exB, hb1_101, hb8_102, hb15_103], N0, e0⟩
      · refine Go.of (fun _ hr => XS.icmpYes X0.here hx rfl (pc0 := 15) (pc' := 20) rfl (hb hby d4_15) rfl (feq hb15_103).2 (by decide) (by decide) hr) ?_
        show Go p e s below _ _ _ s₁ (mkF m 20 #[.val (.int k)] [])
        refine Go.of (fun _ hr => XS.iloadN X0.here hx rfl (hb hby d4_20) rfl  hr) ?_
        show Go p e s below _ _ _ s₁ (mkF m 21 #[.val (.int k)] [(.int k)])
        refine Go.of (fun _ hr => XS.iconst X0.here hx rfl (hb hby d4_21) hr) ?_
        show Go p e s below _ _ _ s₁ (mkF m 22 #[.val (.int k)] [(.int (3 : Int32)), (.int k)])
        by_cases hb22_104 : k = (3 : Int32)
        · refine Go.of (fun _ hr => XS.icmpNo X0.here hx rfl (hb hby d4_22) rfl (teq hb22_104).2 hr) ?_
          show Go p e s below _ _ _ s₁ (mkF m 25 #[.val (.int k)] [])
          refine Go.of (fun _ hr => XS.iconst X0.here hx rfl (hb hby d4_25) hr) ?_
          show Go p e s below _ _ _ s₁ (mkF m 26 #[.val (.int k)] [(.int (0 : Int32))])
          exact Go.retN X0 hx hlk (t := .boolean) (z' := (0 : Int32)) hret (by simp) (hb hby d4_26) rfl (by decide) (by decide) ⟨by simp [exB, hb1_101, hb8_102, hb15_103, hb22_104], N0, e0⟩
        · refine Go.of (fun _ hr => XS.icmpYes X0.here hx rfl (pc0 := 22) (pc' := 27) rfl (hb hby d4_22) rfl (feq hb22_104).2 (by decide) (by decide) hr) ?_
          show Go p e s below _ _ _ s₁ (mkF m 27 #[.val (.int k)] [])
          refine Go.of (fun _ hr => XS.iloadN X0.here hx rfl (hb hby d4_27) rfl  hr) ?_
          show Go p e s below _ _ _ s₁ (mkF m 28 #[.val (.int k)] [(.int k)])
          refine Go.of (fun _ hr => XS.iconst X0.here hx rfl (hb hby d4_28) hr) ?_
          show Go p e s below _ _ _ s₁ (mkF m 29 #[.val (.int k)] [(.int (4 : Int32)), (.int k)])
          by_cases hb29_105 : k = (4 : Int32)
          · refine Go.of (fun _ hr => XS.icmpNo X0.here hx rfl (hb hby d4_29) rfl (teq hb29_105).2 hr) ?_
            show Go p e s below _ _ _ s₁ (mkF m 32 #[.val (.int k)] [])
            refine Go.of (fun _ hr => XS.iconst X0.here hx rfl (hb hby d4_32) hr) ?_
            show Go p e s below _ _ _ s₁ (mkF m 33 #[.val (.int k)] [(.int (0 : Int32))])
            exact Go.retN X0 hx hlk (t := .boolean) (z' := (0 : Int32)) hret (by simp) (hb hby d4_33) rfl (by decide) (by decide) ⟨by simp [exB, hb1_101, hb8_102, hb15_103, hb22_104, hb29_105], N0, e0⟩
          · refine Go.of (fun _ hr => XS.icmpYes X0.here hx rfl (pc0 := 29) (pc' := 34) rfl (hb hby d4_29) rfl (feq hb29_105).2 (by decide) (by decide) hr) ?_
            show Go p e s below _ _ _ s₁ (mkF m 34 #[.val (.int k)] [])
            refine Go.of (fun _ hr => XS.iconst X0.here hx rfl (hb hby d4_34) hr) ?_
            show Go p e s below _ _ _ s₁ (mkF m 35 #[.val (.int k)] [(.int (1 : Int32))])
            exact Go.retN X0 hx hlk (t := .boolean) (z' := (1 : Int32)) hret (by simp) (hb hby d4_35) rfl (by decide) (by decide) ⟨by simp [exB, hb1_101, hb8_102, hb15_103, hb22_104, hb29_105], N0, e0⟩

theorem pd1 : parseMethodDescriptor "(I)Lcom/example/liken2/liken2/frontend/BinaryOperator;" = some ⟨[.int], some (.object "com/example/liken2/liken2/frontend/BinaryOperator")⟩ := by decide +kernel
theorem pd2 : parseMethodDescriptor "()Z" = some ⟨[], some .boolean⟩ := by decide +kernel
theorem pd3 : parseMethodDescriptor "(I)Z" = some ⟨[.int], some .boolean⟩ := by decide +kernel
set_option maxRecDepth 65536 in
set_option maxHeartbeats 40000000 in
theorem rm0 (l : Launch) (Z : State) (a0 : Array Value) (hw : ∀ d ∈ tables_1, d.before a0 Z = true) (ws : List Jvm.Cond) (p1 : Int32) (w_ADD w_SUBTRACT w_MULTIPLY w_DIVIDE w_REMAINDER w_LESS w_LESS_EQUAL w_GREATER w_GREATER_EQUAL w_EQUAL w_NOT_EQUAL : Addr) (h0 : Heap) (n0 : Nat) (Z0 : n0 ≤ h0.size) (S_ADD : Sta Z h0 "com/example/liken2/liken2/frontend/BinaryOperator" "ADD" "Lcom/example/liken2/liken2/frontend/BinaryOperator;" (.ref w_ADD)) (S_SUBTRACT : Sta Z h0 "com/example/liken2/liken2/frontend/BinaryOperator" "SUBTRACT" "Lcom/example/liken2/liken2/frontend/BinaryOperator;" (.ref w_SUBTRACT)) (S_MULTIPLY : Sta Z h0 "com/example/liken2/liken2/frontend/BinaryOperator" "MULTIPLY" "Lcom/example/liken2/liken2/frontend/BinaryOperator;" (.ref w_MULTIPLY)) (S_DIVIDE : Sta Z h0 "com/example/liken2/liken2/frontend/BinaryOperator" "DIVIDE" "Lcom/example/liken2/liken2/frontend/BinaryOperator;" (.ref w_DIVIDE)) (S_REMAINDER : Sta Z h0 "com/example/liken2/liken2/frontend/BinaryOperator" "REMAINDER" "Lcom/example/liken2/liken2/frontend/BinaryOperator;" (.ref w_REMAINDER)) (S_LESS : Sta Z h0 "com/example/liken2/liken2/frontend/BinaryOperator" "LESS" "Lcom/example/liken2/liken2/frontend/BinaryOperator;" (.ref w_LESS)) (S_LESS_EQUAL : Sta Z h0 "com/example/liken2/liken2/frontend/BinaryOperator" "LESS_EQUAL" "Lcom/example/liken2/liken2/frontend/BinaryOperator;" (.ref w_LESS_EQUAL)) (S_GREATER : Sta Z h0 "com/example/liken2/liken2/frontend/BinaryOperator" "GREATER" "Lcom/example/liken2/liken2/frontend/BinaryOperator;" (.ref w_GREATER)) (S_GREATER_EQUAL : Sta Z h0 "com/example/liken2/liken2/frontend/BinaryOperator" "GREATER_EQUAL" "Lcom/example/liken2/liken2/frontend/BinaryOperator;" (.ref w_GREATER_EQUAL)) (S_EQUAL : Sta Z h0 "com/example/liken2/liken2/frontend/BinaryOperator" "EQUAL" "Lcom/example/liken2/liken2/frontend/BinaryOperator;" (.ref w_EQUAL)) (S_NOT_EQUAL : Sta Z h0 "com/example/liken2/liken2/frontend/BinaryOperator" "NOT_EQUAL" "Lcom/example/liken2/liken2/frontend/BinaryOperator;" (.ref w_NOT_EQUAL)) (E_ADD : Exa Z h0 w_ADD "com/example/liken2/liken2/frontend/BinaryOperator") (E_SUBTRACT : Exa Z h0 w_SUBTRACT "com/example/liken2/liken2/frontend/BinaryOperator") (E_MULTIPLY : Exa Z h0 w_MULTIPLY "com/example/liken2/liken2/frontend/BinaryOperator") (E_DIVIDE : Exa Z h0 w_DIVIDE "com/example/liken2/liken2/frontend/BinaryOperator") (E_REMAINDER : Exa Z h0 w_REMAINDER "com/example/liken2/liken2/frontend/BinaryOperator") (E_LESS : Exa Z h0 w_LESS "com/example/liken2/liken2/frontend/BinaryOperator") (E_LESS_EQUAL : Exa Z h0 w_LESS_EQUAL "com/example/liken2/liken2/frontend/BinaryOperator") (E_GREATER : Exa Z h0 w_GREATER "com/example/liken2/liken2/frontend/BinaryOperator") (E_GREATER_EQUAL : Exa Z h0 w_GREATER_EQUAL "com/example/liken2/liken2/frontend/BinaryOperator") (E_EQUAL : Exa Z h0 w_EQUAL "com/example/liken2/liken2/frontend/BinaryOperator") (E_NOT_EQUAL : Exa Z h0 w_NOT_EQUAL "com/example/liken2/liken2/frontend/BinaryOperator") (O_ADD : Fld Z h0 w_ADD "java/lang/Enum" "ordinal" "I" (.int (0 : Int32))) (O_SUBTRACT : Fld Z h0 w_SUBTRACT "java/lang/Enum" "ordinal" "I" (.int (1 : Int32))) (O_MULTIPLY : Fld Z h0 w_MULTIPLY "java/lang/Enum" "ordinal" "I" (.int (2 : Int32))) (O_DIVIDE : Fld Z h0 w_DIVIDE "java/lang/Enum" "ordinal" "I" (.int (3 : Int32))) (O_REMAINDER : Fld Z h0 w_REMAINDER "java/lang/Enum" "ordinal" "I" (.int (4 : Int32))) (O_LESS : Fld Z h0 w_LESS "java/lang/Enum" "ordinal" "I" (.int (5 : Int32))) (O_LESS_EQUAL : Fld Z h0 w_LESS_EQUAL "java/lang/Enum" "ordinal" "I" (.int (6 : Int32))) (O_GREATER : Fld Z h0 w_GREATER "java/lang/Enum" "ordinal" "I" (.int (7 : Int32))) (O_GREATER_EQUAL : Fld Z h0 w_GREATER_EQUAL "java/lang/Enum" "ordinal" "I" (.int (8 : Int32))) (O_EQUAL : Fld Z h0 w_EQUAL "java/lang/Enum" "ordinal" "I" (.int (9 : Int32))) (O_NOT_EQUAL : Fld Z h0 w_NOT_EQUAL "java/lang/Enum" "ordinal" "I" (.int (10 : Int32))) :
    Con l Z x code maxLocals ret ws room_1 #[(.int p1)] h0 (fun v h L => v = some (.int 1) ∧ Fr n0 L) := by
  refine Con.mk (plainFor_of_name pn0) ?_
  intro p e s m below meth c s₁ Cc X0 e0
  obtain ⟨hx, hZ, hown, hby, hml, hnm, hret, hlk⟩ := Cc
  replace hown : s.vm.findClass "com/example/liken2/liken2/frontend/BinaryOperatorIsComparisonPinLaw" = some m.cls := hown
  replace hml : c.maxLocals = 3 := hml
  have N0 := Fr.nil n0
  show Go p e s below _ _ _ s₁ (mkF m 0 #[.val (.int p1), .unset, .unset] [])
  refine Go.of (fun _ hr => XS.iloadN X0.here hx rfl (hb hby at_0) rfl  hr) ?_
  show Go p e s below _ _ _ s₁ (mkF m 1 #[.val (.int p1), .unset, .unset] [(.int p1)])
  refine Go.of (fun _ hr => X0.ldcI hx hown (mvT hZ (hw _ (List.mem_of_getElem? (i := 0) rfl))) rfl (hb hby at_1) hr) ?_
  show Go p e s below _ _ _ s₁ (mkF m 3 #[.val (.int p1), .unset, .unset] [(.int (2147483647 : Int32)), (.int p1)])
  refine Go.of (fun _ hr => XS.iand X0.here hx rfl (hb hby at_3) rfl hr) ?_
  show Go p e s below _ _ _ s₁ (mkF m 4 #[.val (.int p1), .unset, .unset] [(.int (p1 &&& (2147483647 : Int32)))])
  refine Go.of (fun _ hr => XS.bipush X0.here hx rfl (hb hby at_4) hr) ?_
  show Go p e s below _ _ _ s₁ (mkF m 6 #[.val (.int p1), .unset, .unset] [(.int (11 : Int32)), (.int (p1 &&& (2147483647 : Int32)))])
  refine Go.of (fun _ hr => iremM X0 hx rfl (hb hby at_6) rfl (by decide) hr) ?_
  show Go p e s below _ _ _ s₁ (mkF m 7 #[.val (.int p1), .unset, .unset] [(.int ((p1 &&& (2147483647 : Int32)) % (11 : Int32)))])
  generalize ((p1 &&& (2147483647 : Int32)) % (11 : Int32)) = k
  show Go p e s below _ _ _ s₁ (mkF m 7 #[.val (.int p1), .unset, .unset] [(.int k)])
  refine Go.of (fun _ hr => XS.istoreN X0.here hx rfl (hb hby at_7) rfl (l' := #[.val (.int p1), .val (.int k), .unset]) rfl hr) ?_
  show Go p e s below _ _ _ s₁ (mkF m 8 #[.val (.int p1), .val (.int k), .unset] [])
  refine Go.of (fun _ hr => XS.iloadN X0.here hx rfl (hb hby at_8) rfl  hr) ?_
  show Go p e s below _ _ _ s₁ (mkF m 9 #[.val (.int p1), .val (.int k), .unset] [(.int k)])
  obtain ⟨_, T101, L101, X101, hQ101, st101⟩ := own_callS X0 hx hZ hown (hw _ (List.mem_of_getElem? (i := 1) rfl)) (hw _ (List.mem_of_getElem? (i := 2) rfl)) (hw _ (List.mem_of_getElem? (i := 3) rfl)) (hw _ (List.mem_of_getElem? (i := 4) rfl)) (by decide) (rm1 l Z a0 hw [] k w_ADD w_SUBTRACT w_MULTIPLY w_DIVIDE w_REMAINDER w_LESS w_LESS_EQUAL w_GREATER w_GREATER_EQUAL w_EQUAL w_NOT_EQUAL h0 n0 Z0 S_ADD S_SUBTRACT S_MULTIPLY S_DIVIDE S_REMAINDER S_LESS S_LESS_EQUAL S_GREATER S_GREATER_EQUAL S_EQUAL S_NOT_EQUAL) e0 (g := (mkF m 9 #[.val (.int p1), .val (.int k), .unset] [(.int k)])) rfl (by rw [hml]; rfl) (argsL := [(.int k)]) (rest := []) (lenOf pd1 rfl) rfl (W := 0) (by show 2 * 0 + _ ≤ _; exact Nat.le_of_eq rfl) (hb hby at_9) (by decide) (by decide) (by decide) (by decide)
  obtain ⟨rfl, N101, e101⟩ := hQ101
  refine Go.of st101 ?_
  have NF101 := Fr.app N0 N101
  show Go p e s below _ _ _ T101 (mkF m 12 #[.val (.int p1), .val (.int k), .unset] [(.ref (selP k w_ADD w_SUBTRACT w_MULTIPLY w_DIVIDE w_REMAINDER w_LESS w_LESS_EQUAL w_GREATER w_GREATER_EQUAL w_EQUAL w_NOT_EQUAL))])
  refine Go.of (fun _ hr => XS.astoreN X101.here hx rfl (hb hby at_12) rfl rfl (l' := #[.val (.int p1), .val (.int k), .val (.ref (selP k w_ADD w_SUBTRACT w_MULTIPLY w_DIVIDE w_REMAINDER w_LESS w_LESS_EQUAL w_GREATER w_GREATER_EQUAL w_EQUAL w_NOT_EQUAL))]) rfl hr) ?_
  show Go p e s below _ _ _ T101 (mkF m 13 #[.val (.int p1), .val (.int k), .val (.ref (selP k w_ADD w_SUBTRACT w_MULTIPLY w_DIVIDE w_REMAINDER w_LESS w_LESS_EQUAL w_GREATER w_GREATER_EQUAL w_EQUAL w_NOT_EQUAL))] [])
  refine Go.of (fun _ hr => XS.aloadN X101.here hx rfl (hb hby at_13) rfl rfl hr) ?_
  show Go p e s below _ _ _ T101 (mkF m 14 #[.val (.int p1), .val (.int k), .val (.ref (selP k w_ADD w_SUBTRACT w_MULTIPLY w_DIVIDE w_REMAINDER w_LESS w_LESS_EQUAL w_GREATER w_GREATER_EQUAL w_EQUAL w_NOT_EQUAL))] [(.ref (selP k w_ADD w_SUBTRACT w_MULTIPLY w_DIVIDE w_REMAINDER w_LESS w_LESS_EQUAL w_GREATER w_GREATER_EQUAL w_EQUAL w_NOT_EQUAL))])
  obtain ⟨_, T102, L102, X102, hQ102, st102⟩ := own_callV X101 hx hZ hown (hw _ (List.mem_of_getElem? (i := 8) rfl)) (hw _ (List.mem_of_getElem? (i := 9) rfl)) (notFace_of_selects (args := #[]) (mvT hZ (hw _ (List.mem_of_getElem? (i := 11) rfl)))) (hw _ (List.mem_of_getElem? (i := 11) rfl)) (hw _ (List.mem_of_getElem? (i := 10) rfl)) (hw _ (List.mem_of_getElem? (i := 6) rfl)) (hw _ (List.mem_of_getElem? (i := 12) rfl)) (by decide) (selP_exa E_ADD E_SUBTRACT E_MULTIPLY E_DIVIDE E_REMAINDER E_LESS E_LESS_EQUAL E_GREATER E_GREATER_EQUAL E_EQUAL E_NOT_EQUAL) (rm2 l Z a0 hw [] (selP k w_ADD w_SUBTRACT w_MULTIPLY w_DIVIDE w_REMAINDER w_LESS w_LESS_EQUAL w_GREATER w_GREATER_EQUAL w_EQUAL w_NOT_EQUAL) (ordP k) w_LESS h0 n0 Z0 (selP_ord O_ADD O_SUBTRACT O_MULTIPLY O_DIVIDE O_REMAINDER O_LESS O_LESS_EQUAL O_GREATER O_GREATER_EQUAL O_EQUAL O_NOT_EQUAL) (selP_exa E_ADD E_SUBTRACT E_MULTIPLY E_DIVIDE E_REMAINDER E_LESS E_LESS_EQUAL E_GREATER E_GREATER_EQUAL E_EQUAL E_NOT_EQUAL) S_LESS E_LESS O_LESS) e101 (g := (mkF m 14 #[.val (.int p1), .val (.int k), .val (.ref (selP k w_ADD w_SUBTRACT w_MULTIPLY w_DIVIDE w_REMAINDER w_LESS w_LESS_EQUAL w_GREATER w_GREATER_EQUAL w_EQUAL w_NOT_EQUAL))] [(.ref (selP k w_ADD w_SUBTRACT w_MULTIPLY w_DIVIDE w_REMAINDER w_LESS w_LESS_EQUAL w_GREATER w_GREATER_EQUAL w_EQUAL w_NOT_EQUAL))])) rfl (by rw [hml]; rfl) (argsL := []) (rest := []) (lenOf pd2 rfl) rfl (W := 0) (by show 2 * 0 + _ ≤ _; exact Nat.le_of_eq rfl) (hb hby at_14) (by decide) (by decide) (by decide) (by decide)
  obtain ⟨rfl, N102, e102⟩ := hQ102
  refine Go.of st102 ?_
  have NF102 := Fr.app NF101 N102
  show Go p e s below _ _ _ T102 (mkF m 17 #[.val (.int p1), .val (.int k), .val (.ref (selP k w_ADD w_SUBTRACT w_MULTIPLY w_DIVIDE w_REMAINDER w_LESS w_LESS_EQUAL w_GREATER w_GREATER_EQUAL w_EQUAL w_NOT_EQUAL))] [(.int (if ordP k < 5 then (0 : Int32) else 1))])
  refine Go.of (fun _ hr => XS.iloadN X102.here hx rfl (hb hby at_17) rfl  hr) ?_
  show Go p e s below _ _ _ T102 (mkF m 18 #[.val (.int p1), .val (.int k), .val (.ref (selP k w_ADD w_SUBTRACT w_MULTIPLY w_DIVIDE w_REMAINDER w_LESS w_LESS_EQUAL w_GREATER w_GREATER_EQUAL w_EQUAL w_NOT_EQUAL))] [(.int k), (.int (if ordP k < 5 then (0 : Int32) else 1))])
  obtain ⟨_, T103, L103, X103, hQ103, st103⟩ := own_callS X102 hx hZ hown (hw _ (List.mem_of_getElem? (i := 24) rfl)) (hw _ (List.mem_of_getElem? (i := 25) rfl)) (hw _ (List.mem_of_getElem? (i := 3) rfl)) (hw _ (List.mem_of_getElem? (i := 26) rfl)) (by decide) (rm4 l Z a0 hw [] k h0 n0 Z0) e102 (g := (mkF m 18 #[.val (.int p1), .val (.int k), .val (.ref (selP k w_ADD w_SUBTRACT w_MULTIPLY w_DIVIDE w_REMAINDER w_LESS w_LESS_EQUAL w_GREATER w_GREATER_EQUAL w_EQUAL w_NOT_EQUAL))] [(.int k), (.int (if ordP k < 5 then (0 : Int32) else 1))])) rfl (by rw [hml]; rfl) (argsL := [(.int k)]) (rest := [(.int (if ordP k < 5 then (0 : Int32) else 1))]) (lenOf pd3 rfl) rfl (W := 1) (by show 2 * 0 + _ ≤ _; exact Nat.le_of_eq rfl) (hb hby at_18) (by decide) (by decide) (by decide) (by decide)
  obtain ⟨rfl, N103, e103⟩ := hQ103
  refine Go.of st103 ?_
  have NF103 := Fr.app NF102 N103
  show Go p e s below _ _ _ T103 (mkF m 21 #[.val (.int p1), .val (.int k), .val (.ref (selP k w_ADD w_SUBTRACT w_MULTIPLY w_DIVIDE w_REMAINDER w_LESS w_LESS_EQUAL w_GREATER w_GREATER_EQUAL w_EQUAL w_NOT_EQUAL))] [(.int (exB k)), (.int (if ordP k < 5 then (0 : Int32) else 1))])
  refine Go.of (fun _ hr => XS.icmpNo X103.here hx rfl (hb hby at_21) rfl (teq ord_ex).2 hr) ?_
  show Go p e s below _ _ _ T103 (mkF m 24 #[.val (.int p1), .val (.int k), .val (.ref (selP k w_ADD w_SUBTRACT w_MULTIPLY w_DIVIDE w_REMAINDER w_LESS w_LESS_EQUAL w_GREATER w_GREATER_EQUAL w_EQUAL w_NOT_EQUAL))] [])
  refine Go.of (fun _ hr => XS.iconst X103.here hx rfl (hb hby at_24) hr) ?_
  show Go p e s below _ _ _ T103 (mkF m 25 #[.val (.int p1), .val (.int k), .val (.ref (selP k w_ADD w_SUBTRACT w_MULTIPLY w_DIVIDE w_REMAINDER w_LESS w_LESS_EQUAL w_GREATER w_GREATER_EQUAL w_EQUAL w_NOT_EQUAL))] [(.int (1 : Int32))])
  refine Go.of (fun _ hr => XS.goto X103.here hx rfl (pc0 := 25) (pc' := 29) rfl (hb hby at_25) (by decide) (by decide) hr) ?_
  show Go p e s below _ _ _ T103 (mkF m 29 #[.val (.int p1), .val (.int k), .val (.ref (selP k w_ADD w_SUBTRACT w_MULTIPLY w_DIVIDE w_REMAINDER w_LESS w_LESS_EQUAL w_GREATER w_GREATER_EQUAL w_EQUAL w_NOT_EQUAL))] [(.int (1 : Int32))])
  exact Go.retN X103 hx hlk (t := .boolean) (z' := (1 : Int32)) hret (by simp) (hb hby at_29) rfl (by decide) (by decide) ⟨rfl, NF103⟩

set_option maxRecDepth 65536 in
set_option maxHeartbeats 40000000 in
theorem comes_1 {Post : Tables → Env → Array Value → State → Outcome → State → Prop} (hpost : ∀ tb e args s v u, (limb_1_1.after args s (.returned v) u = true ∧ limb_1_2.after args s (.returned v) u = true ∧ True) → FrameEnd s (.returned v) u (Jvm.fieldLocs frame_1_writes args s ++ Jvm.arrayLocs frame_1_arrays args s ++ Jvm.staticLocs frame_1_statics s) 0 0 → Post tb e args s (.returned v) u) :
    ArmFor flags0 classFile x code maxLocals ret World_1 tables_1 room_1 Calls_1 rest_1 Pre_1 Post := by
  intro l hfl _ _ p e ha hc hk s m args below hf hA hF happ hP
  obtain ⟨hcalls, hrest, hpre⟩ := hP
  obtain ⟨-, -, -, hnamed, -, -, -, hat⟩ := (Spec.applies_iff hf).mp happ
  obtain ⟨hg, hn⟩ := and_e (Cond.before_iff.mp (show (Jvm.Cond.and given_1 narrow_1).before args s = true from hpre))
  have hw := fun d (hd : d ∈ tables_1) => atoms_spec (ws := Jvm.Cond.code x code maxLocals ret :: tables_1) hat d (List.mem_cons_of_mem _ hd)
  have hfit : Fit s := fun {y c} hc i hi => by
    obtain ⟨ha, rfl⟩ := Array.getElem?_eq_some_iff.mp hc
    have q := List.all_eq_true.mp ((Array.all_eq_true_iff_forall_mem.mp hF) _ (Array.getElem_mem ha)) i (List.mem_range.mpr hi)
    simpa [Array.getElem?_eq_getElem hi] using q
  obtain ⟨hg0, hg⟩ := and_e hg
  obtain ⟨w0, rfl⟩ : ∃ w0 : Value, args = #[w0] := by
    have hs : args.size = 1 := by simpa [Cond.value] using hg0
    obtain ⟨L⟩ := args
    match L, hs with
    | [w0], _ => exact ⟨w0, rfl⟩
  obtain ⟨i0, ev0⟩ := is_v hg
  obtain rfl : w0 = (.int i0) := Option.some.inj ev0
  obtain ⟨hn0, hn⟩ := and_e hn
  obtain ⟨hn1, hn⟩ := and_e hn
  obtain ⟨hn2, hn⟩ := and_e hn
  obtain ⟨hn3, hn⟩ := and_e hn
  obtain ⟨hn4, hn⟩ := and_e hn
  obtain ⟨hn5, hn⟩ := and_e hn
  obtain ⟨hn6, hn⟩ := and_e hn
  obtain ⟨hn7, hn⟩ := and_e hn
  obtain ⟨hn8, hn⟩ := and_e hn
  obtain ⟨hn9, hn⟩ := and_e hn
  obtain ⟨hn10, hn⟩ := and_e hn
  obtain ⟨hn11, hn⟩ := and_e hn
  obtain ⟨hn12, hn⟩ := and_e hn
  obtain ⟨hn13, hn⟩ := and_e hn
  obtain ⟨hn14, hn⟩ := and_e hn
  obtain ⟨hn15, hn⟩ := and_e hn
  obtain ⟨hn16, hn⟩ := and_e hn
  obtain ⟨hn17, hn⟩ := and_e hn
  obtain ⟨hn18, hn⟩ := and_e hn
  obtain ⟨hn19, hn⟩ := and_e hn
  obtain ⟨hn20, hn⟩ := and_e hn
  obtain ⟨w_ADD, ev_ADD⟩ := exa_v hn0
  have E_ADD := Exa.start ev_ADD hn0
  have S_ADD := Sta.start ev_ADD (Or.inr ⟨(hw _ (List.mem_of_getElem? (i := 6) rfl)), (hw _ (List.mem_of_getElem? (i := 7) rfl))⟩)
  obtain ⟨w_LESS, ev_LESS⟩ := exa_v hn2
  have E_LESS := Exa.start ev_LESS hn2
  have S_LESS := Sta.start ev_LESS (Or.inr ⟨(hw _ (List.mem_of_getElem? (i := 6) rfl)), (hw _ (List.mem_of_getElem? (i := 23) rfl))⟩)
  obtain ⟨w_DIVIDE, ev_DIVIDE⟩ := exa_v hn4
  have E_DIVIDE := Exa.start ev_DIVIDE hn4
  have S_DIVIDE := Sta.start ev_DIVIDE (Or.inr ⟨(hw _ (List.mem_of_getElem? (i := 6) rfl)), (hw _ (List.mem_of_getElem? (i := 28) rfl))⟩)
  obtain ⟨w_GREATER, ev_GREATER⟩ := exa_v hn6
  have E_GREATER := Exa.start ev_GREATER hn6
  have S_GREATER := Sta.start ev_GREATER (Or.inr ⟨(hw _ (List.mem_of_getElem? (i := 6) rfl)), (hw _ (List.mem_of_getElem? (i := 30) rfl))⟩)
  obtain ⟨w_GREATER_EQUAL, ev_GREATER_EQUAL⟩ := exa_v hn8
  have E_GREATER_EQUAL := Exa.start ev_GREATER_EQUAL hn8
  have S_GREATER_EQUAL := Sta.start ev_GREATER_EQUAL (Or.inr ⟨(hw _ (List.mem_of_getElem? (i := 6) rfl)), (hw _ (List.mem_of_getElem? (i := 32) rfl))⟩)
  obtain ⟨w_MULTIPLY, ev_MULTIPLY⟩ := exa_v hn10
  have E_MULTIPLY := Exa.start ev_MULTIPLY hn10
  have S_MULTIPLY := Sta.start ev_MULTIPLY (Or.inr ⟨(hw _ (List.mem_of_getElem? (i := 6) rfl)), (hw _ (List.mem_of_getElem? (i := 34) rfl))⟩)
  obtain ⟨w_NOT_EQUAL, ev_NOT_EQUAL⟩ := exa_v hn12
  have E_NOT_EQUAL := Exa.start ev_NOT_EQUAL hn12
  have S_NOT_EQUAL := Sta.start ev_NOT_EQUAL (Or.inr ⟨(hw _ (List.mem_of_getElem? (i := 6) rfl)), (hw _ (List.mem_of_getElem? (i := 36) rfl))⟩)
  obtain ⟨w_SUBTRACT, ev_SUBTRACT⟩ := exa_v hn14
  have E_SUBTRACT := Exa.start ev_SUBTRACT hn14
  have S_SUBTRACT := Sta.start ev_SUBTRACT (Or.inr ⟨(hw _ (List.mem_of_getElem? (i := 6) rfl)), (hw _ (List.mem_of_getElem? (i := 38) rfl))⟩)
  obtain ⟨w_EQUAL, ev_EQUAL⟩ := exa_v hn16
  have E_EQUAL := Exa.start ev_EQUAL hn16
  have S_EQUAL := Sta.start ev_EQUAL (Or.inr ⟨(hw _ (List.mem_of_getElem? (i := 6) rfl)), (hw _ (List.mem_of_getElem? (i := 40) rfl))⟩)
  obtain ⟨w_LESS_EQUAL, ev_LESS_EQUAL⟩ := exa_v hn18
  have E_LESS_EQUAL := Exa.start ev_LESS_EQUAL hn18
  have S_LESS_EQUAL := Sta.start ev_LESS_EQUAL (Or.inr ⟨(hw _ (List.mem_of_getElem? (i := 6) rfl)), (hw _ (List.mem_of_getElem? (i := 43) rfl))⟩)
  obtain ⟨w_REMAINDER, ev_REMAINDER⟩ := exa_v hn20
  have E_REMAINDER := Exa.start ev_REMAINDER hn20
  have S_REMAINDER := Sta.start ev_REMAINDER (Or.inr ⟨(hw _ (List.mem_of_getElem? (i := 6) rfl)), (hw _ (List.mem_of_getElem? (i := 45) rfl))⟩)
  have O_ADD := Fld.start ((fld_at ev_ADD).symm.trans (own_eqI hn1))
  have O_LESS := Fld.start ((fld_at ev_LESS).symm.trans (own_eqI hn3))
  have O_DIVIDE := Fld.start ((fld_at ev_DIVIDE).symm.trans (own_eqI hn5))
  have O_GREATER := Fld.start ((fld_at ev_GREATER).symm.trans (own_eqI hn7))
  have O_GREATER_EQUAL := Fld.start ((fld_at ev_GREATER_EQUAL).symm.trans (own_eqI hn9))
  have O_MULTIPLY := Fld.start ((fld_at ev_MULTIPLY).symm.trans (own_eqI hn11))
  have O_NOT_EQUAL := Fld.start ((fld_at ev_NOT_EQUAL).symm.trans (own_eqI hn13))
  have O_SUBTRACT := Fld.start ((fld_at ev_SUBTRACT).symm.trans (own_eqI hn15))
  have O_EQUAL := Fld.start ((fld_at ev_EQUAL).symm.trans (own_eqI hn17))
  have O_LESS_EQUAL := Fld.start ((fld_at ev_LESS_EQUAL).symm.trans (own_eqI hn19))
  have O_REMAINDER := Fld.start ((fld_at ev_REMAINDER).symm.trans (own_eqI hn))
  obtain ⟨n, o, h1, h2, h3, _, L, rfl, ⟨rfl, N⟩, hq⟩ := rm0 l s _ hw tables_1 i0 w_ADD w_SUBTRACT w_MULTIPLY w_DIVIDE w_REMAINDER w_LESS w_LESS_EQUAL w_GREATER w_GREATER_EQUAL w_EQUAL w_NOT_EQUAL s.heap s.heap.size (Nat.le_refl _) S_ADD S_SUBTRACT S_MULTIPLY S_DIVIDE S_REMAINDER S_LESS S_LESS_EQUAL S_GREATER S_GREATER_EQUAL S_EQUAL S_NOT_EQUAL E_ADD E_SUBTRACT E_MULTIPLY E_DIVIDE E_REMAINDER E_LESS E_LESS_EQUAL E_GREATER E_GREATER_EQUAL E_EQUAL E_NOT_EQUAL O_ADD O_SUBTRACT O_MULTIPLY O_DIVIDE O_REMAINDER O_LESS O_LESS_EQUAL O_GREATER O_GREATER_EQUAL O_EQUAL O_NOT_EQUAL p e ha hc hk s m _ below hf ((Spec.applies_iff_loose hf).mp happ).1 ⟨rfl, State.Warmed39.refl s, rfl⟩ trivial
  refine ⟨n, _, h1, h2, h3, hpost _ _ _ _ _ _ ⟨Cond.after_iff.mpr rfl, Cond.after_iff.mpr (eq_i res_at (Term.int_eval (1)) rfl), trivial⟩ ⟨hq.1, hq.2.1, (hq.2.2.sift fun y hy => Or.inr (N y hy)).mono (by decide) (by decide)⟩⟩
theorem main_1_1 : Claimed_1_1 := comes_1 fun _ _ _ _ _ _ h hF => ⟨h.1, hF⟩
theorem main_1_2 : Claimed_1_2 := comes_1 fun _ _ _ _ _ _ h hF => ⟨h.2.1, hF⟩

end Jvm.Pilot.@@N@@
namespace Jvm.Pilot.@@N@@
open Jvm Jvm.ClassFile Sem Op Lib Jvm.Free Jvm.Stand Jvm.Pilot.@@N@@.Jvm.D
/-! MADE BY PROGRAM (witnessworld.py) out of the Statement's table words and the real class files: 12 classes; the members and pool entries that the words name. The judged class is class 1, her method 3. -/
namespace start1
open Jvm.ClassFile
def u (s : String) : CpInfo := .utf8 (stringToUtf16 s)
/-- a pool by its gaps: so many unusable entries, then the entry; so many at the end -/
def gap : Nat → List CpInfo → List CpInfo
  | 0, r => r
  | n + 1, r => .unusable :: gap n r
def poolList (es : List (Nat × CpInfo)) (last : Nat) : List CpInfo := es.foldr (fun e r => gap e.1 (e.2 :: r)) (gap last [])
def pool (es : List (Nat × CpInfo)) (last : Nat) : Array CpInfo := ⟨poolList es last⟩
def fileOf (pool : Array CpInfo) (this : Nat) (attrs : Array Attribute := #[]) (ms : Array MethodInfo := #[]) (fl : Nat := 33) (sup : Nat := 0) (ifs : Array Nat := #[]) (fds : Array FieldInfo := #[]) : ClassFile where
  minorVersion := 0
  majorVersion := 65
  constantPool := pool
  accessFlags := fl
  thisClass := this
  superClass := sup
  interfaces := ifs
  fields := fds
  methods := ms
  attributes := attrs
def plain (name : String) (sup : Option ClassId) : Class where
  name := name
  kind := .ordinary
  loader := none
  accessFlags := 33
  super := sup
  interfaces := #[]
  cf := none
  fields := #[]
  methods := #[]
  instanceTypes := #[]
  staticTypes := #[]
  resolved := #[]
  callSites := []
  init := .initialized
  statics := none
  mirror := none

def pool0 : Array CpInfo := pool [(5, u "<init>"), (0, u "()V"), (1, .class_ 10), (1, u "java/lang/Object")] 113

def k0m0 : Method := { name := "<init>", desc := "()V", sig := { parameters := [], returnType := none }, accessFlags := 1, code := none }
/-- java/lang/Object -/
def k0 : Class := { plain "java/lang/Object" none with
  accessFlags := 33
  interfaces := #[]
  cf := some (fileOf pool0 8 #[] #[{ accessFlags := 1, nameIndex := 5, descriptorIndex := 6, attributes := #[] }] 33 0 #[] #[])
  fields := #[]
  methods := #[k0m0]
  instanceTypes := #[]
  staticTypes := #[]
  resolved := Array.replicate 124 none
  statics := none }

def pool1 : Array CpInfo := pool [(2, .class_ 4), (1, u "java/lang/Object"), (0, u "<init>"), (0, u "()V"), (0, .fieldref 8 9), (0, .class_ 10), (0, .nameAndType 11 12), (0, u "com/example/liken2/liken2/frontend/BinaryOperator"), (0, u "ADD"), (0, u "Lcom/example/liken2/liken2/frontend/BinaryOperator;"), (0, .fieldref 8 14), (0, .nameAndType 15 12), (0, u "SUBTRACT"), (0, .fieldref 8 17), (0, .nameAndType 18 12), (0, u "MULTIPLY"), (0, .fieldref 8 20), (0, .nameAndType 21 12), (0, u "DIVIDE"), (0, .fieldref 8 23), (0, .nameAndType 24 12), (0, u "REMAINDER"), (0, .fieldref 8 26), (0, .nameAndType 27 12), (0, u "LESS"), (0, .fieldref 8 29), (0, .nameAndType 30 12), (0, u "LESS_EQUAL"), (0, .fieldref 8 32), (0, .nameAndType 33 12), (0, u "GREATER"), (0, .fieldref 8 35), (0, .nameAndType 36 12), (0, u "GREATER_EQUAL"), (0, .fieldref 8 38), (0, .nameAndType 39 12), (0, u "EQUAL"), (0, .fieldref 8 41), (0, .nameAndType 42 12), (0, u "NOT_EQUAL"), (0, .integer 2147483647), (0, .methodref 45 46), (0, .class_ 47), (0, .nameAndType 48 49), (0, u "com/example/liken2/liken2/frontend/BinaryOperatorIsComparisonPinLaw"), (0, u "pick"), (0, u "(I)Lcom/example/liken2/liken2/frontend/BinaryOperator;"), (0, .methodref 8 51), (0, .nameAndType 52 53), (0, u "isComparison"), (0, u "()Z"), (0, .methodref 45 55), (0, .nameAndType 56 57), (0, u "expected"), (0, u "(I)Z"), (3, u "law")] 2

def k1m0 : Method := { name := "<init>", desc := "()V", sig := { parameters := [], returnType := none }, accessFlags := 1, code := none }
def k1c1 : Code := { maxStack := 2, maxLocals := 1, code := method_2_code, exceptionTable := #[], attributes := #[] }
def k1m1 : Method := { name := "pick", desc := "(I)Lcom/example/liken2/liken2/frontend/BinaryOperator;", sig := { parameters := [.int], returnType := some (.object "com/example/liken2/liken2/frontend/BinaryOperator") }, accessFlags := 10, code := some k1c1 }
def k1c2 : Code := { maxStack := 2, maxLocals := 1, code := method_3_code, exceptionTable := #[], attributes := #[] }
def k1m2 : Method := { name := "expected", desc := "(I)Z", sig := { parameters := [.int], returnType := some .boolean }, accessFlags := 10, code := some k1c2 }
def k1c3 : Code := { maxStack := 2, maxLocals := 3, code := code, exceptionTable := #[], attributes := #[] }
def k1m3 : Method := { name := "law", desc := "(I)Z", sig := { parameters := [.int], returnType := some .boolean }, accessFlags := 9, code := some k1c3 }
/-- com/example/liken2/liken2/frontend/BinaryOperatorIsComparisonPinLaw -/
def k1 : Class := { plain "com/example/liken2/liken2/frontend/BinaryOperatorIsComparisonPinLaw" (some 0) with
  accessFlags := 49
  interfaces := #[]
  cf := some (fileOf pool1 45 #[] #[{ accessFlags := 1, nameIndex := 5, descriptorIndex := 6, attributes := #[] }, { accessFlags := 10, nameIndex := 48, descriptorIndex := 49, attributes := #[] }, { accessFlags := 10, nameIndex := 56, descriptorIndex := 57, attributes := #[] }, { accessFlags := 9, nameIndex := 61, descriptorIndex := 57, attributes := #[] }] 49 2 #[] #[])
  fields := #[]
  methods := #[k1m0, k1m1, k1m2, k1m3]
  instanceTypes := #[]
  staticTypes := #[]
  resolved := Array.replicate 64 none
  statics := none }

def pool2 : Array CpInfo := pool [(1, .class_ 2), (0, u "java/lang/constant/Constable"), (0, .class_ 4), (0, u "java/lang/Object")] 6

/-- java/lang/constant/Constable -/
def k2 : Class := { plain "java/lang/constant/Constable" (some 0) with
  accessFlags := 1537
  interfaces := #[]
  cf := some (fileOf pool2 1 #[] #[] 1537 3 #[] #[])
  fields := #[]
  methods := #[]
  instanceTypes := #[]
  staticTypes := #[]
  resolved := Array.replicate 11 none
  statics := none }

def pool3 : Array CpInfo := pool [(1, .class_ 2), (0, u "java/lang/Comparable"), (0, .class_ 4), (0, u "java/lang/Object")] 7

/-- java/lang/Comparable -/
def k3 : Class := { plain "java/lang/Comparable" (some 0) with
  accessFlags := 1537
  interfaces := #[]
  cf := some (fileOf pool3 1 #[] #[] 1537 3 #[] #[])
  fields := #[]
  methods := #[]
  instanceTypes := #[]
  staticTypes := #[]
  resolved := Array.replicate 12 none
  statics := none }

def pool4 : Array CpInfo := pool [(1, .class_ 2), (0, u "java/io/Serializable"), (0, .class_ 4), (0, u "java/lang/Object")] 2

/-- java/io/Serializable -/
def k4 : Class := { plain "java/io/Serializable" (some 0) with
  accessFlags := 1537
  interfaces := #[]
  cf := some (fileOf pool4 1 #[] #[] 1537 3 #[] #[])
  fields := #[]
  methods := #[]
  instanceTypes := #[]
  staticTypes := #[]
  resolved := Array.replicate 7 none
  statics := none }

def pool5 : Array CpInfo := pool [(2, .class_ 4), (1, u "java/lang/Enum"), (0, u "name"), (0, u "Ljava/lang/String;"), (0, .fieldref 2 8), (0, .nameAndType 9 10), (0, u "ordinal"), (0, u "I"), (1, .class_ 14), (1, u "java/lang/Object"), (4, u "hash"), (86, .class_ 108), (1, u "java/lang/Enum$EnumDesc"), (2, .class_ 112), (0, u "java/lang/constant/Constable"), (0, .class_ 114), (0, u "java/lang/Comparable"), (0, .class_ 116), (0, u "java/io/Serializable"), (9, u "()I")] 77

def k5c0 : Code := { maxStack := 1, maxLocals := 1, code := jdk_37_method_2_code, exceptionTable := #[], attributes := #[] }
def k5m0 : Method := { name := "ordinal", desc := "()I", sig := { parameters := [], returnType := some .int }, accessFlags := 17, code := some k5c0 }
/-- java/lang/Enum -/
def k5 : Class := { plain "java/lang/Enum" (some 0) with
  accessFlags := 1057
  interfaces := #[2, 3, 4]
  cf := some (fileOf pool5 2 #[.nestMembers #[106]] #[{ accessFlags := 17, nameIndex := 9, descriptorIndex := 126, attributes := #[] }] 1057 12 #[111, 113, 115] #[{ accessFlags := 18, nameIndex := 5, descriptorIndex := 6, attributes := #[] }, { accessFlags := 18, nameIndex := 9, descriptorIndex := 10, attributes := #[] }, { accessFlags := 2, nameIndex := 19, descriptorIndex := 10, attributes := #[] }])
  fields := #[{ name := "name", type := (.object "java/lang/String"), accessFlags := 18, slot := 0, constantValue := 0 }, { name := "ordinal", type := .int, accessFlags := 18, slot := 1, constantValue := 0 }, { name := "hash", type := .int, accessFlags := 2, slot := 2, constantValue := 0 }]
  methods := #[k5m0]
  instanceTypes := #[(.object "java/lang/String"), .int, .int]
  staticTypes := #[]
  resolved := Array.replicate 204 none
  statics := none }

def pool6 : Array CpInfo := pool [(1, .class_ 2), (0, u "com/example/liken2/liken2/frontend/BinaryOperator"), (2, u "ADD"), (0, u "Lcom/example/liken2/liken2/frontend/BinaryOperator;"), (2, u "SUBTRACT"), (2, u "MULTIPLY"), (2, u "DIVIDE"), (2, u "REMAINDER"), (0, .fieldref 1 20), (0, .nameAndType 21 6), (0, u "LESS"), (2, u "LESS_EQUAL"), (2, u "GREATER"), (2, u "GREATER_EQUAL"), (2, u "EQUAL"), (2, u "NOT_EQUAL"), (2, u "$VALUES"), (0, u "[Lcom/example/liken2/liken2/frontend/BinaryOperator;"), (6, .class_ 49), (1, u "java/lang/Enum"), (8, u "symbol"), (0, u "Ljava/lang/String;"), (0, .methodref 1 61), (0, .nameAndType 62 63), (0, u "ordinal"), (0, u "()I"), (99, u "isComparison"), (0, u "()Z")] 27

def k6c0 : Code := { maxStack := 2, maxLocals := 1, code := prog_8_method_5_code, exceptionTable := #[], attributes := #[] }
def k6m0 : Method := { name := "isComparison", desc := "()Z", sig := { parameters := [], returnType := some .boolean }, accessFlags := 1, code := some k6c0 }
/-- com/example/liken2/liken2/frontend/BinaryOperator -/
def k6 : Class := { plain "com/example/liken2/liken2/frontend/BinaryOperator" (some 5) with
  accessFlags := 16433
  interfaces := #[]
  cf := some (fileOf pool6 1 #[] #[{ accessFlags := 1, nameIndex := 163, descriptorIndex := 164, attributes := #[] }] 16433 47 #[] #[{ accessFlags := 16409, nameIndex := 5, descriptorIndex := 6, attributes := #[] }, { accessFlags := 16409, nameIndex := 9, descriptorIndex := 6, attributes := #[] }, { accessFlags := 16409, nameIndex := 12, descriptorIndex := 6, attributes := #[] }, { accessFlags := 16409, nameIndex := 15, descriptorIndex := 6, attributes := #[] }, { accessFlags := 16409, nameIndex := 18, descriptorIndex := 6, attributes := #[] }, { accessFlags := 16409, nameIndex := 21, descriptorIndex := 6, attributes := #[] }, { accessFlags := 16409, nameIndex := 24, descriptorIndex := 6, attributes := #[] }, { accessFlags := 16409, nameIndex := 27, descriptorIndex := 6, attributes := #[] }, { accessFlags := 16409, nameIndex := 30, descriptorIndex := 6, attributes := #[] }, { accessFlags := 16409, nameIndex := 33, descriptorIndex := 6, attributes := #[] }, { accessFlags := 16409, nameIndex := 36, descriptorIndex := 6, attributes := #[] }, { accessFlags := 18, nameIndex := 58, descriptorIndex := 59, attributes := #[] }, { accessFlags := 4122, nameIndex := 39, descriptorIndex := 40, attributes := #[] }])
  fields := #[{ name := "ADD", type := (.object "com/example/liken2/liken2/frontend/BinaryOperator"), accessFlags := 16409, slot := 0, constantValue := 0 }, { name := "SUBTRACT", type := (.object "com/example/liken2/liken2/frontend/BinaryOperator"), accessFlags := 16409, slot := 1, constantValue := 0 }, { name := "MULTIPLY", type := (.object "com/example/liken2/liken2/frontend/BinaryOperator"), accessFlags := 16409, slot := 2, constantValue := 0 }, { name := "DIVIDE", type := (.object "com/example/liken2/liken2/frontend/BinaryOperator"), accessFlags := 16409, slot := 3, constantValue := 0 }, { name := "REMAINDER", type := (.object "com/example/liken2/liken2/frontend/BinaryOperator"), accessFlags := 16409, slot := 4, constantValue := 0 }, { name := "LESS", type := (.object "com/example/liken2/liken2/frontend/BinaryOperator"), accessFlags := 16409, slot := 5, constantValue := 0 }, { name := "LESS_EQUAL", type := (.object "com/example/liken2/liken2/frontend/BinaryOperator"), accessFlags := 16409, slot := 6, constantValue := 0 }, { name := "GREATER", type := (.object "com/example/liken2/liken2/frontend/BinaryOperator"), accessFlags := 16409, slot := 7, constantValue := 0 }, { name := "GREATER_EQUAL", type := (.object "com/example/liken2/liken2/frontend/BinaryOperator"), accessFlags := 16409, slot := 8, constantValue := 0 }, { name := "EQUAL", type := (.object "com/example/liken2/liken2/frontend/BinaryOperator"), accessFlags := 16409, slot := 9, constantValue := 0 }, { name := "NOT_EQUAL", type := (.object "com/example/liken2/liken2/frontend/BinaryOperator"), accessFlags := 16409, slot := 10, constantValue := 0 }, { name := "symbol", type := (.object "java/lang/String"), accessFlags := 18, slot := 3, constantValue := 0 }, { name := "$VALUES", type := (.array (.object "com/example/liken2/liken2/frontend/BinaryOperator")), accessFlags := 4122, slot := 11, constantValue := 0 }]
  methods := #[k6m0]
  instanceTypes := #[(.object "java/lang/String"), .int, .int, (.object "java/lang/String")]
  staticTypes := #[(.object "com/example/liken2/liken2/frontend/BinaryOperator"), (.object "com/example/liken2/liken2/frontend/BinaryOperator"), (.object "com/example/liken2/liken2/frontend/BinaryOperator"), (.object "com/example/liken2/liken2/frontend/BinaryOperator"), (.object "com/example/liken2/liken2/frontend/BinaryOperator"), (.object "com/example/liken2/liken2/frontend/BinaryOperator"), (.object "com/example/liken2/liken2/frontend/BinaryOperator"), (.object "com/example/liken2/liken2/frontend/BinaryOperator"), (.object "com/example/liken2/liken2/frontend/BinaryOperator"), (.object "com/example/liken2/liken2/frontend/BinaryOperator"), (.object "com/example/liken2/liken2/frontend/BinaryOperator"), (.array (.object "com/example/liken2/liken2/frontend/BinaryOperator"))]
  resolved := Array.replicate 192 none
  statics := some 0 }

def pool7 : Array CpInfo := pool [(1, u "java/lang/Cloneable"), (0, .class_ 1), (0, u "java/lang/Object"), (0, .class_ 3)] 3

/-- java/lang/Cloneable -/
def k7 : Class := { plain "java/lang/Cloneable" (some 0) with
  accessFlags := 1537
  interfaces := #[]
  cf := some (fileOf pool7 2 #[] #[] 1537 4 #[] #[])
  fields := #[]
  methods := #[]
  instanceTypes := #[]
  staticTypes := #[]
  resolved := Array.replicate 8 none
  statics := none }

/-- the primitive byte -/
def k8 : Class := { plain "byte" none with kind := .primitive 'B', accessFlags := 0x411 }
/-- [B -/
def k9 : Class := { plain "[B" (some 0) with kind := .array 8 .byte, interfaces := #[7, 4], accessFlags := 1041 }

/-- the primitive int -/
def k10 : Class := { plain "int" none with kind := .primitive 'I', accessFlags := 0x411 }
/-- [I -/
def k11 : Class := { plain "[I" (some 0) with kind := .array 10 .int, interfaces := #[7, 4], accessFlags := 1041 }

def heap : Heap := #[{ cls := 6, slots := #[.ref 1, .ref 2, .ref 3, .ref 4, .ref 5, .ref 6, .ref 7, .ref 8, .ref 9, .ref 10, .ref 11, .null], vm := .statics 6 },
  { cls := 6, slots := #[.null, .int 0, .int 0, .null], vm := .none },
  { cls := 6, slots := #[.null, .int 1, .int 0, .null], vm := .none },
  { cls := 6, slots := #[.null, .int 2, .int 0, .null], vm := .none },
  { cls := 6, slots := #[.null, .int 3, .int 0, .null], vm := .none },
  { cls := 6, slots := #[.null, .int 4, .int 0, .null], vm := .none },
  { cls := 6, slots := #[.null, .int 5, .int 0, .null], vm := .none },
  { cls := 6, slots := #[.null, .int 6, .int 0, .null], vm := .none },
  { cls := 6, slots := #[.null, .int 7, .int 0, .null], vm := .none },
  { cls := 6, slots := #[.null, .int 8, .int 0, .null], vm := .none },
  { cls := 6, slots := #[.null, .int 9, .int 0, .null], vm := .none },
  { cls := 6, slots := #[.null, .int 10, .int 0, .null], vm := .none }]
def classes : Array Class := #[k0, k1, k2, k3, k4, k5, k6, k7, k8, k9, k10, k11]
def interned : List (Array UInt16 × Addr) := []
def slotsUsed : Nat := 56
def theMethod : MethodId := ⟨1, 3⟩
def args0 : Array Value := #[.int 5]
def aboutOver (below : List Frame) : State where
  vm := { classes := classes, interned := interned.toArray }
  heap := heap
  slotsUsed := slotsUsed
  threads := #[{ frames := .invoking theMethod args0 :: below }]
def below0 : List Frame := [.native { method := ⟨0, 0⟩, args := #[] }]
def about1 : State := aboutOver below0
def p0 : Program := .bare "" "" ""
def e0 : Env := launch0.env 0 0 0
theorem w_frames : about1.frames = Frame.invoking theMethod args0 :: below0 := rfl
set_option maxRecDepth 65536 in
theorem w_args : argsFit about1.vm theMethod args0 = true := by decide +kernel
set_option maxRecDepth 65536 in
theorem w_heap : heapFits about1 = true := by decide +kernel
set_option maxRecDepth 65536 in
theorem w_runnable : about1.curStatus? = some .runnable := by decide +kernel
set_option maxRecDepth 65536 in
theorem w_alone : about1.alone = true := by decide +kernel
set_option maxRecDepth 65536 in
theorem w_named : about1.methodNamed? x = some theMethod := by decide +kernel
set_option maxRecDepth 65536 in
theorem w_hears : about1.hears theMethod below0 = true := by decide +kernel
set_option maxRecDepth 65536 in
theorem w_ripe : about1.ripe theMethod args0 below0 = true := by decide +kernel
theorem w_running : about1.status = .running := rfl
set_option maxRecDepth 65536 in
theorem w_room : about1.hasRoom e0.platform room_1 = true :=
  launch0.hasRoom_least _ room_1 (by decide +kernel) (by decide +kernel) (by decide +kernel) (by decide +kernel) (by decide +kernel) (by decide +kernel)
theorem allAtoms_all (ts : List Jvm.Cond) (a : Array Jvm.Value) (st : Jvm.State) : (allAtoms ts).before a st = ts.all (fun c => c.before a st) := by
  induction ts with
  | nil => rfl
  | cons c t ih =>
    show (Jvm.Cond.and c (allAtoms t)).before a st = _
    rw [Jvm.Cond.before_and, ih, List.all_cons]
def words1 : List Jvm.Cond := Jvm.Cond.code x code maxLocals ret :: tables_1
/-- a 'code' word, met by the world's own term for the bytes: nothing is compared byte by byte -/
theorem code_word {y : MethodName} {bytes : ByteArray} {mx : Nat} {rt : Option FieldType} {a : Array Value} {s : State} {m : MethodId} {meth : Method} {c : Code} (h1 : s.methodNamed? y = some m) (h2 : s.vm.method? m = some meth) (h3 : meth.code = some c) (h4 : c.code = bytes)
    (h5 : (c.maxLocals == mx && c.exceptionTable.isEmpty && decide (c.maxStack ≤ mostOperands) && decide (meth.sig.returnType = rt) && !meth.locks && decide (parseMethodDescriptor y.desc = some meth.sig)) = true) : (Jvm.Cond.code y bytes mx rt).before a s = true := by
  simp only [Bool.and_eq_true, beq_iff_eq, Bool.not_eq_true', decide_eq_true_eq] at h5
  obtain ⟨⟨⟨⟨⟨g1, g2⟩, g3⟩, g4⟩, g5⟩, g6⟩ := h5
  simp [Cond.before, Cond.holds, Cond.value, h1, h2, h3, h4, g1, g2, g3, g4, g5, g6]
def isCode : Jvm.Cond → Bool
  | .code _ _ _ _ => true
  | _ => false
theorem all_split {L : List Jvm.Cond} {P : Jvm.Cond → Bool} (h1 : L.all (fun c => isCode c || P c) = true) (h2 : ∀ c ∈ L.filter isCode, P c = true) : L.all P = true := by
  refine List.all_eq_true.mpr fun c hc => ?_
  have h := List.all_eq_true.mp h1 c hc
  rcases Bool.eq_false_or_eq_true (isCode c) with hi | hi
  · exact h2 c (List.mem_filter.mpr ⟨hc, hi⟩)
  · simpa [hi] using h
set_option maxRecDepth 65536 in
theorem w_c0 : (Jvm.Cond.code x code maxLocals ret).before args0 about1 = true := code_word (m := ⟨1, 3⟩) (meth := k1m3) (c := k1c3) (by decide +kernel) rfl rfl rfl (by decide +kernel)
set_option maxRecDepth 65536 in
theorem w_c1 : (Jvm.Cond.code ({ cls := "com/example/liken2/liken2/frontend/BinaryOperatorIsComparisonPinLaw", name := "pick", desc := "(I)Lcom/example/liken2/liken2/frontend/BinaryOperator;" } : Jvm.MethodName) method_2_code (1 : Nat) (Option.some (Jvm.ClassFile.FieldType.object "com/example/liken2/liken2/frontend/BinaryOperator"))).before args0 about1 = true := code_word (m := ⟨1, 1⟩) (meth := k1m1) (c := k1c1) (by decide +kernel) rfl rfl rfl (by decide +kernel)
set_option maxRecDepth 65536 in
theorem w_c2 : (Jvm.Cond.code ({ cls := "com/example/liken2/liken2/frontend/BinaryOperator", name := "isComparison", desc := "()Z" } : Jvm.MethodName) prog_8_method_5_code (1 : Nat) (Option.some Jvm.ClassFile.FieldType.boolean)).before args0 about1 = true := code_word (m := ⟨6, 0⟩) (meth := k6m0) (c := k6c0) (by decide +kernel) rfl rfl rfl (by decide +kernel)
set_option maxRecDepth 65536 in
theorem w_c3 : (Jvm.Cond.code ({ cls := "java/lang/Enum", name := "ordinal", desc := "()I" } : Jvm.MethodName) jdk_37_method_2_code (1 : Nat) (Option.some Jvm.ClassFile.FieldType.int)).before args0 about1 = true := code_word (m := ⟨5, 0⟩) (meth := k5m0) (c := k5c0) (by decide +kernel) rfl rfl rfl (by decide +kernel)
set_option maxRecDepth 65536 in
theorem w_c4 : (Jvm.Cond.code ({ cls := "com/example/liken2/liken2/frontend/BinaryOperatorIsComparisonPinLaw", name := "expected", desc := "(I)Z" } : Jvm.MethodName) method_3_code (1 : Nat) (Option.some Jvm.ClassFile.FieldType.boolean)).before args0 about1 = true := code_word (m := ⟨1, 2⟩) (meth := k1m2) (c := k1c2) (by decide +kernel) rfl rfl rfl (by decide +kernel)
def codes1 : List Jvm.Cond := [Jvm.Cond.code x code maxLocals ret, Jvm.Cond.code ({ cls := "com/example/liken2/liken2/frontend/BinaryOperatorIsComparisonPinLaw", name := "pick", desc := "(I)Lcom/example/liken2/liken2/frontend/BinaryOperator;" } : Jvm.MethodName) method_2_code (1 : Nat) (Option.some (Jvm.ClassFile.FieldType.object "com/example/liken2/liken2/frontend/BinaryOperator")), Jvm.Cond.code ({ cls := "com/example/liken2/liken2/frontend/BinaryOperator", name := "isComparison", desc := "()Z" } : Jvm.MethodName) prog_8_method_5_code (1 : Nat) (Option.some Jvm.ClassFile.FieldType.boolean), Jvm.Cond.code ({ cls := "java/lang/Enum", name := "ordinal", desc := "()I" } : Jvm.MethodName) jdk_37_method_2_code (1 : Nat) (Option.some Jvm.ClassFile.FieldType.int), Jvm.Cond.code ({ cls := "com/example/liken2/liken2/frontend/BinaryOperatorIsComparisonPinLaw", name := "expected", desc := "(I)Z" } : Jvm.MethodName) method_3_code (1 : Nat) (Option.some Jvm.ClassFile.FieldType.boolean)]
set_option maxRecDepth 65536 in
theorem codes_eq : words1.filter isCode = codes1 := rfl
theorem w_codes : ∀ c ∈ words1.filter isCode, c.before args0 about1 = true := by
  rw [codes_eq]
  intro c hc
  simp only [codes1, List.mem_cons, List.not_mem_nil, or_false] at hc
  rcases hc with rfl | rfl | rfl | rfl | rfl
  · exact w_c0
  · exact w_c1
  · exact w_c2
  · exact w_c3
  · exact w_c4
set_option maxRecDepth 65536 in
theorem w_t1 : (words1.take 24).all (fun c => isCode c || c.before args0 about1) = true := by decide +kernel
set_option maxRecDepth 65536 in
theorem w_t2 : (words1.drop 24).all (fun c => isCode c || c.before args0 about1) = true := by decide +kernel
theorem w_tables : (allAtoms (Jvm.Cond.code x code maxLocals ret :: tables_1)).before args0 about1 = true := by
  rw [allAtoms_all]
  show words1.all (fun c => c.before args0 about1) = true
  refine all_split ?_ w_codes
  rw [← List.take_append_drop 24 words1, List.all_append, w_t1, w_t2]
  rfl
set_option maxRecDepth 65536 in
theorem w_case : (Jvm.Cond.and given_1 narrow_1).before args0 about1 = true := by decide +kernel
theorem w_applies : (headSpec (Jvm.Cond.code x code maxLocals ret :: tables_1) room_1).applies x e0.platform about1 = true :=
  (Spec.applies_iff w_frames).mpr ⟨w_running, w_runnable, w_alone, w_named, w_hears, w_ripe, w_room, w_tables⟩
theorem atStart : AtStart classFile x code maxLocals ret World_1 tables_1 room_1 Calls_1 rest_1 Pre_1 launch0 p0 e0 about1 theMethod args0 below0 :=
  ⟨lists_1, trivial, launch0.admits_env _ _ _, launch0.least_env, fairChoices_fair.cas, fairChoices_fair.clock, w_frames, w_args, w_heap, w_applies, trivial, trivial, w_case⟩
end start1
theorem witness_1 : WitnessClaimed_1 := ⟨start1.p0, start1.e0, start1.about1, start1.theMethod, start1.args0, start1.below0, start1.atStart⟩
end Jvm.Pilot.@@N@@
