import JvmDerived
import JvmDerived.Pilot.@@N@@Statement
import JvmDerived.Pilot.@@N@@Code
set_option linter.unusedVariables false
set_option linter.unusedSimpArgs false

namespace Jvm.Pilot.@@N@@
open Jvm Jvm.ClassFile Sem Op Lib Jvm.Free Jvm.Stand Jvm.LawKit Jvm.RoadKit Bundle Jvm.Pilot.@@N@@.Jvm.D

section OwnKit
variable {p : Program} {l : Launch} {e : Env} {R : Room} {s : State} {m : MethodId} {args : Array Value} {below : List Frame} {meth : Method} {c : Code} {T T' : State} {locs : List Loc} {cells slots : Nat} {Z : State} {a0 : Array Value} {h : Heap} {K N : Nat} {Q : Option Value → Heap → List Loc → Prop} {g g' : JFrame}
/-- from the frame g over T the body comes to its end, and there Q holds -/
def Go (p : Program) (e : Env) (s : State) (below : List Frame) (K N : Nat) (Q : Option Value → Heap → List Loc → Prop) (T : State) (g : JFrame) : Prop :=
  ∃ s₂ o, Steps p.tables e below (T.setTop g) s₂ ∧ s₂.status = .running ∧ Ended s₂ below o ∧ ∃ v L, o = .returned v ∧ Q v s₂.heap L ∧ FrameEnd s o s₂ L K N
theorem Go.of (st : ∀ t, Steps p.tables e below (T'.setTop g') t → Steps p.tables e below (T.setTop g) t) (q : Go p e s below K N Q T' g') : Go p e s below K N Q T g := by
  obtain ⟨s2, o, h1, r⟩ := q
  exact ⟨s2, o, st _ h1, r⟩
theorem own_retI (X : Stand p l e R s m args below meth c T locs cells slots) (hx : p.tables.exec = Jvm.exec) {pc : Nat} {Ls : Array Slot} {z : Int32} {rest : List Value} (hret : meth.sig.returnType = some .int) (hd : decode c.code pc = .ok (.ireturn, 1)) {fs : List Frame}
    (hl : ∀ (f : JFrame) (acts : List Action), f.method = m → f.locked = none → f.entered = [] → (doReturn e (T.setTop f) acts (some (.int z))).1 = T.setFrames fs) : Steps p.tables e below (T.setTop (mkF m pc Ls (.int z :: rest))) (T.setFrames fs) := by
  have hm' : T.vm.method? m = some meth := X.method'
  have hn : narrow .int (.int z) = .int z := rfl
  show Steps p.tables e below (T.setTop { method := m, pc := pc, locals := Ls, stack := _ :: rest, locked := none }) _
  jvm_step X.here [X.here.top, hx, hd, hm', hret, hn]
  first | (intro acts; rw [hl _ acts rfl rfl rfl]) | rw [hl _ _ rfl rfl rfl]
  exact Steps.refl _
theorem Go.retI (X : Stand p l e R s m args below meth c T locs cells slots) (hx : p.tables.exec = Jvm.exec) (hlk : meth.locks = false) {pc : Nat} {Ls : Array Slot} {z : Int32} {rest : List Value} (hret : meth.sig.returnType = some .int) (hd : decode c.code pc = .ok (.ireturn, 1)) (hK : cells ≤ K) (hN : slots ≤ N)
    (hQ : Q (some (.int z)) T.heap locs) : Go p e s below K N Q T (mkF m pc Ls (.int z :: rest)) := by
  obtain ⟨fs, hr, hrun, hended, hW, hsame⟩ := X.leave (v := some (.int z)) (fun q => by rw [hret] at q; cases q) hlk
  exact ⟨_, _, own_retI X hx hret hd hr, hrun, hended, _, _, rfl, hQ, ⟨_, rfl⟩, hW, hsame.mono hK hN⟩
theorem Go.retN (X : Stand p l e R s m args below meth c T locs cells slots) (hx : p.tables.exec = Jvm.exec) (hlk : meth.locks = false) {pc : Nat} {Ls : Array Slot} {z z' : Int32} {t : FieldType} {rest : List Value} (hret : meth.sig.returnType = some t) (ht : t = .boolean ∨ t = .byte ∨ t = .char ∨ t = .short) (hd : decode c.code pc = .ok (.ireturn, 1)) (hz : nar t z = z') (hK : cells ≤ K) (hN : slots ≤ N)
    (hQ : Q (some (.int z')) T.heap locs) : Go p e s below K N Q T (mkF m pc Ls (.int z :: rest)) := by
  subst hz
  obtain ⟨fs, hr, hrun, hended, hW, hsame⟩ := X.leave (v := some (.int (nar t z))) (fun q => by rw [hret] at q; cases q) hlk
  exact ⟨_, _, Jvm.RoadKit.retN X hx hret ht hd hr, hrun, hended, _, _, rfl, hQ, ⟨_, rfl⟩, hW, hsame.mono hK hN⟩
theorem Go.retA (X : Stand p l e R s m args below meth c T locs cells slots) (hx : p.tables.exec = Jvm.exec) (hlk : meth.locks = false) {pc : Nat} {Ls : Array Slot} {w : Value} {t : FieldType} {rest : List Value} (hret : meth.sig.returnType = some t) (ht : t.isReference = true) (hw : w.isRef = true) (hd : decode c.code pc = .ok (.areturn, 1)) (hK : cells ≤ K) (hN : slots ≤ N)
    (hQ : Q (some w) T.heap locs) : Go p e s below K N Q T (mkF m pc Ls (w :: rest)) := by
  obtain ⟨fs, hr, hrun, hended, hW, hsame⟩ := X.leave (v := some w) (fun q => by rw [hret] at q; cases q) hlk
  have hn : narrow t w = w := by
    cases t <;> first | (cases ht; done) | (cases w <;> first | rfl | (cases hw; done))
  exact ⟨_, _, retOut X hx hret hn (Or.inr (Or.inr (Or.inr (Or.inr ⟨rfl, ht, hw⟩)))) hd hr, hrun, hended, _, _, rfl, hQ, ⟨_, rfl⟩, hW, hsame.mono hK hN⟩
theorem Go.retV (X : Stand p l e R s m args below meth c T locs cells slots) (hx : p.tables.exec = Jvm.exec) (hlk : meth.locks = false) {pc : Nat} {Ls : Array Slot} (hret : meth.sig.returnType = none) (hd : decode c.code pc = .ok (.return_, 1)) (hK : cells ≤ K) (hN : slots ≤ N)
    (hQ : Q none T.heap locs) : Go p e s below K N Q T (mkF m pc Ls []) := by
  obtain ⟨fs, hr, hrun, hended, hW, hsame⟩ := X.leave (v := none) (fun _ => rfl) hlk
  exact ⟨_, _, X.returnOut hx hret hd hr, hrun, hended, _, _, rfl, hQ, ⟨_, rfl⟩, hW, hsame.mono hK hN⟩
/-- a body's contract in this family -/
def Con (l : Launch) (Z : State) (y : MethodName) (bytes : ByteArray) (maxL : Nat) (ret : Option FieldType) (ws : List Jvm.Cond) (rm : Room) (as' : Array Value) (h : Heap) (Q : Option Value → Heap → List Loc → Prop) : Prop :=
  MetFree l y (head1 (Jvm.Cond.code y bytes maxL ret :: ws) rm) (fun a U => a = as' ∧ Z.Warmed39 U.vm ∧ U.heap = h) (fun _ _ _ _ _ => True) (fun _ U o U' => ∃ v L, o = .returned v ∧ Q v U'.heap L ∧ FrameEnd U o U' L rm.cells rm.slots)
/-- what a walk knows of the body that it walks -/
def Cx (Z : State) (p : Program) (s : State) (m : MethodId) (meth : Method) (c : Code) (own : String) (bytes : ByteArray) (ml : Nat) (nm : String) (rt : Option FieldType) : Prop :=
  p.tables.exec = Jvm.exec ∧ Z.Warmed39 s.vm ∧ s.vm.findClass own = some m.cls ∧ c.code = bytes ∧ c.maxLocals = ml ∧ meth.name = nm ∧ meth.sig.returnType = rt ∧ meth.locks = false
theorem Con.mk {y : MethodName} {bytes : ByteArray} {maxL : Nat} {ret : Option FieldType} {ws : List Jvm.Cond} {rm : Room} {as' : Array Value} (hp : plainFor y = true)
    (body : ∀ p e s m below meth c s₁, Cx Z p s m meth c y.cls bytes maxL y.name ret → Stand p l e rm s m as' below meth c s₁ [] 0 0 → s₁.heap = h → Go p e s below rm.cells rm.slots Q s₁ (entryFrame m as' maxL)) : Con l Z y bytes maxL ret ws rm as' h Q := by
  refine MetFree.of_bodySF hp hisR ?_
  intro p e s m args below meth c s₁ Bd hml0 hP hK
  obtain ⟨rfl, hZ, hh⟩ := hP
  exact body p e s m below meth c s₁ ⟨Bd.exec, hZ, findClass_of_methodNamed Bd.named, Bd.bytes, hml0, (name_of_methodNamed Bd.named Bd.method).1, Bd.returns, Bd.notSynchronized⟩ (Stand.of_body Bd) (by rw [← hh, Bd.state]; rfl)
section Calls
variable {y : MethodName} {bytes : ByteArray} {maxL : Nat} {ret : Option FieldType} {rm : Room} {own : String} {index W : Nat} {argsL rest : List Value} {Q' : Option Value → Heap → List Loc → Prop}
/-- what a call leaves -/
def Called (p : Program) (l : Launch) (e : Env) (R : Room) (s : State) (m : MethodId) (args : Array Value) (below : List Frame) (meth : Method) (c : Code) (locs : List Loc) (cells slots : Nat) (Q' : Option Value → Heap → List Loc → Prop) (T : State) (g : JFrame) (len : Nat) (rest : List Value) : Prop :=
  ∃ v T' L, Stand p l e R s m args below meth c T' (locs ++ L) cells slots ∧ Q' v T'.heap L ∧ ∀ t, Steps p.tables e below (T'.setTop { g with pc := g.pc + len, stack := v.toList ++ rest }) t → Steps p.tables e below (T.setTop g) t
theorem own_callS (X : Stand p l e R s m args below meth c T locs cells slots) (hx : p.tables.exec = Jvm.exec) (hZ : Z.Warmed39 s.vm) (hown : s.vm.findClass own = some m.cls)
    (wl : (Jvm.Cond.methodLink own index y).before a0 Z = true) (wst : (Jvm.Cond.static y).before a0 Z = true) (wi : (Jvm.Cond.initialized y.cls).before a0 Z = true) (wc : (Jvm.Cond.code y bytes maxL ret).before a0 Z = true) (hy : y.cls ≠ "java/lang/invoke/MethodHandle" ∧ y.cls ≠ "java/lang/invoke/VarHandle")
    (hM : Con l Z y bytes maxL ret [] rm argsL.toArray h Q') (eT : T.heap = h) (hg : g.method = m) (hsize : g.locals.size = c.maxLocals) (hlen : ∀ sig, parseMethodDescriptor y.desc = some sig → argsL.length = sig.parameters.length) (hstack : g.stack = argsL.reverse ++ rest)
    (hW : 2 * g.monitorRoom + (rest.map fun v => v.category).sum ≤ W) (hdg : decode c.code g.pc = .ok (.invokestatic index, 3)) (hf : rm.frames + 1 ≤ R.frames) (hl : W + (maxL + 11) + rm.locals ≤ R.locals) (hc : cells + rm.cells ≤ R.cells) (hs : slots + rm.slots ≤ R.slots) :
    Called p l e R s m args below meth c locs (cells + rm.cells) (slots + rm.slots) Q' T g 3 rest := by
  obtain ⟨v, _, ⟨T1, L1, k1, n1⟩, -, X1, ⟨Lc, hQ, l1, y1, z1⟩, st⟩ := Jvm.LawKit.callS X hx (y := y) hown (mvT hZ wl) (mvT hZ wst) (mvT hZ wi) (mvT hZ wc) hy (backOf (W := W) hM hZ wc wi hf hl) hg hsize (argsL := argsL) (rest := rest) hlen hstack hW hdg (fun _ _ => ⟨rfl, eT, hc, hs⟩)
  dsimp only [Pt.U, Pt.locs, Pt.cells, Pt.slots] at X1 l1 y1 z1 st hQ
  subst l1 y1 z1
  exact ⟨v, T1, Lc, X1, hQ, st⟩
theorem own_callI (X : Stand p l e R s m args below meth c T locs cells slots) (hx : p.tables.exec = Jvm.exec) (hZ : Z.Warmed39 s.vm) (hown : s.vm.findClass own = some m.cls) (hin : y.name = "<init>")
    (wl : (Jvm.Cond.methodLink own index y).before a0 Z = true) (wim : (Jvm.Cond.instanceMethod y).before a0 Z = true) (wi : (Jvm.Cond.initialized y.cls).before a0 Z = true) (wc : (Jvm.Cond.code y bytes maxL none).before a0 Z = true) (hy : y.cls ≠ "java/lang/invoke/MethodHandle" ∧ y.cls ≠ "java/lang/invoke/VarHandle")
    {a : Addr} (hM : Con l Z y bytes maxL none [] rm (Value.ref a :: argsL).toArray h Q') (eT : T.heap = h) (hg : g.method = m) (hsize : g.locals.size = c.maxLocals) (hlen : ∀ sig, parseMethodDescriptor y.desc = some sig → argsL.length = sig.parameters.length) (hstack : g.stack = argsL.reverse ++ .ref a :: rest)
    (hW : 2 * g.monitorRoom + (rest.map fun v => v.category).sum ≤ W) (hdg : decode c.code g.pc = .ok (.invokespecial index, 3)) (hf : rm.frames + 1 ≤ R.frames) (hl : W + (maxL + 11) + rm.locals ≤ R.locals) (hc : cells + rm.cells ≤ R.cells) (hs : slots + rm.slots ≤ R.slots) :
    Called p l e R s m args below meth c locs (cells + rm.cells) (slots + rm.slots) Q' T g 3 rest := by
  obtain ⟨v, _, ⟨T1, L1, k1, n1⟩, -, X1, ⟨Lc, hQ, l1, y1, z1⟩, st⟩ := X.specialBack hx (y := y) hin hown (mvT hZ wl) (mvT hZ wim) (mvT hZ wc) hy (backOf (W := W) hM hZ wc wi hf hl) hg hsize (Steps.refl _) (a := a) (argsL := argsL) (rest := rest) hlen hstack hW hdg (fun _ _ => ⟨rfl, eT, hc, hs⟩)
  dsimp only [Pt.U, Pt.locs, Pt.cells, Pt.slots] at X1 l1 y1 z1 st hQ
  subst l1 y1 z1
  exact ⟨v, T1, Lc, X1, hQ, fun _ hr => st.trans hr⟩
theorem own_callV (X : Stand p l e R s m args below meth c T locs cells slots) (hx : p.tables.exec = Jvm.exec) (hZ : Z.Warmed39 s.vm) (hown : s.vm.findClass own = some m.cls) {z : MethodName} {C : String}
    (wl : (Jvm.Cond.methodLink own index y).before a0 Z = true) (wd : (Jvm.Cond.declares y).before a0 Z = true) (nf : NotFace s y) (wsel : (Jvm.Cond.selects C y z).before a0 Z = true) (wim : (Jvm.Cond.instanceMethod z).before a0 Z = true) (wi : (Jvm.Cond.initialized z.cls).before a0 Z = true) (wc : (Jvm.Cond.code z bytes maxL ret).before a0 Z = true) (hy : y.cls ≠ "java/lang/invoke/MethodHandle" ∧ y.cls ≠ "java/lang/invoke/VarHandle")
    {a : Addr} (E : Exa Z h a C) (hM : Con l Z z bytes maxL ret [] rm (Value.ref a :: argsL).toArray h Q') (eT : T.heap = h) (hg : g.method = m) (hsize : g.locals.size = c.maxLocals) (hlen : ∀ sig, parseMethodDescriptor y.desc = some sig → argsL.length = sig.parameters.length) (hstack : g.stack = argsL.reverse ++ .ref a :: rest)
    (hW : 2 * g.monitorRoom + (rest.map fun v => v.category).sum ≤ W) (hdg : decode c.code g.pc = .ok (.invokevirtual index, 3)) (hf : rm.frames + 1 ≤ R.frames) (hl : W + (maxL + 11) + rm.locals ≤ R.locals) (hc : cells + rm.cells ≤ R.cells) (hs : slots + rm.slots ≤ R.slots) :
    Called p l e R s m args below meth c locs (cells + rm.cells) (slots + rm.slots) Q' T g 3 rest := by
  obtain ⟨cq, kq, qa, qb, qc⟩ := isOf hZ eT E
  obtain ⟨v, _, ⟨T1, L1, k1, n1⟩, -, X1, ⟨Lc, hQ, l1, y1, z1⟩, st⟩ := X.virtualBack hx (y := y) (z := z) hown (mvT hZ wl) (mvT hZ wd) nf (mvT hZ wsel) (mvT hZ wim) hy (backOf (W := W) hM hZ wc wi hf hl) qa qc hg hsize (Steps.refl _) (argsL := argsL) (rest := rest) hlen hstack hW hdg (fun _ _ => ⟨rfl, eT, hc, hs⟩)
  dsimp only [Pt.U, Pt.locs, Pt.cells, Pt.slots] at X1 l1 y1 z1 st hQ
  subst l1 y1 z1
  exact ⟨v, T1, Lc, X1, hQ, fun _ hr => st.trans hr⟩
/-- an inherited method, by the class that the entry names -/
theorem own_callU (X : Stand p l e R s m args below meth c T locs cells slots) (hx : p.tables.exec = Jvm.exec) (hZ : Z.Warmed39 s.vm) (hown : s.vm.findClass own = some m.cls) {z : MethodName} {C owner : String}
    (wl : (Jvm.Cond.methodLink own index y).before a0 Z = true) (wsm : (Jvm.Cond.sameMethod y.cls owner y.name y.desc).before a0 Z = true) (wd : (Jvm.Cond.declares ⟨owner, y.name, y.desc⟩).before a0 Z = true) (wsel : (Jvm.Cond.selects C y z).before a0 Z = true) (wim : (Jvm.Cond.instanceMethod z).before a0 Z = true) (wi : (Jvm.Cond.initialized z.cls).before a0 Z = true) (wc : (Jvm.Cond.code z bytes maxL ret).before a0 Z = true) (ho : owner ≠ "java/lang/invoke/MethodHandle" ∧ owner ≠ "java/lang/invoke/VarHandle")
    {a : Addr} (E : Exa Z h a C) (hM : Con l Z z bytes maxL ret [] rm (Value.ref a :: argsL).toArray h Q') (eT : T.heap = h) (hg : g.method = m) (hsize : g.locals.size = c.maxLocals) (hlen : ∀ sig, parseMethodDescriptor y.desc = some sig → argsL.length = sig.parameters.length) (hstack : g.stack = argsL.reverse ++ .ref a :: rest)
    (hW : 2 * g.monitorRoom + (rest.map fun v => v.category).sum ≤ W) (hdg : decode c.code g.pc = .ok (.invokevirtual index, 3)) (hf : rm.frames + 1 ≤ R.frames) (hl : W + (maxL + 11) + rm.locals ≤ R.locals) (hc : cells + rm.cells ≤ R.cells) (hs : slots + rm.slots ≤ R.slots) :
    Called p l e R s m args below meth c locs (cells + rm.cells) (slots + rm.slots) Q' T g 3 rest := by
  obtain ⟨cq, kq, qa, qb, cellB, hcellT, hclsB, hstatB⟩ := isOf hZ eT E
  obtain ⟨r0, r, hn, hrm, hstR, hsigR⟩ := Cond.declares_spec (mv (args := args) hZ wd)
  obtain ⟨mk, methM, hnamed, hmethM, -, habM⟩ := Cond.instanceMethod_spec (mv (args := args) hZ wim)
  obtain ⟨c2, r2, m2, q1, q2, q3, q4, kP, hkP, hkPi⟩ := Cond.selects_spec (mv (args := args) hZ wsel)
  obtain ⟨cn, ck, r1, hcn, hck, hni, hfd, hn1⟩ := Cond.sameMethod_found (mv (args := args) hZ wsm)
  cases qa.symm.trans q1
  cases hn.symm.trans hn1
  cases hfd.symm.trans q2
  cases hnamed.symm.trans q3
  have hselP : selectMethod e.platform s.vm cellB.cls r0 = .method mk := by rw [Launch.admits_selectMethod X.admits, hclsB]; exact q4
  obtain ⟨vm₁, X₁, hstep₁⟩ := X.invokevirtualUp hx hown (mv hZ wl) (mv hZ wsm) ho hn hrm hstR (a := a) (cell := cellB) hcellT
    (fun z h => by rw [h] at hstatB; cases hstatB) hselP hmethM habM hkP hkPi (g := g) hg (argsL := argsL) (rest := rest) (hlen _ hsigR) hstack hdg
  obtain ⟨v, ⟨T1, L1, k1, n1⟩, X1, ⟨Lc, hQ, l1, y1, z1⟩, st⟩ := (backOf (p := p) (e := e) (below := below) (s := s) (args := args) (len := 3) (W := W) hM hZ wc wi hf hl) m meth c ⟨T.setVm vm₁, locs, cells, slots⟩ { g with stack := rest } (.invokevirtual index) mk (.ref a :: argsL).toArray X₁ hg hsize hdg hW (X₁.named hnamed) ⟨rfl, eT, hc, hs⟩
  dsimp only [Pt.U, Pt.locs, Pt.cells, Pt.slots] at X1 l1 y1 z1 st hQ
  subst l1 y1 z1
  exact ⟨v, T1, Lc, X1, hQ, fun t hr => hstep₁ _ fun acts => by rw [doInvoke_state]; exact st.trans hr⟩
end Calls
/-- an equation of the case's words -/
theorem own_eqI {t : Term} {n : Int32} (q : (Jvm.Cond.eq t (.int n)).value args s none s [] = some true) : t.eval args s none [] s = some (.int n) := by
  cases ha : t.eval args s none [] s with
  | none => simp [Cond.value, ha] at q
  | some x => cases x <;> simp [Cond.value, Term.eval, ha] at q ⊢; exact q
end OwnKit

theorem pn0 : plainName "com/example/mthd/mthd/model/MethodKind" = true := by first | (simp [plainName, overriddenIn]; done) | decide +kernel
theorem d1_0 : decode prog_22_method_7_code 0 = .ok (.aload_n 0, 1) := by decide +kernel
theorem d1_1 : decode prog_22_method_7_code 1 = .ok (.getstatic 19, 3) := by decide +kernel
theorem d1_4 : decode prog_22_method_7_code 4 = .ok (.if_acmp .eq 7, 3) := by decide +kernel
theorem d1_11 : decode prog_22_method_7_code 11 = .ok (.iconst 0, 1) := by decide +kernel
theorem d1_12 : decode prog_22_method_7_code 12 = .ok (.ireturn, 1) := by decide +kernel
theorem d1_7 : decode prog_22_method_7_code 7 = .ok (.iconst 1, 1) := by decide +kernel
theorem d1_8 : decode prog_22_method_7_code 8 = .ok (.goto 4, 3) := by decide +kernel
set_option maxRecDepth 65536 in
set_option maxHeartbeats 40000000 in
theorem rm1 (l : Launch) (Z : State) (a0 : Array Value) (hw : ∀ d ∈ tables_1, d.before a0 Z = true) (ws : List Jvm.Cond) (a1 : Addr) (w_CUSTOM : Addr) (h0 : Heap) (n0 : Nat) (Z0 : n0 ≤ h0.size) (S_CUSTOM : Sta Z h0 "com/example/mthd/mthd/model/MethodKind" "CUSTOM" "Lcom/example/mthd/mthd/model/MethodKind;" (.ref w_CUSTOM)) :
    Con l Z (⟨"com/example/mthd/mthd/model/MethodKind", "isStandard", "()Z"⟩ : MethodName) prog_22_method_7_code 1 (some .boolean) ws ({ frames := 0, cells := 0, slots := 0, locals := 0 } : Room) #[(.ref a1)] h0 (fun v h L => v = some (.int (if a1 = w_CUSTOM then (0 : Int32) else 1)) ∧ Fr n0 L ∧ h = h0) := by
  refine Con.mk (plainFor_of_name pn0) ?_
  intro p e s m below meth c s₁ Cc X0 e0
  obtain ⟨hx, hZ, hown, hby, hml, hnm, hret, hlk⟩ := Cc
  have N0 := Fr.nil n0
  show Go p e s below _ _ _ s₁ (mkF m 0 #[.val (.ref a1)] [])
  refine Go.of (fun _ hr => XS.aloadN X0.here hx rfl (hb hby d1_0) rfl rfl hr) ?_
  show Go p e s below _ _ _ s₁ (mkF m 1 #[.val (.ref a1)] [(.ref a1)])
  obtain ⟨T101, X101, e101, st101⟩ := getS2 X0 hx hZ hown (host := "") (Or.inl (hw _ (List.mem_of_getElem? (i := 9) rfl))) Via.refl e0 S_CUSTOM (g := (mkF m 1 #[.val (.ref a1)] [(.ref a1)])) rfl (hb hby d1_1)
  refine Go.of (fun _ hr => st101 _ hr) ?_
  show Go p e s below _ _ _ T101 (mkF m 4 #[.val (.ref a1)] [(.ref w_CUSTOM), (.ref a1)])
  by_cases hb4_102 : a1 = w_CUSTOM
  · refine Go.of (fun _ hr => Jvm.RoadKit.acmp (g := (mkF m 4 #[.val (.ref a1)] [(.ref w_CUSTOM), (.ref a1)])) X101 hx rfl rfl rfl (pc0 := 4) (pc' := 11) (same := true) rfl (hb hby d1_4) rfl (decide_eq_true (congrArg Value.ref hb4_102)) (by decide) (by decide) hr) ?_
    show Go p e s below _ _ _ T101 (mkF m 11 #[.val (.ref a1)] [])
    refine Go.of (fun _ hr => XS.iconst X101.here hx rfl (hb hby d1_11) hr) ?_
    show Go p e s below _ _ _ T101 (mkF m 12 #[.val (.ref a1)] [(.int (0 : Int32))])
    exact Go.retN X101 hx hlk (t := .boolean) (z' := (0 : Int32)) hret (by simp) (hb hby d1_12) rfl (by decide) (by decide) ⟨by simp [hb4_102], N0, e101⟩
  · refine Go.of (fun _ hr => Jvm.RoadKit.acmp (g := (mkF m 4 #[.val (.ref a1)] [(.ref w_CUSTOM), (.ref a1)])) X101 hx rfl rfl rfl (pc0 := 4) (pc' := 7) (same := false) rfl (hb hby d1_4) rfl (decide_eq_false (fun q => hb4_102 (Value.ref.inj q))) (by decide) (by decide) hr) ?_
    show Go p e s below _ _ _ T101 (mkF m 7 #[.val (.ref a1)] [])
    refine Go.of (fun _ hr => XS.iconst X101.here hx rfl (hb hby d1_7) hr) ?_
    show Go p e s below _ _ _ T101 (mkF m 8 #[.val (.ref a1)] [(.int (1 : Int32))])
    refine Go.of (fun _ hr => XS.goto X101.here hx rfl (pc0 := 8) (pc' := 12) rfl (hb hby d1_8) (by decide) (by decide) hr) ?_
    show Go p e s below _ _ _ T101 (mkF m 12 #[.val (.ref a1)] [(.int (1 : Int32))])
    exact Go.retN X101 hx hlk (t := .boolean) (z' := (1 : Int32)) hret (by simp) (hb hby d1_12) rfl (by decide) (by decide) ⟨by simp [hb4_102], N0, e101⟩

theorem pn1 : plainName "com/example/mthd/mthd/model/MethodKindIsStandardPinLaw" = true := by first | (simp [plainName, overriddenIn]; done) | decide +kernel
theorem pd0 : parseMethodDescriptor "()Z" = some ⟨[], some .boolean⟩ := by decide +kernel
set_option maxRecDepth 65536 in
set_option maxHeartbeats 40000000 in
theorem rm0 (l : Launch) (Z : State) (a0 : Array Value) (hw : ∀ d ∈ tables_1, d.before a0 Z = true) (ws : List Jvm.Cond) (p1 : Int32) (w_LIST : Addr) (w_GET : Addr) (w_CREATE : Addr) (w_UPDATE : Addr) (w_DELETE : Addr) (w_CUSTOM : Addr) (h0 : Heap) (n0 : Nat) (Z0 : n0 ≤ h0.size) (S_LIST : Sta Z h0 "com/example/mthd/mthd/model/MethodKind" "LIST" "Lcom/example/mthd/mthd/model/MethodKind;" (.ref w_LIST)) (S_GET : Sta Z h0 "com/example/mthd/mthd/model/MethodKind" "GET" "Lcom/example/mthd/mthd/model/MethodKind;" (.ref w_GET)) (S_CREATE : Sta Z h0 "com/example/mthd/mthd/model/MethodKind" "CREATE" "Lcom/example/mthd/mthd/model/MethodKind;" (.ref w_CREATE)) (S_UPDATE : Sta Z h0 "com/example/mthd/mthd/model/MethodKind" "UPDATE" "Lcom/example/mthd/mthd/model/MethodKind;" (.ref w_UPDATE)) (S_DELETE : Sta Z h0 "com/example/mthd/mthd/model/MethodKind" "DELETE" "Lcom/example/mthd/mthd/model/MethodKind;" (.ref w_DELETE)) (S_CUSTOM : Sta Z h0 "com/example/mthd/mthd/model/MethodKind" "CUSTOM" "Lcom/example/mthd/mthd/model/MethodKind;" (.ref w_CUSTOM)) (E_LIST : Exa Z h0 w_LIST "com/example/mthd/mthd/model/MethodKind") (E_GET : Exa Z h0 w_GET "com/example/mthd/mthd/model/MethodKind") (E_CREATE : Exa Z h0 w_CREATE "com/example/mthd/mthd/model/MethodKind") (E_UPDATE : Exa Z h0 w_UPDATE "com/example/mthd/mthd/model/MethodKind") (E_DELETE : Exa Z h0 w_DELETE "com/example/mthd/mthd/model/MethodKind") (E_CUSTOM : Exa Z h0 w_CUSTOM "com/example/mthd/mthd/model/MethodKind") (NE_LIST : ¬ w_LIST = w_CUSTOM) (NE_GET : ¬ w_GET = w_CUSTOM) (NE_CREATE : ¬ w_CREATE = w_CUSTOM) (NE_UPDATE : ¬ w_UPDATE = w_CUSTOM) (NE_DELETE : ¬ w_DELETE = w_CUSTOM) :
    Con l Z x code maxLocals ret ws room_1 #[(.int p1)] h0 (fun v h L => v = some (.int 1) ∧ Fr n0 L) := by
  refine Con.mk (plainFor_of_name pn1) ?_
  intro p e s m below meth c s₁ Cc X0 e0
  obtain ⟨hx, hZ, hown, hby, hml, hnm, hret, hlk⟩ := Cc
  replace hown : s.vm.findClass "com/example/mthd/mthd/model/MethodKindIsStandardPinLaw" = some m.cls := hown
  replace hml : c.maxLocals = 4 := hml
  have N0 := Fr.nil n0
  show Go p e s below _ _ _ s₁ (mkF m 0 #[.val (.int p1), .unset, .unset, .unset] [])
  refine Go.of (fun _ hr => XS.iloadN X0.here hx rfl (hb hby at_0) rfl  hr) ?_
  show Go p e s below _ _ _ s₁ (mkF m 1 #[.val (.int p1), .unset, .unset, .unset] [(.int p1)])
  refine Go.of (fun _ hr => X0.ldcI hx hown (mvT hZ (hw _ (List.mem_of_getElem? (i := 0) rfl))) rfl (hb hby at_1) hr) ?_
  show Go p e s below _ _ _ s₁ (mkF m 3 #[.val (.int p1), .unset, .unset, .unset] [(.int (2147483647 : Int32)), (.int p1)])
  refine Go.of (fun _ hr => XS.iand X0.here hx rfl (hb hby at_3) rfl hr) ?_
  show Go p e s below _ _ _ s₁ (mkF m 4 #[.val (.int p1), .unset, .unset, .unset] [(.int (p1 &&& (2147483647 : Int32)))])
  refine Go.of (fun _ hr => XS.bipush X0.here hx rfl (hb hby at_4) hr) ?_
  show Go p e s below _ _ _ s₁ (mkF m 6 #[.val (.int p1), .unset, .unset, .unset] [(.int (6 : Int32)), (.int (p1 &&& (2147483647 : Int32)))])
  refine Go.of (fun _ hr => iremM X0 hx rfl (hb hby at_6) rfl (by decide) hr) ?_
  show Go p e s below _ _ _ s₁ (mkF m 7 #[.val (.int p1), .unset, .unset, .unset] [(.int ((p1 &&& (2147483647 : Int32)) % (6 : Int32)))])
  generalize ((p1 &&& (2147483647 : Int32)) % (6 : Int32)) = k
  show Go p e s below _ _ _ s₁ (mkF m 7 #[.val (.int p1), .unset, .unset, .unset] [(.int k)])
  refine Go.of (fun _ hr => XS.istoreN X0.here hx rfl (hb hby at_7) rfl (l' := #[.val (.int p1), .val (.int k), .unset, .unset]) rfl hr) ?_
  show Go p e s below _ _ _ s₁ (mkF m 8 #[.val (.int p1), .val (.int k), .unset, .unset] [])
  refine Go.of (fun _ hr => XS.iloadN X0.here hx rfl (hb hby at_8) rfl  hr) ?_
  show Go p e s below _ _ _ s₁ (mkF m 9 #[.val (.int p1), .val (.int k), .unset, .unset] [(.int k)])
  by_cases hb9_101 : k = (0 : Int32)
  · refine Go.of (fun _ hr => XS.ifNo X0.here hx rfl (hb hby at_9) rfl ((if0 _ _).trans (teq hb9_101).2) hr) ?_
    show Go p e s below _ _ _ s₁ (mkF m 12 #[.val (.int p1), .val (.int k), .unset, .unset] [])
    obtain ⟨T102, X102, e102, st102⟩ := getS2 X0 hx hZ hown (host := "") (Or.inl (hw _ (List.mem_of_getElem? (i := 1) rfl))) Via.refl e0 S_LIST (g := (mkF m 12 #[.val (.int p1), .val (.int k), .unset, .unset] [])) rfl (hb hby at_12)
    refine Go.of (fun _ hr => st102 _ hr) ?_
    show Go p e s below _ _ _ T102 (mkF m 15 #[.val (.int p1), .val (.int k), .unset, .unset] [(.ref w_LIST)])
    refine Go.of (fun _ hr => XS.astoreN X102.here hx rfl (hb hby at_15) rfl rfl (l' := #[.val (.int p1), .val (.int k), .val (.ref w_LIST), .unset]) rfl hr) ?_
    show Go p e s below _ _ _ T102 (mkF m 16 #[.val (.int p1), .val (.int k), .val (.ref w_LIST), .unset] [])
    refine Go.of (fun _ hr => XS.iconst X102.here hx rfl (hb hby at_16) hr) ?_
    show Go p e s below _ _ _ T102 (mkF m 17 #[.val (.int p1), .val (.int k), .val (.ref w_LIST), .unset] [(.int (1 : Int32))])
    refine Go.of (fun _ hr => XS.istoreN X102.here hx rfl (hb hby at_17) rfl (l' := #[.val (.int p1), .val (.int k), .val (.ref w_LIST), .val (.int (1 : Int32))]) rfl hr) ?_
    show Go p e s below _ _ _ T102 (mkF m 18 #[.val (.int p1), .val (.int k), .val (.ref w_LIST), .val (.int (1 : Int32))] [])
    refine Go.of (fun _ hr => XS.goto X102.here hx rfl (pc0 := 18) (pc' := 83) rfl (hb hby at_18) (by decide) (by decide) hr) ?_
    show Go p e s below _ _ _ T102 (mkF m 83 #[.val (.int p1), .val (.int k), .val (.ref w_LIST), .val (.int (1 : Int32))] [])
    refine Go.of (fun _ hr => XS.aloadN X102.here hx rfl (hb hby at_83) rfl rfl hr) ?_
    show Go p e s below _ _ _ T102 (mkF m 84 #[.val (.int p1), .val (.int k), .val (.ref w_LIST), .val (.int (1 : Int32))] [(.ref w_LIST)])
    obtain ⟨_, T103, L103, X103, hQ103, st103⟩ := own_callV X102 hx hZ hown (hw _ (List.mem_of_getElem? (i := 4) rfl)) (hw _ (List.mem_of_getElem? (i := 5) rfl)) (notFace_of_selects (args := #[]) (mvT hZ (hw _ (List.mem_of_getElem? (i := 7) rfl)))) (hw _ (List.mem_of_getElem? (i := 7) rfl)) (hw _ (List.mem_of_getElem? (i := 6) rfl)) (hw _ (List.mem_of_getElem? (i := 2) rfl)) (hw _ (List.mem_of_getElem? (i := 8) rfl)) (by decide) E_LIST (rm1 l Z a0 hw [] w_LIST w_CUSTOM h0 n0 Z0 S_CUSTOM) e102 (g := (mkF m 84 #[.val (.int p1), .val (.int k), .val (.ref w_LIST), .val (.int (1 : Int32))] [(.ref w_LIST)])) rfl (by rw [hml]; rfl) (argsL := []) (rest := []) (lenOf pd0 rfl) rfl (W := 0) (by show 2 * 0 + _ ≤ _; exact Nat.le_of_eq rfl) (hb hby at_84) (by decide) (by decide) (by decide) (by decide)
    obtain ⟨rfl, N103, e103⟩ := hQ103
    refine Go.of st103 ?_
    have NF103 := Fr.app N0 N103
    show Go p e s below _ _ _ T103 (mkF m 87 #[.val (.int p1), .val (.int k), .val (.ref w_LIST), .val (.int (1 : Int32))] [(.int (if w_LIST = w_CUSTOM then (0 : Int32) else 1))])
    refine Go.of (fun _ hr => XS.iloadN X103.here hx rfl (hb hby at_87) rfl  hr) ?_
    show Go p e s below _ _ _ T103 (mkF m 88 #[.val (.int p1), .val (.int k), .val (.ref w_LIST), .val (.int (1 : Int32))] [(.int (1 : Int32)), (.int (if w_LIST = w_CUSTOM then (0 : Int32) else 1))])
    refine Go.of (fun _ hr => XS.icmpNo X103.here hx rfl (hb hby at_88) rfl (teq (if_neg NE_LIST)).2 hr) ?_
    show Go p e s below _ _ _ T103 (mkF m 91 #[.val (.int p1), .val (.int k), .val (.ref w_LIST), .val (.int (1 : Int32))] [])
    refine Go.of (fun _ hr => XS.iconst X103.here hx rfl (hb hby at_91) hr) ?_
    show Go p e s below _ _ _ T103 (mkF m 92 #[.val (.int p1), .val (.int k), .val (.ref w_LIST), .val (.int (1 : Int32))] [(.int (1 : Int32))])
    refine Go.of (fun _ hr => XS.goto X103.here hx rfl (pc0 := 92) (pc' := 96) rfl (hb hby at_92) (by decide) (by decide) hr) ?_
    show Go p e s below _ _ _ T103 (mkF m 96 #[.val (.int p1), .val (.int k), .val (.ref w_LIST), .val (.int (1 : Int32))] [(.int (1 : Int32))])
    exact Go.retN X103 hx hlk (t := .boolean) (z' := (1 : Int32)) hret (by simp) (hb hby at_96) rfl (by decide) (by decide) ⟨rfl, NF103⟩
  · refine Go.of (fun _ hr => XS.ifYes X0.here hx rfl (pc0 := 9) (pc' := 21) rfl (hb hby at_9) rfl ((if0 _ _).trans (feq hb9_101).2) (by decide) (by decide) hr) ?_
    show Go p e s below _ _ _ s₁ (mkF m 21 #[.val (.int p1), .val (.int k), .unset, .unset] [])
    refine Go.of (fun _ hr => XS.iloadN X0.here hx rfl (hb hby at_21) rfl  hr) ?_
    show Go p e s below _ _ _ s₁ (mkF m 22 #[.val (.int p1), .val (.int k), .unset, .unset] [(.int k)])
    refine Go.of (fun _ hr => XS.iconst X0.here hx rfl (hb hby at_22) hr) ?_
    show Go p e s below _ _ _ s₁ (mkF m 23 #[.val (.int p1), .val (.int k), .unset, .unset] [(.int (1 : Int32)), (.int k)])
    by_cases hb23_104 : k = (1 : Int32)
    · refine Go.of (fun _ hr => XS.icmpNo X0.here hx rfl (hb hby at_23) rfl (teq hb23_104).2 hr) ?_
      show Go p e s below _ _ _ s₁ (mkF m 26 #[.val (.int p1), .val (.int k), .unset, .unset] [])
      obtain ⟨T105, X105, e105, st105⟩ := getS2 X0 hx hZ hown (host := "") (Or.inl (hw _ (List.mem_of_getElem? (i := 15) rfl))) Via.refl e0 S_GET (g := (mkF m 26 #[.val (.int p1), .val (.int k), .unset, .unset] [])) rfl (hb hby at_26)
      refine Go.of (fun _ hr => st105 _ hr) ?_
      show Go p e s below _ _ _ T105 (mkF m 29 #[.val (.int p1), .val (.int k), .unset, .unset] [(.ref w_GET)])
      refine Go.of (fun _ hr => XS.astoreN X105.here hx rfl (hb hby at_29) rfl rfl (l' := #[.val (.int p1), .val (.int k), .val (.ref w_GET), .unset]) rfl hr) ?_
      show Go p e s below _ _ _ T105 (mkF m 30 #[.val (.int p1), .val (.int k), .val (.ref w_GET), .unset] [])
      refine Go.of (fun _ hr => XS.iconst X105.here hx rfl (hb hby at_30) hr) ?_
      show Go p e s below _ _ _ T105 (mkF m 31 #[.val (.int p1), .val (.int k), .val (.ref w_GET), .unset] [(.int (1 : Int32))])
      refine Go.of (fun _ hr => XS.istoreN X105.here hx rfl (hb hby at_31) rfl (l' := #[.val (.int p1), .val (.int k), .val (.ref w_GET), .val (.int (1 : Int32))]) rfl hr) ?_
      show Go p e s below _ _ _ T105 (mkF m 32 #[.val (.int p1), .val (.int k), .val (.ref w_GET), .val (.int (1 : Int32))] [])
      refine Go.of (fun _ hr => XS.goto X105.here hx rfl (pc0 := 32) (pc' := 83) rfl (hb hby at_32) (by decide) (by decide) hr) ?_
      show Go p e s below _ _ _ T105 (mkF m 83 #[.val (.int p1), .val (.int k), .val (.ref w_GET), .val (.int (1 : Int32))] [])
      refine Go.of (fun _ hr => XS.aloadN X105.here hx rfl (hb hby at_83) rfl rfl hr) ?_
      show Go p e s below _ _ _ T105 (mkF m 84 #[.val (.int p1), .val (.int k), .val (.ref w_GET), .val (.int (1 : Int32))] [(.ref w_GET)])
      obtain ⟨_, T106, L106, X106, hQ106, st106⟩ := own_callV X105 hx hZ hown (hw _ (List.mem_of_getElem? (i := 4) rfl)) (hw _ (List.mem_of_getElem? (i := 5) rfl)) (notFace_of_selects (args := #[]) (mvT hZ (hw _ (List.mem_of_getElem? (i := 7) rfl)))) (hw _ (List.mem_of_getElem? (i := 7) rfl)) (hw _ (List.mem_of_getElem? (i := 6) rfl)) (hw _ (List.mem_of_getElem? (i := 2) rfl)) (hw _ (List.mem_of_getElem? (i := 8) rfl)) (by decide) E_GET (rm1 l Z a0 hw [] w_GET w_CUSTOM h0 n0 Z0 S_CUSTOM) e105 (g := (mkF m 84 #[.val (.int p1), .val (.int k), .val (.ref w_GET), .val (.int (1 : Int32))] [(.ref w_GET)])) rfl (by rw [hml]; rfl) (argsL := []) (rest := []) (lenOf pd0 rfl) rfl (W := 0) (by show 2 * 0 + _ ≤ _; exact Nat.le_of_eq rfl) (hb hby at_84) (by decide) (by decide) (by decide) (by decide)
      obtain ⟨rfl, N106, e106⟩ := hQ106
      refine Go.of st106 ?_
      have NF106 := Fr.app N0 N106
      show Go p e s below _ _ _ T106 (mkF m 87 #[.val (.int p1), .val (.int k), .val (.ref w_GET), .val (.int (1 : Int32))] [(.int (if w_GET = w_CUSTOM then (0 : Int32) else 1))])
      refine Go.of (fun _ hr => XS.iloadN X106.here hx rfl (hb hby at_87) rfl  hr) ?_
      show Go p e s below _ _ _ T106 (mkF m 88 #[.val (.int p1), .val (.int k), .val (.ref w_GET), .val (.int (1 : Int32))] [(.int (1 : Int32)), (.int (if w_GET = w_CUSTOM then (0 : Int32) else 1))])
      refine Go.of (fun _ hr => XS.icmpNo X106.here hx rfl (hb hby at_88) rfl (teq (if_neg NE_GET)).2 hr) ?_
      show Go p e s below _ _ _ T106 (mkF m 91 #[.val (.int p1), .val (.int k), .val (.ref w_GET), .val (.int (1 : Int32))] [])
      refine Go.of (fun _ hr => XS.iconst X106.here hx rfl (hb hby at_91) hr) ?_
      show Go p e s below _ _ _ T106 (mkF m 92 #[.val (.int p1), .val (.int k), .val (.ref w_GET), .val (.int (1 : Int32))] [(.int (1 : Int32))])
      refine Go.of (fun _ hr => XS.goto X106.here hx rfl (pc0 := 92) (pc' := 96) rfl (hb hby at_92) (by decide) (by decide) hr) ?_
      show Go p e s below _ _ _ T106 (mkF m 96 #[.val (.int p1), .val (.int k), .val (.ref w_GET), .val (.int (1 : Int32))] [(.int (1 : Int32))])
      exact Go.retN X106 hx hlk (t := .boolean) (z' := (1 : Int32)) hret (by simp) (hb hby at_96) rfl (by decide) (by decide) ⟨rfl, NF106⟩
    · refine Go.of (fun _ hr => XS.icmpYes X0.here hx rfl (pc0 := 23) (pc' := 35) rfl (hb hby at_23) rfl (feq hb23_104).2 (by decide) (by decide) hr) ?_
      show Go p e s below _ _ _ s₁ (mkF m 35 #[.val (.int p1), .val (.int k), .unset, .unset] [])
      refine Go.of (fun _ hr => XS.iloadN X0.here hx rfl (hb hby at_35) rfl  hr) ?_
      show Go p e s below _ _ _ s₁ (mkF m 36 #[.val (.int p1), .val (.int k), .unset, .unset] [(.int k)])
      refine Go.of (fun _ hr => XS.iconst X0.here hx rfl (hb hby at_36) hr) ?_
      show Go p e s below _ _ _ s₁ (mkF m 37 #[.val (.int p1), .val (.int k), .unset, .unset] [(.int (2 : Int32)), (.int k)])
      by_cases hb37_107 : k = (2 : Int32)
      · refine Go.of (fun _ hr => XS.icmpNo X0.here hx rfl (hb hby at_37) rfl (teq hb37_107).2 hr) ?_
        show Go p e s below _ _ _ s₁ (mkF m 40 #[.val (.int p1), .val (.int k), .unset, .unset] [])
        obtain ⟨T108, X108, e108, st108⟩ := getS2 X0 hx hZ hown (host := "") (Or.inl (hw _ (List.mem_of_getElem? (i := 13) rfl))) Via.refl e0 S_CREATE (g := (mkF m 40 #[.val (.int p1), .val (.int k), .unset, .unset] [])) rfl (hb hby at_40)
        refine Go.of (fun _ hr => st108 _ hr) ?_
        show Go p e s below _ _ _ T108 (mkF m 43 #[.val (.int p1), .val (.int k), .unset, .unset] [(.ref w_CREATE)])
        refine Go.of (fun _ hr => XS.astoreN X108.here hx rfl (hb hby at_43) rfl rfl (l' := #[.val (.int p1), .val (.int k), .val (.ref w_CREATE), .unset]) rfl hr) ?_
        show Go p e s below _ _ _ T108 (mkF m 44 #[.val (.int p1), .val (.int k), .val (.ref w_CREATE), .unset] [])
        refine Go.of (fun _ hr => XS.iconst X108.here hx rfl (hb hby at_44) hr) ?_
        show Go p e s below _ _ _ T108 (mkF m 45 #[.val (.int p1), .val (.int k), .val (.ref w_CREATE), .unset] [(.int (1 : Int32))])
        refine Go.of (fun _ hr => XS.istoreN X108.here hx rfl (hb hby at_45) rfl (l' := #[.val (.int p1), .val (.int k), .val (.ref w_CREATE), .val (.int (1 : Int32))]) rfl hr) ?_
        show Go p e s below _ _ _ T108 (mkF m 46 #[.val (.int p1), .val (.int k), .val (.ref w_CREATE), .val (.int (1 : Int32))] [])
        refine Go.of (fun _ hr => XS.goto X108.here hx rfl (pc0 := 46) (pc' := 83) rfl (hb hby at_46) (by decide) (by decide) hr) ?_
        show Go p e s below _ _ _ T108 (mkF m 83 #[.val (.int p1), .val (.int k), .val (.ref w_CREATE), .val (.int (1 : Int32))] [])
        refine Go.of (fun _ hr => XS.aloadN X108.here hx rfl (hb hby at_83) rfl rfl hr) ?_
        show Go p e s below _ _ _ T108 (mkF m 84 #[.val (.int p1), .val (.int k), .val (.ref w_CREATE), .val (.int (1 : Int32))] [(.ref w_CREATE)])
        obtain ⟨_, T109, L109, X109, hQ109, st109⟩ := own_callV X108 hx hZ hown (hw _ (List.mem_of_getElem? (i := 4) rfl)) (hw _ (List.mem_of_getElem? (i := 5) rfl)) (notFace_of_selects (args := #[]) (mvT hZ (hw _ (List.mem_of_getElem? (i := 7) rfl)))) (hw _ (List.mem_of_getElem? (i := 7) rfl)) (hw _ (List.mem_of_getElem? (i := 6) rfl)) (hw _ (List.mem_of_getElem? (i := 2) rfl)) (hw _ (List.mem_of_getElem? (i := 8) rfl)) (by decide) E_CREATE (rm1 l Z a0 hw [] w_CREATE w_CUSTOM h0 n0 Z0 S_CUSTOM) e108 (g := (mkF m 84 #[.val (.int p1), .val (.int k), .val (.ref w_CREATE), .val (.int (1 : Int32))] [(.ref w_CREATE)])) rfl (by rw [hml]; rfl) (argsL := []) (rest := []) (lenOf pd0 rfl) rfl (W := 0) (by show 2 * 0 + _ ≤ _; exact Nat.le_of_eq rfl) (hb hby at_84) (by decide) (by decide) (by decide) (by decide)
        obtain ⟨rfl, N109, e109⟩ := hQ109
        refine Go.of st109 ?_
        have NF109 := Fr.app N0 N109
        show Go p e s below _ _ _ T109 (mkF m 87 #[.val (.int p1), .val (.int k), .val (.ref w_CREATE), .val (.int (1 : Int32))] [(.int (if w_CREATE = w_CUSTOM then (0 : Int32) else 1))])
        refine Go.of (fun _ hr => XS.iloadN X109.here hx rfl (hb hby at_87) rfl  hr) ?_
        show Go p e s below _ _ _ T109 (mkF m 88 #[.val (.int p1), .val (.int k), .val (.ref w_CREATE), .val (.int (1 : Int32))] [(.int (1 : Int32)), (.int (if w_CREATE = w_CUSTOM then (0 : Int32) else 1))])
        refine Go.of (fun _ hr => XS.icmpNo X109.here hx rfl (hb hby at_88) rfl (teq (if_neg NE_CREATE)).2 hr) ?_
        show Go p e s below _ _ _ T109 (mkF m 91 #[.val (.int p1), .val (.int k), .val (.ref w_CREATE), .val (.int (1 : Int32))] [])
        refine Go.of (fun _ hr => XS.iconst X109.here hx rfl (hb hby at_91) hr) ?_
        show Go p e s below _ _ _ T109 (mkF m 92 #[.val (.int p1), .val (.int k), .val (.ref w_CREATE), .val (.int (1 : Int32))] [(.int (1 : Int32))])
        refine Go.of (fun _ hr => XS.goto X109.here hx rfl (pc0 := 92) (pc' := 96) rfl (hb hby at_92) (by decide) (by decide) hr) ?_
        show Go p e s below _ _ _ T109 (mkF m 96 #[.val (.int p1), .val (.int k), .val (.ref w_CREATE), .val (.int (1 : Int32))] [(.int (1 : Int32))])
        exact Go.retN X109 hx hlk (t := .boolean) (z' := (1 : Int32)) hret (by simp) (hb hby at_96) rfl (by decide) (by decide) ⟨rfl, NF109⟩
      · refine Go.of (fun _ hr => XS.icmpYes X0.here hx rfl (pc0 := 37) (pc' := 49) rfl (hb hby at_37) rfl (feq hb37_107).2 (by decide) (by decide) hr) ?_
        show Go p e s below _ _ _ s₁ (mkF m 49 #[.val (.int p1), .val (.int k), .unset, .unset] [])
        refine Go.of (fun _ hr => XS.iloadN X0.here hx rfl (hb hby at_49) rfl  hr) ?_
        show Go p e s below _ _ _ s₁ (mkF m 50 #[.val (.int p1), .val (.int k), .unset, .unset] [(.int k)])
        refine Go.of (fun _ hr => XS.iconst X0.here hx rfl (hb hby at_50) hr) ?_
        show Go p e s below _ _ _ s₁ (mkF m 51 #[.val (.int p1), .val (.int k), .unset, .unset] [(.int (3 : Int32)), (.int k)])
        by_cases hb51_110 : k = (3 : Int32)
        · refine Go.of (fun _ hr => XS.icmpNo X0.here hx rfl (hb hby at_51) rfl (teq hb51_110).2 hr) ?_
          show Go p e s below _ _ _ s₁ (mkF m 54 #[.val (.int p1), .val (.int k), .unset, .unset] [])
          obtain ⟨T111, X111, e111, st111⟩ := getS2 X0 hx hZ hown (host := "") (Or.inl (hw _ (List.mem_of_getElem? (i := 11) rfl))) Via.refl e0 S_UPDATE (g := (mkF m 54 #[.val (.int p1), .val (.int k), .unset, .unset] [])) rfl (hb hby at_54)
          refine Go.of (fun _ hr => st111 _ hr) ?_
          show Go p e s below _ _ _ T111 (mkF m 57 #[.val (.int p1), .val (.int k), .unset, .unset] [(.ref w_UPDATE)])
          refine Go.of (fun _ hr => XS.astoreN X111.here hx rfl (hb hby at_57) rfl rfl (l' := #[.val (.int p1), .val (.int k), .val (.ref w_UPDATE), .unset]) rfl hr) ?_
          show Go p e s below _ _ _ T111 (mkF m 58 #[.val (.int p1), .val (.int k), .val (.ref w_UPDATE), .unset] [])
          refine Go.of (fun _ hr => XS.iconst X111.here hx rfl (hb hby at_58) hr) ?_
          show Go p e s below _ _ _ T111 (mkF m 59 #[.val (.int p1), .val (.int k), .val (.ref w_UPDATE), .unset] [(.int (1 : Int32))])
          refine Go.of (fun _ hr => XS.istoreN X111.here hx rfl (hb hby at_59) rfl (l' := #[.val (.int p1), .val (.int k), .val (.ref w_UPDATE), .val (.int (1 : Int32))]) rfl hr) ?_
          show Go p e s below _ _ _ T111 (mkF m 60 #[.val (.int p1), .val (.int k), .val (.ref w_UPDATE), .val (.int (1 : Int32))] [])
          refine Go.of (fun _ hr => XS.goto X111.here hx rfl (pc0 := 60) (pc' := 83) rfl (hb hby at_60) (by decide) (by decide) hr) ?_
          show Go p e s below _ _ _ T111 (mkF m 83 #[.val (.int p1), .val (.int k), .val (.ref w_UPDATE), .val (.int (1 : Int32))] [])
          refine Go.of (fun _ hr => XS.aloadN X111.here hx rfl (hb hby at_83) rfl rfl hr) ?_
          show Go p e s below _ _ _ T111 (mkF m 84 #[.val (.int p1), .val (.int k), .val (.ref w_UPDATE), .val (.int (1 : Int32))] [(.ref w_UPDATE)])
          obtain ⟨_, T112, L112, X112, hQ112, st112⟩ := own_callV X111 hx hZ hown (hw _ (List.mem_of_getElem? (i := 4) rfl)) (hw _ (List.mem_of_getElem? (i := 5) rfl)) (notFace_of_selects (args := #[]) (mvT hZ (hw _ (List.mem_of_getElem? (i := 7) rfl)))) (hw _ (List.mem_of_getElem? (i := 7) rfl)) (hw _ (List.mem_of_getElem? (i := 6) rfl)) (hw _ (List.mem_of_getElem? (i := 2) rfl)) (hw _ (List.mem_of_getElem? (i := 8) rfl)) (by decide) E_UPDATE (rm1 l Z a0 hw [] w_UPDATE w_CUSTOM h0 n0 Z0 S_CUSTOM) e111 (g := (mkF m 84 #[.val (.int p1), .val (.int k), .val (.ref w_UPDATE), .val (.int (1 : Int32))] [(.ref w_UPDATE)])) rfl (by rw [hml]; rfl) (argsL := []) (rest := []) (lenOf pd0 rfl) rfl (W := 0) (by show 2 * 0 + _ ≤ _; exact Nat.le_of_eq rfl) (hb hby at_84) (by decide) (by decide) (by decide) (by decide)
          obtain ⟨rfl, N112, e112⟩ := hQ112
          refine Go.of st112 ?_
          have NF112 := Fr.app N0 N112
          show Go p e s below _ _ _ T112 (mkF m 87 #[.val (.int p1), .val (.int k), .val (.ref w_UPDATE), .val (.int (1 : Int32))] [(.int (if w_UPDATE = w_CUSTOM then (0 : Int32) else 1))])
          refine Go.of (fun _ hr => XS.iloadN X112.here hx rfl (hb hby at_87) rfl  hr) ?_
          show Go p e s below _ _ _ T112 (mkF m 88 #[.val (.int p1), .val (.int k), .val (.ref w_UPDATE), .val (.int (1 : Int32))] [(.int (1 : Int32)), (.int (if w_UPDATE = w_CUSTOM then (0 : Int32) else 1))])
          refine Go.of (fun _ hr => XS.icmpNo X112.here hx rfl (hb hby at_88) rfl (teq (if_neg NE_UPDATE)).2 hr) ?_
          show Go p e s below _ _ _ T112 (mkF m 91 #[.val (.int p1), .val (.int k), .val (.ref w_UPDATE), .val (.int (1 : Int32))] [])
          refine Go.of (fun _ hr => XS.iconst X112.here hx rfl (hb hby at_91) hr) ?_
          show Go p e s below _ _ _ T112 (mkF m 92 #[.val (.int p1), .val (.int k), .val (.ref w_UPDATE), .val (.int (1 : Int32))] [(.int (1 : Int32))])
          refine Go.of (fun _ hr => XS.goto X112.here hx rfl (pc0 := 92) (pc' := 96) rfl (hb hby at_92) (by decide) (by decide) hr) ?_
          show Go p e s below _ _ _ T112 (mkF m 96 #[.val (.int p1), .val (.int k), .val (.ref w_UPDATE), .val (.int (1 : Int32))] [(.int (1 : Int32))])
          exact Go.retN X112 hx hlk (t := .boolean) (z' := (1 : Int32)) hret (by simp) (hb hby at_96) rfl (by decide) (by decide) ⟨rfl, NF112⟩
        · refine Go.of (fun _ hr => XS.icmpYes X0.here hx rfl (pc0 := 51) (pc' := 63) rfl (hb hby at_51) rfl (feq hb51_110).2 (by decide) (by decide) hr) ?_
          show Go p e s below _ _ _ s₁ (mkF m 63 #[.val (.int p1), .val (.int k), .unset, .unset] [])
          refine Go.of (fun _ hr => XS.iloadN X0.here hx rfl (hb hby at_63) rfl  hr) ?_
          show Go p e s below _ _ _ s₁ (mkF m 64 #[.val (.int p1), .val (.int k), .unset, .unset] [(.int k)])
          refine Go.of (fun _ hr => XS.iconst X0.here hx rfl (hb hby at_64) hr) ?_
          show Go p e s below _ _ _ s₁ (mkF m 65 #[.val (.int p1), .val (.int k), .unset, .unset] [(.int (4 : Int32)), (.int k)])
          by_cases hb65_113 : k = (4 : Int32)
          · refine Go.of (fun _ hr => XS.icmpNo X0.here hx rfl (hb hby at_65) rfl (teq hb65_113).2 hr) ?_
            show Go p e s below _ _ _ s₁ (mkF m 68 #[.val (.int p1), .val (.int k), .unset, .unset] [])
            obtain ⟨T114, X114, e114, st114⟩ := getS2 X0 hx hZ hown (host := "") (Or.inl (hw _ (List.mem_of_getElem? (i := 18) rfl))) Via.refl e0 S_DELETE (g := (mkF m 68 #[.val (.int p1), .val (.int k), .unset, .unset] [])) rfl (hb hby at_68)
            refine Go.of (fun _ hr => st114 _ hr) ?_
            show Go p e s below _ _ _ T114 (mkF m 71 #[.val (.int p1), .val (.int k), .unset, .unset] [(.ref w_DELETE)])
            refine Go.of (fun _ hr => XS.astoreN X114.here hx rfl (hb hby at_71) rfl rfl (l' := #[.val (.int p1), .val (.int k), .val (.ref w_DELETE), .unset]) rfl hr) ?_
            show Go p e s below _ _ _ T114 (mkF m 72 #[.val (.int p1), .val (.int k), .val (.ref w_DELETE), .unset] [])
            refine Go.of (fun _ hr => XS.iconst X114.here hx rfl (hb hby at_72) hr) ?_
            show Go p e s below _ _ _ T114 (mkF m 73 #[.val (.int p1), .val (.int k), .val (.ref w_DELETE), .unset] [(.int (1 : Int32))])
            refine Go.of (fun _ hr => XS.istoreN X114.here hx rfl (hb hby at_73) rfl (l' := #[.val (.int p1), .val (.int k), .val (.ref w_DELETE), .val (.int (1 : Int32))]) rfl hr) ?_
            show Go p e s below _ _ _ T114 (mkF m 74 #[.val (.int p1), .val (.int k), .val (.ref w_DELETE), .val (.int (1 : Int32))] [])
            refine Go.of (fun _ hr => XS.goto X114.here hx rfl (pc0 := 74) (pc' := 83) rfl (hb hby at_74) (by decide) (by decide) hr) ?_
            show Go p e s below _ _ _ T114 (mkF m 83 #[.val (.int p1), .val (.int k), .val (.ref w_DELETE), .val (.int (1 : Int32))] [])
            refine Go.of (fun _ hr => XS.aloadN X114.here hx rfl (hb hby at_83) rfl rfl hr) ?_
            show Go p e s below _ _ _ T114 (mkF m 84 #[.val (.int p1), .val (.int k), .val (.ref w_DELETE), .val (.int (1 : Int32))] [(.ref w_DELETE)])
            obtain ⟨_, T115, L115, X115, hQ115, st115⟩ := own_callV X114 hx hZ hown (hw _ (List.mem_of_getElem? (i := 4) rfl)) (hw _ (List.mem_of_getElem? (i := 5) rfl)) (notFace_of_selects (args := #[]) (mvT hZ (hw _ (List.mem_of_getElem? (i := 7) rfl)))) (hw _ (List.mem_of_getElem? (i := 7) rfl)) (hw _ (List.mem_of_getElem? (i := 6) rfl)) (hw _ (List.mem_of_getElem? (i := 2) rfl)) (hw _ (List.mem_of_getElem? (i := 8) rfl)) (by decide) E_DELETE (rm1 l Z a0 hw [] w_DELETE w_CUSTOM h0 n0 Z0 S_CUSTOM) e114 (g := (mkF m 84 #[.val (.int p1), .val (.int k), .val (.ref w_DELETE), .val (.int (1 : Int32))] [(.ref w_DELETE)])) rfl (by rw [hml]; rfl) (argsL := []) (rest := []) (lenOf pd0 rfl) rfl (W := 0) (by show 2 * 0 + _ ≤ _; exact Nat.le_of_eq rfl) (hb hby at_84) (by decide) (by decide) (by decide) (by decide)
            obtain ⟨rfl, N115, e115⟩ := hQ115
            refine Go.of st115 ?_
            have NF115 := Fr.app N0 N115
            show Go p e s below _ _ _ T115 (mkF m 87 #[.val (.int p1), .val (.int k), .val (.ref w_DELETE), .val (.int (1 : Int32))] [(.int (if w_DELETE = w_CUSTOM then (0 : Int32) else 1))])
            refine Go.of (fun _ hr => XS.iloadN X115.here hx rfl (hb hby at_87) rfl  hr) ?_
            show Go p e s below _ _ _ T115 (mkF m 88 #[.val (.int p1), .val (.int k), .val (.ref w_DELETE), .val (.int (1 : Int32))] [(.int (1 : Int32)), (.int (if w_DELETE = w_CUSTOM then (0 : Int32) else 1))])
            refine Go.of (fun _ hr => XS.icmpNo X115.here hx rfl (hb hby at_88) rfl (teq (if_neg NE_DELETE)).2 hr) ?_
            show Go p e s below _ _ _ T115 (mkF m 91 #[.val (.int p1), .val (.int k), .val (.ref w_DELETE), .val (.int (1 : Int32))] [])
            refine Go.of (fun _ hr => XS.iconst X115.here hx rfl (hb hby at_91) hr) ?_
            show Go p e s below _ _ _ T115 (mkF m 92 #[.val (.int p1), .val (.int k), .val (.ref w_DELETE), .val (.int (1 : Int32))] [(.int (1 : Int32))])
            refine Go.of (fun _ hr => XS.goto X115.here hx rfl (pc0 := 92) (pc' := 96) rfl (hb hby at_92) (by decide) (by decide) hr) ?_
            show Go p e s below _ _ _ T115 (mkF m 96 #[.val (.int p1), .val (.int k), .val (.ref w_DELETE), .val (.int (1 : Int32))] [(.int (1 : Int32))])
            exact Go.retN X115 hx hlk (t := .boolean) (z' := (1 : Int32)) hret (by simp) (hb hby at_96) rfl (by decide) (by decide) ⟨rfl, NF115⟩
          · refine Go.of (fun _ hr => XS.icmpYes X0.here hx rfl (pc0 := 65) (pc' := 77) rfl (hb hby at_65) rfl (feq hb65_113).2 (by decide) (by decide) hr) ?_
            show Go p e s below _ _ _ s₁ (mkF m 77 #[.val (.int p1), .val (.int k), .unset, .unset] [])
            obtain ⟨T116, X116, e116, st116⟩ := getS2 X0 hx hZ hown (host := "") (Or.inl (hw _ (List.mem_of_getElem? (i := 17) rfl))) Via.refl e0 S_CUSTOM (g := (mkF m 77 #[.val (.int p1), .val (.int k), .unset, .unset] [])) rfl (hb hby at_77)
            refine Go.of (fun _ hr => st116 _ hr) ?_
            show Go p e s below _ _ _ T116 (mkF m 80 #[.val (.int p1), .val (.int k), .unset, .unset] [(.ref w_CUSTOM)])
            refine Go.of (fun _ hr => XS.astoreN X116.here hx rfl (hb hby at_80) rfl rfl (l' := #[.val (.int p1), .val (.int k), .val (.ref w_CUSTOM), .unset]) rfl hr) ?_
            show Go p e s below _ _ _ T116 (mkF m 81 #[.val (.int p1), .val (.int k), .val (.ref w_CUSTOM), .unset] [])
            refine Go.of (fun _ hr => XS.iconst X116.here hx rfl (hb hby at_81) hr) ?_
            show Go p e s below _ _ _ T116 (mkF m 82 #[.val (.int p1), .val (.int k), .val (.ref w_CUSTOM), .unset] [(.int (0 : Int32))])
            refine Go.of (fun _ hr => XS.istoreN X116.here hx rfl (hb hby at_82) rfl (l' := #[.val (.int p1), .val (.int k), .val (.ref w_CUSTOM), .val (.int (0 : Int32))]) rfl hr) ?_
            show Go p e s below _ _ _ T116 (mkF m 83 #[.val (.int p1), .val (.int k), .val (.ref w_CUSTOM), .val (.int (0 : Int32))] [])
            refine Go.of (fun _ hr => XS.aloadN X116.here hx rfl (hb hby at_83) rfl rfl hr) ?_
            show Go p e s below _ _ _ T116 (mkF m 84 #[.val (.int p1), .val (.int k), .val (.ref w_CUSTOM), .val (.int (0 : Int32))] [(.ref w_CUSTOM)])
            obtain ⟨_, T117, L117, X117, hQ117, st117⟩ := own_callV X116 hx hZ hown (hw _ (List.mem_of_getElem? (i := 4) rfl)) (hw _ (List.mem_of_getElem? (i := 5) rfl)) (notFace_of_selects (args := #[]) (mvT hZ (hw _ (List.mem_of_getElem? (i := 7) rfl)))) (hw _ (List.mem_of_getElem? (i := 7) rfl)) (hw _ (List.mem_of_getElem? (i := 6) rfl)) (hw _ (List.mem_of_getElem? (i := 2) rfl)) (hw _ (List.mem_of_getElem? (i := 8) rfl)) (by decide) E_CUSTOM (rm1 l Z a0 hw [] w_CUSTOM w_CUSTOM h0 n0 Z0 S_CUSTOM) e116 (g := (mkF m 84 #[.val (.int p1), .val (.int k), .val (.ref w_CUSTOM), .val (.int (0 : Int32))] [(.ref w_CUSTOM)])) rfl (by rw [hml]; rfl) (argsL := []) (rest := []) (lenOf pd0 rfl) rfl (W := 0) (by show 2 * 0 + _ ≤ _; exact Nat.le_of_eq rfl) (hb hby at_84) (by decide) (by decide) (by decide) (by decide)
            obtain ⟨rfl, N117, e117⟩ := hQ117
            refine Go.of st117 ?_
            have NF117 := Fr.app N0 N117
            show Go p e s below _ _ _ T117 (mkF m 87 #[.val (.int p1), .val (.int k), .val (.ref w_CUSTOM), .val (.int (0 : Int32))] [(.int (if w_CUSTOM = w_CUSTOM then (0 : Int32) else 1))])
            refine Go.of (fun _ hr => XS.iloadN X117.here hx rfl (hb hby at_87) rfl  hr) ?_
            show Go p e s below _ _ _ T117 (mkF m 88 #[.val (.int p1), .val (.int k), .val (.ref w_CUSTOM), .val (.int (0 : Int32))] [(.int (0 : Int32)), (.int (if w_CUSTOM = w_CUSTOM then (0 : Int32) else 1))])
            refine Go.of (fun _ hr => XS.icmpNo X117.here hx rfl (hb hby at_88) rfl (teq (if_pos rfl)).2 hr) ?_
            show Go p e s below _ _ _ T117 (mkF m 91 #[.val (.int p1), .val (.int k), .val (.ref w_CUSTOM), .val (.int (0 : Int32))] [])
            refine Go.of (fun _ hr => XS.iconst X117.here hx rfl (hb hby at_91) hr) ?_
            show Go p e s below _ _ _ T117 (mkF m 92 #[.val (.int p1), .val (.int k), .val (.ref w_CUSTOM), .val (.int (0 : Int32))] [(.int (1 : Int32))])
            refine Go.of (fun _ hr => XS.goto X117.here hx rfl (pc0 := 92) (pc' := 96) rfl (hb hby at_92) (by decide) (by decide) hr) ?_
            show Go p e s below _ _ _ T117 (mkF m 96 #[.val (.int p1), .val (.int k), .val (.ref w_CUSTOM), .val (.int (0 : Int32))] [(.int (1 : Int32))])
            exact Go.retN X117 hx hlk (t := .boolean) (z' := (1 : Int32)) hret (by simp) (hb hby at_96) rfl (by decide) (by decide) ⟨rfl, NF117⟩

set_option maxRecDepth 65536 in
set_option maxHeartbeats 40000000 in
theorem comes_1 {Post : Tables → Env → Array Value → State → Outcome → State → Prop} (hpost : ∀ tb e args s v u, (limb_1_1.after args s (.returned v) u = true ∧ limb_1_2.after args s (.returned v) u = true ∧ True) → FrameEnd s (.returned v) u (Jvm.fieldLocs frame_1_writes args s ++ Jvm.arrayLocs frame_1_arrays args s ++ Jvm.staticLocs frame_1_statics s) 0 0 → Post tb e args s (.returned v) u) :
    ArmFor flags0 classFile x code maxLocals ret World_1 tables_1 room_1 Calls_1 rest_1 Pre_1 Post := by
  intro l hfl _ _ p e ha hc hk s m args below hf hA hF happ hP
  obtain ⟨hcalls, hrest, hpre⟩ := hP
  obtain ⟨-, -, -, hnamed, -, -, -, hat⟩ := (Spec.applies_iff hf).mp happ
  obtain ⟨hg, hn⟩ := and_e (Cond.before_iff.mp (show (Jvm.Cond.and given_1 narrow_1).before args s = true from hpre))
  have hw := fun d (hd : d ∈ tables_1) => atoms_spec (ws := Jvm.Cond.code x code maxLocals ret :: tables_1) hat d (List.mem_cons_of_mem _ hd)
  have hfit : Fit s := fun {y c} hc i hi => by
    obtain ⟨ha, rfl⟩ := Array.getElem?_eq_some_iff.mp hc
    have q := List.all_eq_true.mp ((Array.all_eq_true_iff_forall_mem.mp hF) _ (Array.getElem_mem ha)) i (List.mem_range.mpr hi)
    simpa [Array.getElem?_eq_getElem hi] using q
  obtain ⟨hg0, hg⟩ := and_e hg
  obtain ⟨w0, rfl⟩ : ∃ w0 : Value, args = #[w0] := by
    have hs : args.size = 1 := by simpa [Cond.value] using hg0
    obtain ⟨L⟩ := args
    match L, hs with
    | [w0], _ => exact ⟨w0, rfl⟩
  obtain ⟨i0, ev0⟩ := is_v hg
  obtain rfl : w0 = (.int i0) := Option.some.inj ev0
  obtain ⟨hn0, hn⟩ := and_e hn
  obtain ⟨hn1, hn⟩ := and_e hn
  obtain ⟨hn2, hn⟩ := and_e hn
  obtain ⟨hn3, hn⟩ := and_e hn
  obtain ⟨hn4, hn⟩ := and_e hn
  obtain ⟨hn5, hn⟩ := and_e hn
  obtain ⟨hn6, hn⟩ := and_e hn
  obtain ⟨hn7, hn⟩ := and_e hn
  obtain ⟨hn8, hn⟩ := and_e hn
  obtain ⟨hn9, hn⟩ := and_e hn
  obtain ⟨hn10, hn⟩ := and_e hn
  obtain ⟨w_LIST, ev_LIST⟩ := exa_v hn0
  have E_LIST := Exa.start ev_LIST hn0
  have S_LIST := Sta.start ev_LIST (Or.inr ⟨(hw _ (List.mem_of_getElem? (i := 2) rfl)), (hw _ (List.mem_of_getElem? (i := 3) rfl))⟩)
  obtain ⟨w_CUSTOM, ev_CUSTOM⟩ := exa_v hn1
  have E_CUSTOM := Exa.start ev_CUSTOM hn1
  have S_CUSTOM := Sta.start ev_CUSTOM (Or.inr ⟨(hw _ (List.mem_of_getElem? (i := 2) rfl)), (hw _ (List.mem_of_getElem? (i := 10) rfl))⟩)
  obtain ⟨w_UPDATE, ev_UPDATE⟩ := exa_v hn4
  have E_UPDATE := Exa.start ev_UPDATE hn4
  have S_UPDATE := Sta.start ev_UPDATE (Or.inr ⟨(hw _ (List.mem_of_getElem? (i := 2) rfl)), (hw _ (List.mem_of_getElem? (i := 12) rfl))⟩)
  obtain ⟨w_CREATE, ev_CREATE⟩ := exa_v hn6
  have E_CREATE := Exa.start ev_CREATE hn6
  have S_CREATE := Sta.start ev_CREATE (Or.inr ⟨(hw _ (List.mem_of_getElem? (i := 2) rfl)), (hw _ (List.mem_of_getElem? (i := 14) rfl))⟩)
  obtain ⟨w_GET, ev_GET⟩ := exa_v hn8
  have E_GET := Exa.start ev_GET hn8
  have S_GET := Sta.start ev_GET (Or.inr ⟨(hw _ (List.mem_of_getElem? (i := 2) rfl)), (hw _ (List.mem_of_getElem? (i := 16) rfl))⟩)
  obtain ⟨w_DELETE, ev_DELETE⟩ := exa_v hn10
  have E_DELETE := Exa.start ev_DELETE hn10
  have S_DELETE := Sta.start ev_DELETE (Or.inr ⟨(hw _ (List.mem_of_getElem? (i := 2) rfl)), (hw _ (List.mem_of_getElem? (i := 19) rfl))⟩)
  have O_LIST := Fld.start ((fld_at ev_LIST).symm.trans (own_eqI hn2))
  have O_CUSTOM := Fld.start ((fld_at ev_CUSTOM).symm.trans (own_eqI hn3))
  have O_UPDATE := Fld.start ((fld_at ev_UPDATE).symm.trans (own_eqI hn5))
  have O_CREATE := Fld.start ((fld_at ev_CREATE).symm.trans (own_eqI hn7))
  have O_GET := Fld.start ((fld_at ev_GET).symm.trans (own_eqI hn9))
  have O_DELETE := Fld.start ((fld_at ev_DELETE).symm.trans (own_eqI hn))
  obtain ⟨n, o, h1, h2, h3, _, L, rfl, ⟨rfl, N⟩, hq⟩ := rm0 l s _ hw tables_1 i0 w_LIST w_GET w_CREATE w_UPDATE w_DELETE w_CUSTOM s.heap s.heap.size (Nat.le_refl _) S_LIST S_GET S_CREATE S_UPDATE S_DELETE S_CUSTOM E_LIST E_GET E_CREATE E_UPDATE E_DELETE E_CUSTOM (Fld.ne O_LIST O_CUSTOM (by decide)) (Fld.ne O_GET O_CUSTOM (by decide)) (Fld.ne O_CREATE O_CUSTOM (by decide)) (Fld.ne O_UPDATE O_CUSTOM (by decide)) (Fld.ne O_DELETE O_CUSTOM (by decide)) p e ha hc hk s m _ below hf ((Spec.applies_iff_loose hf).mp happ).1 ⟨rfl, State.Warmed39.refl s, rfl⟩ trivial
  refine ⟨n, _, h1, h2, h3, hpost _ _ _ _ _ _ ⟨Cond.after_iff.mpr rfl, Cond.after_iff.mpr (eq_i res_at (Term.int_eval (1)) rfl), trivial⟩ ⟨hq.1, hq.2.1, (hq.2.2.sift fun y hy => Or.inr (N y hy)).mono (by decide) (by decide)⟩⟩
theorem main_1_1 : Claimed_1_1 := comes_1 fun _ _ _ _ _ _ h hF => ⟨h.1, hF⟩
theorem main_1_2 : Claimed_1_2 := comes_1 fun _ _ _ _ _ _ h hF => ⟨h.2.1, hF⟩

end Jvm.Pilot.@@N@@
namespace Jvm.Pilot.@@N@@
open Jvm Jvm.ClassFile Sem Op Lib Jvm.Free Jvm.Stand Jvm.Pilot.@@N@@.Jvm.D
/-! MADE BY PROGRAM (witnessworld.py) out of the Statement's table words and the real class files: 12 classes; the members and pool entries that the words name. The judged class is class 1, her method 1. -/
namespace start1
open Jvm.ClassFile
def u (s : String) : CpInfo := .utf8 (stringToUtf16 s)
/-- a pool by its gaps: so many unusable entries, then the entry; so many at the end -/
def gap : Nat → List CpInfo → List CpInfo
  | 0, r => r
  | n + 1, r => .unusable :: gap n r
def poolList (es : List (Nat × CpInfo)) (last : Nat) : List CpInfo := es.foldr (fun e r => gap e.1 (e.2 :: r)) (gap last [])
def pool (es : List (Nat × CpInfo)) (last : Nat) : Array CpInfo := ⟨poolList es last⟩
def fileOf (pool : Array CpInfo) (this : Nat) (attrs : Array Attribute := #[]) (ms : Array MethodInfo := #[]) (fl : Nat := 33) (sup : Nat := 0) (ifs : Array Nat := #[]) (fds : Array FieldInfo := #[]) : ClassFile where
  minorVersion := 0
  majorVersion := 65
  constantPool := pool
  accessFlags := fl
  thisClass := this
  superClass := sup
  interfaces := ifs
  fields := fds
  methods := ms
  attributes := attrs
def plain (name : String) (sup : Option ClassId) : Class where
  name := name
  kind := .ordinary
  loader := none
  accessFlags := 33
  super := sup
  interfaces := #[]
  cf := none
  fields := #[]
  methods := #[]
  instanceTypes := #[]
  staticTypes := #[]
  resolved := #[]
  callSites := []
  init := .initialized
  statics := none
  mirror := none

def pool0 : Array CpInfo := pool [(5, u "<init>"), (0, u "()V"), (1, .class_ 10), (1, u "java/lang/Object")] 113

def k0m0 : Method := { name := "<init>", desc := "()V", sig := { parameters := [], returnType := none }, accessFlags := 1, code := none }
/-- java/lang/Object -/
def k0 : Class := { plain "java/lang/Object" none with
  accessFlags := 33
  interfaces := #[]
  cf := some (fileOf pool0 8 #[] #[{ accessFlags := 1, nameIndex := 5, descriptorIndex := 6, attributes := #[] }] 33 0 #[] #[])
  fields := #[]
  methods := #[k0m0]
  instanceTypes := #[]
  staticTypes := #[]
  resolved := Array.replicate 124 none
  statics := none }

def pool1 : Array CpInfo := pool [(2, .class_ 4), (1, u "java/lang/Object"), (0, u "<init>"), (0, u "()V"), (0, .integer 2147483647), (0, .fieldref 9 10), (0, .class_ 11), (0, .nameAndType 12 13), (0, u "com/example/mthd/mthd/model/MethodKind"), (0, u "LIST"), (0, u "Lcom/example/mthd/mthd/model/MethodKind;"), (0, .fieldref 9 15), (0, .nameAndType 16 13), (0, u "GET"), (0, .fieldref 9 18), (0, .nameAndType 19 13), (0, u "CREATE"), (0, .fieldref 9 21), (0, .nameAndType 22 13), (0, u "UPDATE"), (0, .fieldref 9 24), (0, .nameAndType 25 13), (0, u "DELETE"), (0, .fieldref 9 27), (0, .nameAndType 28 13), (0, u "CUSTOM"), (0, .methodref 9 30), (0, .nameAndType 31 32), (0, u "isStandard"), (0, u "()Z"), (0, .class_ 34), (0, u "com/example/mthd/mthd/model/MethodKindIsStandardPinLaw"), (2, u "law"), (0, u "(I)Z")] 3

def k1m0 : Method := { name := "<init>", desc := "()V", sig := { parameters := [], returnType := none }, accessFlags := 1, code := none }
def k1c1 : Code := { maxStack := 2, maxLocals := 4, code := code, exceptionTable := #[], attributes := #[] }
def k1m1 : Method := { name := "law", desc := "(I)Z", sig := { parameters := [.int], returnType := some .boolean }, accessFlags := 9, code := some k1c1 }
/-- com/example/mthd/mthd/model/MethodKindIsStandardPinLaw -/
def k1 : Class := { plain "com/example/mthd/mthd/model/MethodKindIsStandardPinLaw" (some 0) with
  accessFlags := 49
  interfaces := #[]
  cf := some (fileOf pool1 33 #[] #[{ accessFlags := 1, nameIndex := 5, descriptorIndex := 6, attributes := #[] }, { accessFlags := 9, nameIndex := 37, descriptorIndex := 38, attributes := #[] }] 49 2 #[] #[])
  fields := #[]
  methods := #[k1m0, k1m1]
  instanceTypes := #[]
  staticTypes := #[]
  resolved := Array.replicate 42 none
  statics := none }

def pool2 : Array CpInfo := pool [(1, .class_ 2), (0, u "java/lang/constant/Constable"), (0, .class_ 4), (0, u "java/lang/Object")] 6

/-- java/lang/constant/Constable -/
def k2 : Class := { plain "java/lang/constant/Constable" (some 0) with
  accessFlags := 1537
  interfaces := #[]
  cf := some (fileOf pool2 1 #[] #[] 1537 3 #[] #[])
  fields := #[]
  methods := #[]
  instanceTypes := #[]
  staticTypes := #[]
  resolved := Array.replicate 11 none
  statics := none }

def pool3 : Array CpInfo := pool [(1, .class_ 2), (0, u "java/lang/Comparable"), (0, .class_ 4), (0, u "java/lang/Object")] 7

/-- java/lang/Comparable -/
def k3 : Class := { plain "java/lang/Comparable" (some 0) with
  accessFlags := 1537
  interfaces := #[]
  cf := some (fileOf pool3 1 #[] #[] 1537 3 #[] #[])
  fields := #[]
  methods := #[]
  instanceTypes := #[]
  staticTypes := #[]
  resolved := Array.replicate 12 none
  statics := none }

def pool4 : Array CpInfo := pool [(1, .class_ 2), (0, u "java/io/Serializable"), (0, .class_ 4), (0, u "java/lang/Object")] 2

/-- java/io/Serializable -/
def k4 : Class := { plain "java/io/Serializable" (some 0) with
  accessFlags := 1537
  interfaces := #[]
  cf := some (fileOf pool4 1 #[] #[] 1537 3 #[] #[])
  fields := #[]
  methods := #[]
  instanceTypes := #[]
  staticTypes := #[]
  resolved := Array.replicate 7 none
  statics := none }

def pool5 : Array CpInfo := pool [(2, .class_ 4), (1, u "java/lang/Enum"), (0, u "name"), (0, u "Ljava/lang/String;"), (2, u "ordinal"), (0, u "I"), (1, .class_ 14), (1, u "java/lang/Object"), (4, u "hash"), (86, .class_ 108), (1, u "java/lang/Enum$EnumDesc"), (2, .class_ 112), (0, u "java/lang/constant/Constable"), (0, .class_ 114), (0, u "java/lang/Comparable"), (0, .class_ 116), (0, u "java/io/Serializable")] 87

/-- java/lang/Enum -/
def k5 : Class := { plain "java/lang/Enum" (some 0) with
  accessFlags := 1057
  interfaces := #[2, 3, 4]
  cf := some (fileOf pool5 2 #[.nestMembers #[106]] #[] 1057 12 #[111, 113, 115] #[{ accessFlags := 18, nameIndex := 5, descriptorIndex := 6, attributes := #[] }, { accessFlags := 18, nameIndex := 9, descriptorIndex := 10, attributes := #[] }, { accessFlags := 2, nameIndex := 19, descriptorIndex := 10, attributes := #[] }])
  fields := #[{ name := "name", type := (.object "java/lang/String"), accessFlags := 18, slot := 0, constantValue := 0 }, { name := "ordinal", type := .int, accessFlags := 18, slot := 1, constantValue := 0 }, { name := "hash", type := .int, accessFlags := 2, slot := 2, constantValue := 0 }]
  methods := #[]
  instanceTypes := #[(.object "java/lang/String"), .int, .int]
  staticTypes := #[]
  resolved := Array.replicate 204 none
  statics := none }

def pool6 : Array CpInfo := pool [(1, .class_ 2), (0, u "com/example/mthd/mthd/model/MethodKind"), (2, u "LIST"), (0, u "Lcom/example/mthd/mthd/model/MethodKind;"), (2, u "GET"), (2, u "CREATE"), (2, u "UPDATE"), (2, u "DELETE"), (0, .fieldref 1 20), (0, .nameAndType 21 6), (0, u "CUSTOM"), (2, u "$VALUES"), (0, u "[Lcom/example/mthd/mthd/model/MethodKind;"), (6, .class_ 34), (1, u "java/lang/Enum"), (8, u "namePrefix"), (0, u "Ljava/lang/String;"), (18, u "STANDARD"), (0, u "Ljava/util/Set;"), (11, u "()Z"), (85, u "isStandard")] 29

def k6c0 : Code := { maxStack := 2, maxLocals := 1, code := prog_22_method_7_code, exceptionTable := #[], attributes := #[] }
def k6m0 : Method := { name := "isStandard", desc := "()Z", sig := { parameters := [], returnType := some .boolean }, accessFlags := 1, code := some k6c0 }
/-- com/example/mthd/mthd/model/MethodKind -/
def k6 : Class := { plain "com/example/mthd/mthd/model/MethodKind" (some 5) with
  accessFlags := 16433
  interfaces := #[]
  cf := some (fileOf pool6 1 #[] #[{ accessFlags := 1, nameIndex := 162, descriptorIndex := 76, attributes := #[] }] 16433 32 #[] #[{ accessFlags := 16409, nameIndex := 5, descriptorIndex := 6, attributes := #[] }, { accessFlags := 16409, nameIndex := 9, descriptorIndex := 6, attributes := #[] }, { accessFlags := 16409, nameIndex := 12, descriptorIndex := 6, attributes := #[] }, { accessFlags := 16409, nameIndex := 15, descriptorIndex := 6, attributes := #[] }, { accessFlags := 16409, nameIndex := 18, descriptorIndex := 6, attributes := #[] }, { accessFlags := 16409, nameIndex := 21, descriptorIndex := 6, attributes := #[] }, { accessFlags := 25, nameIndex := 63, descriptorIndex := 64, attributes := #[] }, { accessFlags := 18, nameIndex := 43, descriptorIndex := 44, attributes := #[] }, { accessFlags := 4122, nameIndex := 24, descriptorIndex := 25, attributes := #[] }])
  fields := #[{ name := "LIST", type := (.object "com/example/mthd/mthd/model/MethodKind"), accessFlags := 16409, slot := 0, constantValue := 0 }, { name := "GET", type := (.object "com/example/mthd/mthd/model/MethodKind"), accessFlags := 16409, slot := 1, constantValue := 0 }, { name := "CREATE", type := (.object "com/example/mthd/mthd/model/MethodKind"), accessFlags := 16409, slot := 2, constantValue := 0 }, { name := "UPDATE", type := (.object "com/example/mthd/mthd/model/MethodKind"), accessFlags := 16409, slot := 3, constantValue := 0 }, { name := "DELETE", type := (.object "com/example/mthd/mthd/model/MethodKind"), accessFlags := 16409, slot := 4, constantValue := 0 }, { name := "CUSTOM", type := (.object "com/example/mthd/mthd/model/MethodKind"), accessFlags := 16409, slot := 5, constantValue := 0 }, { name := "STANDARD", type := (.object "java/util/Set"), accessFlags := 25, slot := 6, constantValue := 0 }, { name := "namePrefix", type := (.object "java/lang/String"), accessFlags := 18, slot := 3, constantValue := 0 }, { name := "$VALUES", type := (.array (.object "com/example/mthd/mthd/model/MethodKind")), accessFlags := 4122, slot := 7, constantValue := 0 }]
  methods := #[k6m0]
  instanceTypes := #[(.object "java/lang/String"), .int, .int, (.object "java/lang/String")]
  staticTypes := #[(.object "com/example/mthd/mthd/model/MethodKind"), (.object "com/example/mthd/mthd/model/MethodKind"), (.object "com/example/mthd/mthd/model/MethodKind"), (.object "com/example/mthd/mthd/model/MethodKind"), (.object "com/example/mthd/mthd/model/MethodKind"), (.object "com/example/mthd/mthd/model/MethodKind"), (.object "java/util/Set"), (.array (.object "com/example/mthd/mthd/model/MethodKind"))]
  resolved := Array.replicate 192 none
  statics := some 0 }

def pool7 : Array CpInfo := pool [(1, u "java/lang/Cloneable"), (0, .class_ 1), (0, u "java/lang/Object"), (0, .class_ 3)] 3

/-- java/lang/Cloneable -/
def k7 : Class := { plain "java/lang/Cloneable" (some 0) with
  accessFlags := 1537
  interfaces := #[]
  cf := some (fileOf pool7 2 #[] #[] 1537 4 #[] #[])
  fields := #[]
  methods := #[]
  instanceTypes := #[]
  staticTypes := #[]
  resolved := Array.replicate 8 none
  statics := none }

/-- the primitive byte -/
def k8 : Class := { plain "byte" none with kind := .primitive 'B', accessFlags := 0x411 }
/-- [B -/
def k9 : Class := { plain "[B" (some 0) with kind := .array 8 .byte, interfaces := #[7, 4], accessFlags := 1041 }

/-- the primitive int -/
def k10 : Class := { plain "int" none with kind := .primitive 'I', accessFlags := 0x411 }
/-- [I -/
def k11 : Class := { plain "[I" (some 0) with kind := .array 10 .int, interfaces := #[7, 4], accessFlags := 1041 }

def heap : Heap := #[{ cls := 6, slots := #[.ref 1, .ref 2, .ref 3, .ref 4, .ref 5, .ref 6, .null, .null], vm := .statics 6 },
  { cls := 6, slots := #[.null, .int 0, .int 0, .null], vm := .none },
  { cls := 6, slots := #[.null, .int 1, .int 0, .null], vm := .none },
  { cls := 6, slots := #[.null, .int 2, .int 0, .null], vm := .none },
  { cls := 6, slots := #[.null, .int 3, .int 0, .null], vm := .none },
  { cls := 6, slots := #[.null, .int 4, .int 0, .null], vm := .none },
  { cls := 6, slots := #[.null, .int 5, .int 0, .null], vm := .none }]
def classes : Array Class := #[k0, k1, k2, k3, k4, k5, k6, k7, k8, k9, k10, k11]
def interned : List (Array UInt16 × Addr) := []
def slotsUsed : Nat := 32
def theMethod : MethodId := ⟨1, 1⟩
def args0 : Array Value := #[.int 5]
def aboutOver (below : List Frame) : State where
  vm := { classes := classes, interned := interned.toArray }
  heap := heap
  slotsUsed := slotsUsed
  threads := #[{ frames := .invoking theMethod args0 :: below }]
def below0 : List Frame := [.native { method := ⟨0, 0⟩, args := #[] }]
def about1 : State := aboutOver below0
def p0 : Program := .bare "" "" ""
def e0 : Env := launch0.env 0 0 0
theorem w_frames : about1.frames = Frame.invoking theMethod args0 :: below0 := rfl
set_option maxRecDepth 65536 in
theorem w_args : argsFit about1.vm theMethod args0 = true := by decide +kernel
set_option maxRecDepth 65536 in
theorem w_heap : heapFits about1 = true := by decide +kernel
set_option maxRecDepth 65536 in
theorem w_runnable : about1.curStatus? = some .runnable := by decide +kernel
set_option maxRecDepth 65536 in
theorem w_alone : about1.alone = true := by decide +kernel
set_option maxRecDepth 65536 in
theorem w_named : about1.methodNamed? x = some theMethod := by decide +kernel
set_option maxRecDepth 65536 in
theorem w_hears : about1.hears theMethod below0 = true := by decide +kernel
set_option maxRecDepth 65536 in
theorem w_ripe : about1.ripe theMethod args0 below0 = true := by decide +kernel
theorem w_running : about1.status = .running := rfl
set_option maxRecDepth 65536 in
theorem w_room : about1.hasRoom e0.platform room_1 = true :=
  launch0.hasRoom_least _ room_1 (by decide +kernel) (by decide +kernel) (by decide +kernel) (by decide +kernel) (by decide +kernel) (by decide +kernel)
theorem allAtoms_all (ts : List Jvm.Cond) (a : Array Jvm.Value) (st : Jvm.State) : (allAtoms ts).before a st = ts.all (fun c => c.before a st) := by
  induction ts with
  | nil => rfl
  | cons c t ih =>
    show (Jvm.Cond.and c (allAtoms t)).before a st = _
    rw [Jvm.Cond.before_and, ih, List.all_cons]
def words1 : List Jvm.Cond := Jvm.Cond.code x code maxLocals ret :: tables_1
/-- a 'code' word, met by the world's own term for the bytes: nothing is compared byte by byte -/
theorem code_word {y : MethodName} {bytes : ByteArray} {mx : Nat} {rt : Option FieldType} {a : Array Value} {s : State} {m : MethodId} {meth : Method} {c : Code} (h1 : s.methodNamed? y = some m) (h2 : s.vm.method? m = some meth) (h3 : meth.code = some c) (h4 : c.code = bytes)
    (h5 : (c.maxLocals == mx && c.exceptionTable.isEmpty && decide (c.maxStack ≤ mostOperands) && decide (meth.sig.returnType = rt) && !meth.locks && decide (parseMethodDescriptor y.desc = some meth.sig)) = true) : (Jvm.Cond.code y bytes mx rt).before a s = true := by
  simp only [Bool.and_eq_true, beq_iff_eq, Bool.not_eq_true', decide_eq_true_eq] at h5
  obtain ⟨⟨⟨⟨⟨g1, g2⟩, g3⟩, g4⟩, g5⟩, g6⟩ := h5
  simp [Cond.before, Cond.holds, Cond.value, h1, h2, h3, h4, g1, g2, g3, g4, g5, g6]
def isCode : Jvm.Cond → Bool
  | .code _ _ _ _ => true
  | _ => false
theorem all_split {L : List Jvm.Cond} {P : Jvm.Cond → Bool} (h1 : L.all (fun c => isCode c || P c) = true) (h2 : ∀ c ∈ L.filter isCode, P c = true) : L.all P = true := by
  refine List.all_eq_true.mpr fun c hc => ?_
  have h := List.all_eq_true.mp h1 c hc
  rcases Bool.eq_false_or_eq_true (isCode c) with hi | hi
  · exact h2 c (List.mem_filter.mpr ⟨hc, hi⟩)
  · simpa [hi] using h
set_option maxRecDepth 65536 in
theorem w_c0 : (Jvm.Cond.code x code maxLocals ret).before args0 about1 = true := code_word (m := ⟨1, 1⟩) (meth := k1m1) (c := k1c1) (by decide +kernel) rfl rfl rfl (by decide +kernel)
set_option maxRecDepth 65536 in
theorem w_c1 : (Jvm.Cond.code ({ cls := "com/example/mthd/mthd/model/MethodKind", name := "isStandard", desc := "()Z" } : Jvm.MethodName) prog_22_method_7_code (1 : Nat) (Option.some Jvm.ClassFile.FieldType.boolean)).before args0 about1 = true := code_word (m := ⟨6, 0⟩) (meth := k6m0) (c := k6c0) (by decide +kernel) rfl rfl rfl (by decide +kernel)
def codes1 : List Jvm.Cond := [Jvm.Cond.code x code maxLocals ret, Jvm.Cond.code ({ cls := "com/example/mthd/mthd/model/MethodKind", name := "isStandard", desc := "()Z" } : Jvm.MethodName) prog_22_method_7_code (1 : Nat) (Option.some Jvm.ClassFile.FieldType.boolean)]
set_option maxRecDepth 65536 in
theorem codes_eq : words1.filter isCode = codes1 := rfl
theorem w_codes : ∀ c ∈ words1.filter isCode, c.before args0 about1 = true := by
  rw [codes_eq]
  intro c hc
  simp only [codes1, List.mem_cons, List.not_mem_nil, or_false] at hc
  rcases hc with rfl | rfl
  · exact w_c0
  · exact w_c1
set_option maxRecDepth 65536 in
theorem w_t1 : words1.all (fun c => isCode c || c.before args0 about1) = true := by decide +kernel
theorem w_tables : (allAtoms (Jvm.Cond.code x code maxLocals ret :: tables_1)).before args0 about1 = true := by
  rw [allAtoms_all]
  show words1.all (fun c => c.before args0 about1) = true
  refine all_split ?_ w_codes
  rw [w_t1]
set_option maxRecDepth 65536 in
theorem w_case : (Jvm.Cond.and given_1 narrow_1).before args0 about1 = true := by decide +kernel
theorem w_applies : (headSpec (Jvm.Cond.code x code maxLocals ret :: tables_1) room_1).applies x e0.platform about1 = true :=
  (Spec.applies_iff w_frames).mpr ⟨w_running, w_runnable, w_alone, w_named, w_hears, w_ripe, w_room, w_tables⟩
theorem atStart : AtStart classFile x code maxLocals ret World_1 tables_1 room_1 Calls_1 rest_1 Pre_1 launch0 p0 e0 about1 theMethod args0 below0 :=
  ⟨lists_1, trivial, launch0.admits_env _ _ _, launch0.least_env, fairChoices_fair.cas, fairChoices_fair.clock, w_frames, w_args, w_heap, w_applies, trivial, trivial, w_case⟩
end start1
theorem witness_1 : WitnessClaimed_1 := ⟨start1.p0, start1.e0, start1.about1, start1.theMethod, start1.args0, start1.below0, start1.atStart⟩
end Jvm.Pilot.@@N@@
