import JvmDerived
import JvmDerived.Pilot.@@N@@Statement
import JvmDerived.Pilot.@@N@@Code
set_option linter.unusedVariables false
set_option linter.unusedSimpArgs false

namespace Jvm.Pilot.@@N@@
open Jvm Jvm.ClassFile Sem Op Lib Jvm.Free Jvm.Stand Jvm.LawKit Jvm.RoadKit Bundle Jvm.Pilot.@@N@@.Jvm.D

theorem own_onn {i : Nat} (h : i < 2147483648) : ¬ Int32.ofNat i < 0 := by
  rw [Int32.lt_iff_toInt_lt, Int32.toInt_ofNat_small h, Int32.toInt_zero]; omega
theorem own_oi {i : Nat} (h : i < 2147483648) : (Int32.ofNat i).toNatClampNeg = i := by
  have q := nat_of (own_onn h)
  rw [Int32.toInt_ofNat_small h] at q; omega

def litCs : List (String × Nat × String) := [("java/lang/String", 7, "")]
theorem lit0_in : ("java/lang/String", 7, "") ∈ litCs := List.mem_of_getElem? (i := 0) rfl
theorem lit0_one : ∀ q ∈ litCs, q.2.2 = "" → q = ("java/lang/String", 7, "") := by decide +kernel
theorem lit0_lat : ∀ c ∈ "".toList, c.toNat < 256 := by decide +kernel
theorem lit0_len : "".toList.length < 2147483648 := by decide +kernel
theorem lit0_sz : 4 * "".toList.length ≤ 0 := by decide +kernel

section OwnLit
/-- the bytes of a literal's text -/
def litI (text : String) : List Int32 := text.toList.map fun c => Jvm.Lit.byteI c.toNat.toUInt16
def litB (text : String) : List Value := (litI text).map Value.int
theorem litI_len (text : String) : (litI text).length = text.toList.length := List.length_map ..
theorem litB_eq (text : String) : litB text = text.toList.map fun c => Value.int (Jvm.Lit.byteI c.toNat.toUInt16) := List.map_map ..
/-- the String at a says the text, her bytes lie at t -/
def Says (Z : State) (h : Heap) (a t : Addr) (k : ClassId) (text : String) : Prop :=
  Exa Z h a "java/lang/String" ∧ Fld Z h a "java/lang/String" "coder" "B" (.int 0) ∧ Fld Z h a "java/lang/String" "value" "[B" (.ref t) ∧ Arv Z h t k .byte (Int32.ofNat (litI text).length) ((litI text).map Value.int) (.int 0)
theorem Says.ext {Z : State} {h h' : Heap} {a t : Addr} {k : ClassId} {text : String} (S : Says Z h a t k text) (E : Ext h h') : Says Z h' a t k text := ⟨S.1.ext E, S.2.1.ext E, S.2.2.1.ext E, S.2.2.2.ext E⟩
theorem Says.other {Z : State} {h h' : Heap} {a t x : Addr} {k : ClassId} {text : String} {sl : Nat} {v : Value} (S : Says Z h a t k text) (W : Wr h h' x sl v) (q1 : a ≠ x) (q2 : t ≠ x) : Says Z h' a t k text := ⟨S.1.wr W, S.2.1.other W (Or.inl q1), S.2.2.1.other W (Or.inl q1), S.2.2.2.other W q2⟩
theorem Says.keep {Z : State} {h h' : Heap} {a t : Addr} {ws : List Addr} {k : ClassId} {text : String} (S : Says Z h a t k text) (K : Keep h h' ws) (q1 : a ∉ ws) (q2 : t ∉ ws) : Says Z h' a t k text := ⟨S.1.keep K, S.2.1.keep K q1, S.2.2.1.keep K q1, S.2.2.2.keep K q2⟩
/-- what the case assumes of the literals: whatever the JVM holds already says its text; compact strings are on -/
def LH (Z : State) : Prop := (∀ q ∈ litCs, Jvm.Lit.constHeld Z q.1 q.2.1) ∧ ∀ a0, Jvm.Lit.compactW.before a0 Z = true
/-- what holds of the literals all along: those loaded since the start are booked, say their texts, and lie apart from ms, the objects that are still written -/
def Hd (Z : State) (ms : List Addr) (vm : Vm) (h : Heap) : Prop :=
  LH Z ∧ Ext Z.heap h ∧ (∀ x ∈ ms, Z.heap.size ≤ x ∧ x < h.size) ∧ ∃ Ts, IB Z vm Ts ∧ ∀ q ∈ litCs, q.2.2 ∉ Ts ∨ ∃ a t k, Lit (Z.setVm vm) q.1 q.2.1 a ∧ Says Z h a t k q.2.2 ∧ a ∉ ms ∧ t ∉ ms
theorem Hd.start {Z : State} (A : LH Z) : Hd Z [] Z.vm Z.heap := ⟨A, ⟨Nat.le_refl _, fun _ _ q => q⟩, fun x hx => (nomatch hx), [], IB.start, fun q hq => Or.inl (fun z => (nomatch z))⟩
variable {Z b : State} {ms ms' ws : List Addr} {h h' : Heap} {vm vm' : Vm} {x : Addr} {sl : Nat} {v : Value}
theorem Hd.warm (J : Hd Z ms b.vm h) (q : b.WarmedH vm') : Hd Z ms vm' h := by
  obtain ⟨A, E, M, Ts, ⟨more, e, hm⟩, L⟩ := J
  refine ⟨A, E, M, Ts, ⟨more, q.interned_eq.trans e, hm⟩, fun c hc => (L c hc).imp id fun ⟨a, t, k, l, r⟩ => ⟨a, t, k, ?_, r⟩⟩
  exact State.resolvedAt?_warmed39 (s := b) q.wide l
theorem Hd.ext (J : Hd Z ms vm h) (E' : Ext h h') : Hd Z ms vm h' := by
  obtain ⟨A, E, M, Ts, I, L⟩ := J
  exact ⟨A, ⟨Nat.le_trans E.1 E'.1, fun a c q => E'.2 a c (E.2 a c q)⟩, fun y hy => ⟨(M y hy).1, Nat.lt_of_lt_of_le (M y hy).2 E'.1⟩, Ts, I, fun c hc => (L c hc).imp id fun ⟨a, t, k, l, s, r⟩ => ⟨a, t, k, l, s.ext E', r⟩⟩
theorem Hd.add (J : Hd Z ms vm h) (E' : Ext h h') (q : x = h.size) (q' : x < h'.size) : Hd Z (x :: ms) vm h' := by
  obtain ⟨A, E, M, Ts, I, L⟩ := J
  refine ⟨A, ⟨Nat.le_trans E.1 E'.1, fun a c r => E'.2 a c (E.2 a c r)⟩, fun y hy => ?_, Ts, I, fun c hc => (L c hc).imp id fun ⟨a, t, k, l, s, r1, r2⟩ => ⟨a, t, k, l, s.ext E', ?_, ?_⟩⟩
  · rcases List.mem_cons.mp hy with rfl | hy
    · exact ⟨q ▸ E.1, q'⟩
    · exact ⟨(M y hy).1, Nat.lt_of_lt_of_le (M y hy).2 E'.1⟩
  · exact ninS (fun z => absurd s.1.lt (by rw [z, q]; exact Nat.lt_irrefl _)) r1
  · exact ninS (fun z => absurd s.2.2.2.lt (by rw [z, q]; exact Nat.lt_irrefl _)) r2
theorem Hd.keep (J : Hd Z ms vm h) (K : Keep h h' ws) (q : ∀ x ∈ ws, x ∈ ms) : Hd Z ms vm h' := by
  obtain ⟨A, E, M, Ts, I, L⟩ := J
  refine ⟨A, ⟨Nat.le_trans E.1 K.1, fun a c r => K.2.1 a c (E.2 a c r) fun z => ?_⟩, fun y hy => ⟨(M y hy).1, Nat.lt_of_lt_of_le (M y hy).2 K.1⟩, Ts, I, fun c hc => (L c hc).imp id fun ⟨a, t, k, l, s, r1, r2⟩ => ⟨a, t, k, l, s.keep K (fun z => r1 (q _ z)) (fun z => r2 (q _ z)), r1, r2⟩⟩
  exact absurd (Array.getElem?_eq_some_iff.mp r).1 (Nat.not_lt.mpr (M _ (q _ z)).1)
theorem Hd.wr (J : Hd Z ms vm h) (W : Wr h h' x sl v) (q : x ∈ ms) : Hd Z ms vm h' := J.keep (Keep.of_wr W) (fun y hy => by cases List.mem_singleton.mp hy; exact q)
theorem Hd.sub (J : Hd Z ms vm h) (q : ∀ x ∈ ms', x ∈ ms) : Hd Z ms' vm h := by
  obtain ⟨A, E, M, Ts, I, L⟩ := J
  exact ⟨A, E, fun y hy => M y (q y hy), Ts, I, fun c hc => (L c hc).imp id fun ⟨a, t, k, l, s, r1, r2⟩ => ⟨a, t, k, l, s, fun z => r1 (q _ z), fun z => r2 (q _ z)⟩⟩
theorem Hd.nms {t : Addr} (J : Hd Z ms vm h) (q : h.size ≤ t) : t ∉ ms := fun z => absurd (J.2.2.1 t z).2 (Nat.not_lt.mpr q)
/-- what the law of the cold load hands out, said of the start's tables -/
theorem slin_says {T' : State} {lo hi : Nat} {a : Addr} {units : Array UInt16} {text : String} (hal : Z.vm.Alike T'.vm) (hin : SlIn lo hi T' a units) (htext : utf16ToString? units = some text) (hl : ∀ c ∈ text.toList, c.toNat < 256) (hsz : text.toList.length < 2147483648) :
    ∃ t k, Says Z T'.heap a t k text ∧ ((a < lo ∧ t < lo) ∨ (hi ≤ a ∧ hi ≤ t)) := by
  obtain ⟨q, cS, rfl, ⟨⟨s1, s2, s3, ⟨cv, kv, iv, s4, s4'⟩, ⟨cc, kc, ic, s5, s5'⟩, s6, s7, s8, s9, s10, ⟨t1, t2, t3, t4, t5⟩, s12, s13, s14, s15, s16⟩, fS, eS⟩, ⟨kS, k1, k2, k3⟩, fB, hby, hloc⟩ := hin
  obtain ⟨kv', z4⟩ := ff_back hal s4
  obtain ⟨kc', z5⟩ := ff_back hal s5
  have fZ : Z.vm.findClass "java/lang/String" = some q.sC.cls := by rw [← hal.findClass, eS]; exact fS
  obtain ⟨kz, hz, -⟩ := Vm.findClass_spec fZ
  obtain ⟨kz', hz', ez⟩ := hal.2.2 _ _ hz
  have e1 : kz' = kS := Option.some.inj (hz'.symm.trans (eS ▸ k1))
  have bZ : Z.vm.findClass "[B" = some q.SA.cls := by rw [← hal.findClass]; exact fB
  obtain ⟨kb, hb, -⟩ := Vm.findClass_spec bZ
  obtain ⟨kb', hb', eb⟩ := hal.2.2 _ _ hb
  have e2 : t2 = kb' := Option.some.inj (t3.symm.trans hb')
  have hA : Z.isArrayOf q.SA .byte := ⟨t1, kb, hb, t4, by rw [e2, eb] at t5; exact t5⟩
  have hu := Jvm.ClassFile.units_of_text htext hl
  have hlat := Jvm.ClassFile.lat_of_text htext hl
  have hsl : q.SA.slots = units.map fun u => Value.int (Jvm.Lit.byteI u) := by rw [hby, Jvm.Free.SBG.stringBytes_lat hlat]; rfl
  have hlb : litB text = units.toList.map fun u => Value.int (Jvm.Lit.byteI u) := by rw [hu, litB_eq, List.map_map]; rfl
  have hn : q.SA.slots.size = text.toList.length := by
    have r := congrArg List.length hu
    rw [hsl, Array.size_map]; simpa using r
  have H : Has q.SA (litB text) (.int 0) := fun j hj => by
    have hj' : j < units.size := by rw [hsl, Array.size_map] at hj; exact hj
    rw [hsl, hlb]; simp [hj']
  refine ⟨q.sd, q.SA.cls, ⟨⟨q.sC, kz, s1, fZ, hz, s3, fun _ => by rw [k3, ← e1, ez]⟩, ⟨q.sC, cc, kc', ic, q.fSC, s1, z5, s7, s2, s3, by rw [← hal.assignable]; exact s5', s9⟩, ⟨q.sC, cv, kv', iv, q.fSV, s1, z4, s6, s2, s3, by rw [← hal.assignable]; exact s4', s8⟩,
    ⟨q.SA, ⟨s10, hA, s12⟩, rfl, by rw [hn, litI_len, own_oi hsz], by rw [litI_len]; exact own_onn hsz, H, fun j hj => ?_⟩⟩, hloc⟩
  have r1 := s16 j hj
  rw [Jvm.Free.SBG.getD_of (H j hj)] at r1
  exact r1
end OwnLit

section OwnKit
variable {p : Program} {l : Launch} {e : Env} {R : Room} {s b : State} {m : MethodId} {args : Array Value} {below : List Frame} {meth : Method} {c : Code} {T T' : State} {locs : List Loc} {cells slots : Nat} {Z : State} {a0 : Array Value} {h h' : Heap} {K N : Nat} {Q : Option Value → Vm → Heap → List Loc → Prop} {g g' : JFrame} {ms : List Addr}
/-- from the frame g over T the body comes to its end, and there Q holds (the end in the wide sense: literals may have been loaded) -/
def Go (p : Program) (e : Env) (s : State) (below : List Frame) (K N : Nat) (J : Vm → Heap → Prop) (Q : Option Value → Vm → Heap → List Loc → Prop) (T : State) (g : JFrame) : Prop :=
  ∃ s₂ o, Steps p.tables e below (T.setTop g) s₂ ∧ s₂.status = .running ∧ Ended s₂ below o ∧ ∃ v L, o = .returned v ∧ Q v s₂.vm s₂.heap L ∧ J s₂.vm s₂.heap ∧ ReturnedEndW s o s₂ L K N
theorem Go.of {J : Vm → Heap → Prop} (st : ∀ t, Steps p.tables e below (T'.setTop g') t → Steps p.tables e below (T.setTop g) t) (q : Go p e s below K N J Q T' g') : Go p e s below K N J Q T g := by
  obtain ⟨s2, o, h1, r⟩ := q
  exact ⟨s2, o, st _ h1, r⟩
theorem own_go0 {J : Vm → Heap → Prop} {as' : Array Value} {n : Nat} {ls : Array Slot} (q : argsToLocals as' n = ls) (r : Go p e s below K N J Q T (mkF m 0 ls [])) : Go p e s below K N J Q T (entryFrame m as' n) := by subst q; exact r
/-- two roads meet again: what comes behind is proved once -/
theorem Go.join {J : Vm → Heap → Prop} {α : Type} (P : α → Prop) (f : α → JFrame) (A : ∀ x, P x → Go p e s below K N J Q T (f x)) (C : (∀ x, P x → Go p e s below K N J Q T (f x)) → Go p e s below K N J Q T g) : Go p e s below K N J Q T g := C A
/-- the tables at hand: b is the start s with warmer tables, their new pairs booked below the heap's size -/
def Bs (s b : State) (h : Heap) : Prop := ∃ vm k, b = s.setVm vm ∧ s.Since vm k ∧ k ≤ h.size
theorem Bs.start (s : State) (h : Heap) : Bs s s h := ⟨s.vm, 0, rfl, (State.WarmedH.refl s).since 0, Nat.zero_le _⟩
theorem Bs.mono (B : Bs s b h) (q : h.size ≤ h'.size) : Bs s b h' := by
  obtain ⟨vm, k, e, hS, hk⟩ := B
  exact ⟨vm, k, e, hS, Nat.le_trans hk q⟩
theorem rend_mono {t : State} {o : Outcome} {L : List Loc} {k n k' n' : Nat} (q : ReturnedEndW s o t L k n) (hk : k ≤ k') (hn : n ≤ n') : ReturnedEndW s o t L k' n' := ⟨q.1, q.2.1, q.2.2.1, q.2.2.2.mono hk hn⟩
theorem own_retI (X : Stand p l e R s m args below meth c T locs cells slots) (hx : p.tables.exec = Jvm.exec) {pc : Nat} {Ls : Array Slot} {z : Int32} {rest : List Value} (hret : meth.sig.returnType = some .int) (hd : decode c.code pc = .ok (.ireturn, 1)) {fs : List Frame}
    (hl : ∀ (f : JFrame) (acts : List Action), f.method = m → f.locked = none → f.entered = [] → (doReturn e (T.setTop f) acts (some (.int z))).1 = T.setFrames fs) : Steps p.tables e below (T.setTop (mkF m pc Ls (.int z :: rest))) (T.setFrames fs) := by
  have hm' : T.vm.method? m = some meth := X.method'
  have hn : narrow .int (.int z) = .int z := rfl
  show Steps p.tables e below (T.setTop { method := m, pc := pc, locals := Ls, stack := _ :: rest, locked := none }) _
  jvm_step X.here [X.here.top, hx, hd, hm', hret, hn]
  first | (intro acts; rw [hl _ acts rfl rfl rfl]) | rw [hl _ _ rfl rfl rfl]
  exact Steps.refl _
theorem Go.retI (X : Stand p l e R b m args below meth c T locs cells slots) (hx : p.tables.exec = Jvm.exec) (hlk : meth.locks = false) (B : Bs s b h) (J : Hd Z ms b.vm h) (eT : T.heap = h) {pc : Nat} {Ls : Array Slot} {z : Int32} {rest : List Value} (hret : meth.sig.returnType = some .int) (hd : decode c.code pc = .ok (.ireturn, 1)) (hK : cells ≤ K) (hN : slots ≤ N)
    (hQ : ∀ vm, b.WarmedH vm → Q (some (.int z)) vm h locs) : Go p e s below K N (Hd Z ms) Q T (mkF m pc Ls (.int z :: rest)) := by
  obtain ⟨vm, k, rfl, hS, hk⟩ := B
  subst eT
  obtain ⟨fs, hr, hrun, hended, hW⟩ := X.leaveW hS hk (v := some (.int z)) (fun q => by rw [hret] at q; cases q) hlk
  exact ⟨_, _, own_retI X hx hret hd hr, hrun, hended, _, _, rfl, hQ _ X.warmed, J.warm X.warmed, rend_mono hW hK hN⟩
theorem Go.retN (X : Stand p l e R b m args below meth c T locs cells slots) (hx : p.tables.exec = Jvm.exec) (hlk : meth.locks = false) (B : Bs s b h) (J : Hd Z ms b.vm h) (eT : T.heap = h) {pc : Nat} {Ls : Array Slot} {z z' : Int32} {t : FieldType} {rest : List Value} (hret : meth.sig.returnType = some t) (ht : t = .boolean ∨ t = .byte ∨ t = .char ∨ t = .short) (hd : decode c.code pc = .ok (.ireturn, 1)) (hz : nar t z = z') (hK : cells ≤ K) (hN : slots ≤ N)
    (hQ : ∀ vm, b.WarmedH vm → Q (some (.int z')) vm h locs) : Go p e s below K N (Hd Z ms) Q T (mkF m pc Ls (.int z :: rest)) := by
  obtain ⟨vm, k, rfl, hS, hk⟩ := B
  subst eT hz
  obtain ⟨fs, hr, hrun, hended, hW⟩ := X.leaveW hS hk (v := some (.int (nar t z))) (fun q => by rw [hret] at q; cases q) hlk
  exact ⟨_, _, Jvm.RoadKit.retN X hx hret ht hd hr, hrun, hended, _, _, rfl, hQ _ X.warmed, J.warm X.warmed, rend_mono hW hK hN⟩
theorem Go.retA (X : Stand p l e R b m args below meth c T locs cells slots) (hx : p.tables.exec = Jvm.exec) (hlk : meth.locks = false) (B : Bs s b h) (J : Hd Z ms b.vm h) (eT : T.heap = h) {pc : Nat} {Ls : Array Slot} {w : Value} {t : FieldType} {rest : List Value} (hret : meth.sig.returnType = some t) (ht : t.isReference = true) (hw : w.isRef = true) (hd : decode c.code pc = .ok (.areturn, 1)) (hK : cells ≤ K) (hN : slots ≤ N)
    (hQ : ∀ vm, b.WarmedH vm → Q (some w) vm h locs) : Go p e s below K N (Hd Z ms) Q T (mkF m pc Ls (w :: rest)) := by
  obtain ⟨vm, k, rfl, hS, hk⟩ := B
  subst eT
  obtain ⟨fs, hr, hrun, hended, hW⟩ := X.leaveW hS hk (v := some w) (fun q => by rw [hret] at q; cases q) hlk
  have hn : narrow t w = w := by
    cases t <;> first | (cases ht; done) | (cases w <;> first | rfl | (cases hw; done))
  exact ⟨_, _, retOut X hx hret hn (Or.inr (Or.inr (Or.inr (Or.inr ⟨rfl, ht, hw⟩)))) hd hr, hrun, hended, _, _, rfl, hQ _ X.warmed, J.warm X.warmed, rend_mono hW hK hN⟩
theorem Go.retV (X : Stand p l e R b m args below meth c T locs cells slots) (hx : p.tables.exec = Jvm.exec) (hlk : meth.locks = false) (B : Bs s b h) (J : Hd Z ms b.vm h) (eT : T.heap = h) {pc : Nat} {Ls : Array Slot} (hret : meth.sig.returnType = none) (hd : decode c.code pc = .ok (.return_, 1)) (hK : cells ≤ K) (hN : slots ≤ N)
    (hQ : ∀ vm, b.WarmedH vm → Q none vm h locs) : Go p e s below K N (Hd Z ms) Q T (mkF m pc Ls []) := by
  obtain ⟨vm, k, rfl, hS, hk⟩ := B
  subst eT
  obtain ⟨fs, hr, hrun, hended, hW⟩ := X.leaveW hS hk (v := none) (fun _ => rfl) hlk
  exact ⟨_, _, X.returnOut hx hret hd hr, hrun, hended, _, _, rfl, hQ _ X.warmed, J.warm X.warmed, rend_mono hW hK hN⟩
/-- a body's contract in this family -/
def Con (l : Launch) (Z : State) (ms : List Addr) (y : MethodName) (bytes : ByteArray) (maxL : Nat) (ret : Option FieldType) (ws : List Jvm.Cond) (rm : Room) (as' : Array Value) (h : Heap) (Q : Option Value → Vm → Heap → List Loc → Prop) : Prop :=
  MetFree l y (head1 (Jvm.Cond.code y bytes maxL ret :: ws) rm) (fun a U => a = as' ∧ Z.Warmed39 U.vm ∧ U.heap = h ∧ Hd Z ms U.vm U.heap) (fun _ _ _ _ _ => True) (fun _ U o U' => ∃ v L, o = .returned v ∧ Q v U'.vm U'.heap L ∧ Hd Z ms U'.vm U'.heap ∧ ReturnedEndW U o U' L rm.cells rm.slots)
/-- what a walk knows of the body that it walks -/
def Cx (Z : State) (p : Program) (b : State) (m : MethodId) (meth : Method) (c : Code) (own : String) (bytes : ByteArray) (ml : Nat) (nm : String) (rt : Option FieldType) : Prop :=
  p.tables.exec = Jvm.exec ∧ Z.Warmed39 b.vm ∧ b.vm.findClass own = some m.cls ∧ c.code = bytes ∧ c.maxLocals = ml ∧ meth.name = nm ∧ meth.sig.returnType = rt ∧ meth.locks = false
theorem Con.mk {y : MethodName} {bytes : ByteArray} {maxL : Nat} {ret : Option FieldType} {ws : List Jvm.Cond} {rm : Room} {as' : Array Value} (hp : plainFor y = true)
    (body : ∀ p e s m below meth c s₁, Cx Z p s m meth c y.cls bytes maxL y.name ret → Stand p l e rm s m as' below meth c s₁ [] 0 0 → s₁.heap = h → s.heap = h → Hd Z ms s.vm h → Bs s s h → s.methodNamed? y = some m → Go p e s below rm.cells rm.slots (Hd Z ms) Q s₁ (entryFrame m as' maxL)) : Con l Z ms y bytes maxL ret ws rm as' h Q := by
  refine MetFree.of_bodySF hp hisR ?_
  intro p e s m args below meth c s₁ Bd hml0 hP hK
  obtain ⟨rfl, hZ, hh, hJ⟩ := hP
  exact body p e s m below meth c s₁ ⟨Bd.exec, hZ, findClass_of_methodNamed Bd.named, Bd.bytes, hml0, (name_of_methodNamed Bd.named Bd.method).1, Bd.returns, Bd.notSynchronized⟩ (Stand.of_body Bd) (by rw [← hh, Bd.state]; rfl) hh (hh ▸ hJ) (Bs.start s h) Bd.named
section Calls
variable {y : MethodName} {bytes mybytes : ByteArray} {maxL ml : Nat} {ret rt : Option FieldType} {rm : Room} {own nm : String} {index W : Nat} {argsL rest : List Value} {Q' : Option Value → Vm → Heap → List Loc → Prop}
/-- two roads meet again behind calls that leave the heap as it was -/
theorem Go.joinC {Jq : Vm → Heap → Prop} {α : Type} {n : Nat} (Cc : Cx Z p b m meth c own mybytes ml nm rt) (X : Stand p l e R b m args below meth c T locs cells slots) (hJ : Hd Z ms b.vm h) (hN : Fr n locs) (P : α → Prop) (f : α → JFrame)
    (A : ∀ x b' T' locs', Cx Z p b' m meth c own mybytes ml nm rt → Stand p l e R b' m args below meth c T' locs' cells slots → T'.heap = h → Bs s b' h → Hd Z ms b'.vm h → Fr n locs' → P x → Go p e s below K N Jq Q T' (f x))
    (C : (∀ x b' T' locs', Cx Z p b' m meth c own mybytes ml nm rt → Stand p l e R b' m args below meth c T' locs' cells slots → T'.heap = h → Bs s b' h → Hd Z ms b'.vm h → Fr n locs' → P x → Go p e s below K N Jq Q T' (f x)) → Go p e s below K N Jq Q T g) : Go p e s below K N Jq Q T g := C A
/-- what a call leaves: the tables at hand may be others -/
def Called (Z : State) (ms : List Addr) (p : Program) (l : Launch) (e : Env) (R : Room) (s : State) (m : MethodId) (args : Array Value) (below : List Frame) (meth : Method) (c : Code) (own : String) (mybytes : ByteArray) (ml : Nat) (nm : String) (rt : Option FieldType) (locs : List Loc) (cells slots : Nat) (h : Heap) (Q' : Option Value → Vm → Heap → List Loc → Prop) (T : State) (g : JFrame) (len : Nat) (rest : List Value) : Prop :=
  ∃ v b' T' h' L, T'.heap = h' ∧ Cx Z p b' m meth c own mybytes ml nm rt ∧ Stand p l e R b' m args below meth c T' (locs ++ L) cells slots ∧ Bs s b' h' ∧ Hd Z ms b'.vm h' ∧ h.size ≤ h'.size ∧ Q' v b'.vm h' L ∧ ∀ t, Steps p.tables e below (T'.setTop { g with pc := g.pc + len, stack := v.toList ++ rest }) t → Steps p.tables e below (T.setTop g) t
theorem own_back {as' : Array Value} {len : Nat} (hM : Con l Z ms y bytes maxL ret [] rm as' h Q') (hZ : Z.Warmed39 b.vm) (J : Hd Z ms b.vm h) (wc : (Jvm.Cond.code y bytes maxL ret).before a0 Z = true) (wz : (Jvm.Cond.initialized y.cls).before a0 Z = true) (hf : rm.frames + 1 ≤ R.frames) (hl : W + (maxL + 11) + rm.locals ≤ R.locals) :
    BackS l R p e below b args y len W (fun A a => a = as' ∧ A.U.heap = h ∧ A.cells + rm.cells ≤ R.cells ∧ A.slots + rm.slots ≤ R.slots)
      (fun A _ v B => ∃ L, (Q' v B.U.vm B.U.heap L ∧ Hd Z ms B.U.vm B.U.heap) ∧ B.locs = A.locs ++ L ∧ B.cells = A.cells + rm.cells ∧ B.slots = A.slots + rm.slots) :=
  BackS.of_freeW (bytes := bytes) (maxL := maxL) (ret := ret) (E := fun _ _ o t L k n => k = rm.cells ∧ n = rm.slots ∧ ∃ v, o = .returned v ∧ Q' v t.vm t.heap L ∧ Hd Z ms t.vm t.heap) hM hf hl
    (fun m meth c A a Y hp => have hU : Z.Warmed39 A.U.vm := wtrans hZ Y.warmed
      ⟨by show (Jvm.Cond.and _ .tt).before a A.U = true; rw [Cond.before_and, mv hU wc]; rfl, mv hU wc, mv hU wz, hp.2.2.1, hp.2.2.2⟩)
    (fun m meth c A a g mk Y hp => ⟨hp.1, wtrans hZ Y.warmed, hp.2.1, by show Hd Z ms A.U.vm A.U.heap; rw [hp.2.1]; exact J.warm Y.warmed⟩) (fun _ _ _ _ _ _ _ _ _ => trivial)
    (fun _ _ _ _ ⟨v, L, h1, h2, h3, h4⟩ => ⟨L, _, _, h4, rfl, rfl, v, h1, h2, h3⟩)
    (fun m meth c A a g mk v t L k n Y hp _ _ ⟨e1, e2, v', e3, e4, e5⟩ => by cases e3; subst e1 e2; exact ⟨L, ⟨e4, e5⟩, rfl, rfl, rfl⟩)
theorem own_done {len : Nat} {v : Option Value} {B : Pt} (Cc : Cx Z p b m meth c own mybytes ml nm rt) (hB : Bs s b h) (eT : T.heap = h) (X1 : Stand p l e R (b.setVm B.U.vm) m args below meth c B.U B.locs B.cells B.slots) (hS : b.Since B.U.vm B.U.heap.size) (hg : T.heap.size ≤ B.U.heap.size)
    (hq : ∃ L, (Q' v B.U.vm B.U.heap L ∧ Hd Z ms B.U.vm B.U.heap) ∧ B.locs = locs ++ L ∧ B.cells = cells + rm.cells ∧ B.slots = slots + rm.slots) (st : ∀ t, Steps p.tables e below (B.U.setTop { g with pc := g.pc + len, stack := v.toList ++ rest }) t → Steps p.tables e below (T.setTop g) t) :
    Called Z ms p l e R s m args below meth c own mybytes ml nm rt locs (cells + rm.cells) (slots + rm.slots) h Q' T g len rest := by
  obtain ⟨T1, L1, k1, n1⟩ := B
  obtain ⟨Lc, ⟨hQ, hJ⟩, l1, y1, z1⟩ := hq
  dsimp only [Pt.U, Pt.locs, Pt.cells, Pt.slots] at X1 l1 y1 z1 st hQ hJ hS hg
  subst l1 y1 z1
  obtain ⟨vm, k, rfl, hS0, hk⟩ := hB
  obtain ⟨hx, hZ, hown, r⟩ := Cc
  exact ⟨v, (s.setVm vm).setVm T1.vm, T1, _, Lc, rfl, ⟨hx, State.Warmed39.trans hZ hS.1, (hS.1.alike.findClass _ _).trans hown, r⟩, X1, ⟨T1.vm, T1.heap.size, rfl, hS0.trans hS (Nat.le_trans hk (eT ▸ hg)), Nat.le_refl _⟩, hJ, eT ▸ hg, hQ, st⟩
theorem own_callS (Cc : Cx Z p b m meth c own mybytes ml nm rt) (hB : Bs s b h) (J : Hd Z ms b.vm h) (X : Stand p l e R b m args below meth c T locs cells slots)
    (wl : (Jvm.Cond.methodLink own index y).before a0 Z = true) (wst : (Jvm.Cond.static y).before a0 Z = true) (wi : (Jvm.Cond.initialized y.cls).before a0 Z = true) (wc : (Jvm.Cond.code y bytes maxL ret).before a0 Z = true) (hy : y.cls ≠ "java/lang/invoke/MethodHandle" ∧ y.cls ≠ "java/lang/invoke/VarHandle")
    (hM : Con l Z ms y bytes maxL ret [] rm argsL.toArray h Q') (eT : T.heap = h) (hg : g.method = m) (hsize : g.locals.size = c.maxLocals) (hlen : ∀ sig, parseMethodDescriptor y.desc = some sig → argsL.length = sig.parameters.length) (hstack : g.stack = argsL.reverse ++ rest)
    (hW : 2 * g.monitorRoom + (rest.map fun v => v.category).sum ≤ W) (hdg : decode c.code g.pc = .ok (.invokestatic index, 3)) (hf : rm.frames + 1 ≤ R.frames) (hl : W + (maxL + 11) + rm.locals ≤ R.locals) (hc : cells + rm.cells ≤ R.cells) (hs : slots + rm.slots ≤ R.slots) :
    Called Z ms p l e R s m args below meth c own mybytes ml nm rt locs (cells + rm.cells) (slots + rm.slots) h Q' T g 3 rest := by
  obtain ⟨hx, hZ, hown, -⟩ := id Cc
  obtain ⟨v, _, B, -, X1, hS, hgr, hq, st⟩ := callSS X hx (y := y) hown (mvT hZ wl) (mvT hZ wst) (mvT hZ wi) (mvT hZ wc) hy (own_back (W := W) hM hZ J wc wi hf hl) hg hsize (argsL := argsL) (rest := rest) hlen hstack hW hdg (fun _ _ => ⟨rfl, eT, hc, hs⟩)
  exact own_done Cc hB eT X1 hS hgr hq (fun _ hr => st.trans hr)
theorem own_callI (Cc : Cx Z p b m meth c own mybytes ml nm rt) (hB : Bs s b h) (J : Hd Z ms b.vm h) (X : Stand p l e R b m args below meth c T locs cells slots) (hin : y.name = "<init>")
    (wl : (Jvm.Cond.methodLink own index y).before a0 Z = true) (wim : (Jvm.Cond.instanceMethod y).before a0 Z = true) (wi : (Jvm.Cond.initialized y.cls).before a0 Z = true) (wc : (Jvm.Cond.code y bytes maxL none).before a0 Z = true) (hy : y.cls ≠ "java/lang/invoke/MethodHandle" ∧ y.cls ≠ "java/lang/invoke/VarHandle")
    {a : Addr} (hM : Con l Z ms y bytes maxL none [] rm (Value.ref a :: argsL).toArray h Q') (eT : T.heap = h) (hg : g.method = m) (hsize : g.locals.size = c.maxLocals) (hlen : ∀ sig, parseMethodDescriptor y.desc = some sig → argsL.length = sig.parameters.length) (hstack : g.stack = argsL.reverse ++ .ref a :: rest)
    (hW : 2 * g.monitorRoom + (rest.map fun v => v.category).sum ≤ W) (hdg : decode c.code g.pc = .ok (.invokespecial index, 3)) (hf : rm.frames + 1 ≤ R.frames) (hl : W + (maxL + 11) + rm.locals ≤ R.locals) (hc : cells + rm.cells ≤ R.cells) (hs : slots + rm.slots ≤ R.slots) :
    Called Z ms p l e R s m args below meth c own mybytes ml nm rt locs (cells + rm.cells) (slots + rm.slots) h Q' T g 3 rest := by
  obtain ⟨hx, hZ, hown, -⟩ := id Cc
  obtain ⟨v, _, B, -, X1, hS, hgr, hq, st⟩ := X.specialBackS hx (y := y) hin hown (mvT hZ wl) (mvT hZ wim) (mvT hZ wc) hy (own_back (W := W) hM hZ J wc wi hf hl) hg hsize (Steps.refl _) (a := a) (argsL := argsL) (rest := rest) hlen hstack hW hdg (fun _ _ => ⟨rfl, eT, hc, hs⟩)
  exact own_done Cc hB eT X1 hS hgr hq (fun _ hr => st.trans hr)
theorem own_callV (Cc : Cx Z p b m meth c own mybytes ml nm rt) (hB : Bs s b h) (J : Hd Z ms b.vm h) (X : Stand p l e R b m args below meth c T locs cells slots) {z : MethodName} {C : String}
    (wl : (Jvm.Cond.methodLink own index y).before a0 Z = true) (wd : (Jvm.Cond.declares y).before a0 Z = true) (nf : NotFace b y) (wsel : (Jvm.Cond.selects C y z).before a0 Z = true) (wim : (Jvm.Cond.instanceMethod z).before a0 Z = true) (wi : (Jvm.Cond.initialized z.cls).before a0 Z = true) (wc : (Jvm.Cond.code z bytes maxL ret).before a0 Z = true) (hy : y.cls ≠ "java/lang/invoke/MethodHandle" ∧ y.cls ≠ "java/lang/invoke/VarHandle")
    {a : Addr} (E : Exa Z h a C) (hM : Con l Z ms z bytes maxL ret [] rm (Value.ref a :: argsL).toArray h Q') (eT : T.heap = h) (hg : g.method = m) (hsize : g.locals.size = c.maxLocals) (hlen : ∀ sig, parseMethodDescriptor y.desc = some sig → argsL.length = sig.parameters.length) (hstack : g.stack = argsL.reverse ++ .ref a :: rest)
    (hW : 2 * g.monitorRoom + (rest.map fun v => v.category).sum ≤ W) (hdg : decode c.code g.pc = .ok (.invokevirtual index, 3)) (hf : rm.frames + 1 ≤ R.frames) (hl : W + (maxL + 11) + rm.locals ≤ R.locals) (hc : cells + rm.cells ≤ R.cells) (hs : slots + rm.slots ≤ R.slots) :
    Called Z ms p l e R s m args below meth c own mybytes ml nm rt locs (cells + rm.cells) (slots + rm.slots) h Q' T g 3 rest := by
  obtain ⟨hx, hZ, hown, -⟩ := id Cc
  obtain ⟨cq, kq, qa, qb, qc⟩ := isOf hZ eT E
  obtain ⟨v, _, B, -, X1, hS, hgr, hq, st⟩ := X.virtualBackS hx (y := y) (z := z) hown (mvT hZ wl) (mvT hZ wd) nf (mvT hZ wsel) (mvT hZ wim) hy (own_back (W := W) hM hZ J wc wi hf hl) qa qc hg hsize (Steps.refl _) (argsL := argsL) (rest := rest) hlen hstack hW hdg (fun _ _ => ⟨rfl, eT, hc, hs⟩)
  exact own_done Cc hB eT X1 hS hgr hq (fun _ hr => st.trans hr)
/-- an inherited method, by the class that the entry names -/
theorem own_callU (Cc : Cx Z p b m meth c own mybytes ml nm rt) (hB : Bs s b h) (J : Hd Z ms b.vm h) (X : Stand p l e R b m args below meth c T locs cells slots) {z : MethodName} {C owner : String}
    (wl : (Jvm.Cond.methodLink own index y).before a0 Z = true) (wsm : (Jvm.Cond.sameMethod y.cls owner y.name y.desc).before a0 Z = true) (wd : (Jvm.Cond.declares ⟨owner, y.name, y.desc⟩).before a0 Z = true) (wsel : (Jvm.Cond.selects C y z).before a0 Z = true) (wim : (Jvm.Cond.instanceMethod z).before a0 Z = true) (wi : (Jvm.Cond.initialized z.cls).before a0 Z = true) (wc : (Jvm.Cond.code z bytes maxL ret).before a0 Z = true) (ho : owner ≠ "java/lang/invoke/MethodHandle" ∧ owner ≠ "java/lang/invoke/VarHandle")
    {a : Addr} (E : Exa Z h a C) (hM : Con l Z ms z bytes maxL ret [] rm (Value.ref a :: argsL).toArray h Q') (eT : T.heap = h) (hg : g.method = m) (hsize : g.locals.size = c.maxLocals) (hlen : ∀ sig, parseMethodDescriptor y.desc = some sig → argsL.length = sig.parameters.length) (hstack : g.stack = argsL.reverse ++ .ref a :: rest)
    (hW : 2 * g.monitorRoom + (rest.map fun v => v.category).sum ≤ W) (hdg : decode c.code g.pc = .ok (.invokevirtual index, 3)) (hf : rm.frames + 1 ≤ R.frames) (hl : W + (maxL + 11) + rm.locals ≤ R.locals) (hc : cells + rm.cells ≤ R.cells) (hs : slots + rm.slots ≤ R.slots) :
    Called Z ms p l e R s m args below meth c own mybytes ml nm rt locs (cells + rm.cells) (slots + rm.slots) h Q' T g 3 rest := by
  obtain ⟨hx, hZ, hown, -⟩ := id Cc
  obtain ⟨cq, kq, qa, qb, qc⟩ := isOf hZ eT E
  obtain ⟨v, _, B, -, X1, hS, hgr, hq, st⟩ := X.virtualBackUpS hx (x := y) (y := z) hown (mvT hZ wl) (mvT hZ wsm) (mvT hZ wd) ho (mvT hZ wsel) (mvT hZ wim) (own_back (W := W) hM hZ J wc wi hf hl) qa qc hg hsize (Steps.refl _) (argsL := argsL) (rest := rest) hlen hstack hW hdg (fun _ _ => ⟨rfl, eT, hc, hs⟩)
  exact own_done Cc hB eT X1 hS hgr hq (fun _ hr => st.trans hr)
/-- through an interface -/
theorem own_callF (Cc : Cx Z p b m meth c own mybytes ml nm rt) (hB : Bs s b h) (J : Hd Z ms b.vm h) (X : Stand p l e R b m args below meth c T locs cells slots) {z : MethodName} {C : String} {count : Nat}
    (wl : (Jvm.Cond.methodLink own index y).before a0 Z = true) (wd : (Jvm.Cond.declares y).before a0 Z = true) (wfc : (Jvm.Cond.interfaceMethod y.cls y.cls y.name y.desc).before a0 Z = true) (hfc : ((Jvm.Cond.interfaceMethod y.cls y.cls y.name y.desc).onTables && (Jvm.Cond.interfaceMethod y.cls y.cls y.name y.desc).keepsFace) = true) (wsel : (Jvm.Cond.selects C y z).before a0 Z = true) (wim : (Jvm.Cond.instanceMethod z).before a0 Z = true) (wpb : (Jvm.Cond.publicMethod z).before a0 Z = true) (wun : (Jvm.Cond.unhidden C y.name y.desc).before a0 Z = true) (wca : (Jvm.Cond.castable C y.cls).before a0 Z = true)
    (wi : (Jvm.Cond.initialized z.cls).before a0 Z = true) (wc : (Jvm.Cond.code z bytes maxL ret).before a0 Z = true) (hy : y.cls ≠ "java/lang/invoke/MethodHandle" ∧ y.cls ≠ "java/lang/invoke/VarHandle")
    {a : Addr} (E : Exa Z h a C) (hM : Con l Z ms z bytes maxL ret [] rm (Value.ref a :: argsL).toArray h Q') (eT : T.heap = h) (hg : g.method = m) (hsize : g.locals.size = c.maxLocals) (hlen : ∀ sig, parseMethodDescriptor y.desc = some sig → argsL.length = sig.parameters.length) (hstack : g.stack = argsL.reverse ++ .ref a :: rest)
    (hW : 2 * g.monitorRoom + (rest.map fun v => v.category).sum ≤ W) (hdg : decode c.code g.pc = .ok (.invokeinterface index count, 5)) (hf : rm.frames + 1 ≤ R.frames) (hl : W + (maxL + 11) + rm.locals ≤ R.locals) (hc : cells + rm.cells ≤ R.cells) (hs : slots + rm.slots ≤ R.slots) :
    Called Z ms p l e R s m args below meth c own mybytes ml nm rt locs (cells + rm.cells) (slots + rm.slots) h Q' T g 5 rest := by
  obtain ⟨hx, hZ, hown, -⟩ := id Cc
  obtain ⟨cq, kq, qa, qb, qc⟩ := isOf hZ eT E
  obtain ⟨v, _, B, -, X1, hS, hgr, hq, st⟩ := X.interfaceBackS hx (xi := y) (y := z) hown (mvT hZ wl) (mvT hZ wd) (mvT hZ wfc hfc) (mvT hZ wsel) (mvT hZ wim) (mvT hZ wpb) (mvT hZ wun) (mvT hZ wca) hy (own_back (W := W) hM hZ J wc wi hf hl) qa qb qc hg hsize (Steps.refl _) (argsL := argsL) (rest := rest) hlen hstack hW hdg (fun _ _ => ⟨rfl, eT, hc, hs⟩)
  exact own_done Cc hB eT X1 hS hgr hq (fun _ hr => st.trans hr)
/-- super.m() -/
theorem own_callP (Cc : Cx Z p b m meth c own mybytes ml nm rt) (hB : Bs s b h) (J : Hd Z ms b.vm h) (X : Stand p l e R b m args below meth c T locs cells slots) {C : String}
    (wl : (Jvm.Cond.methodLink own index y).before a0 Z = true) (wsm : (Jvm.Cond.sameMethod y.cls y.cls y.name y.desc).before a0 Z = true) (wim : (Jvm.Cond.instanceMethod y).before a0 Z = true) (wsu : (Jvm.Cond.superclass own y.cls).before a0 Z = true) (hn : y.name ≠ "<init>") (wi : (Jvm.Cond.initialized y.cls).before a0 Z = true) (wc : (Jvm.Cond.code y bytes maxL ret).before a0 Z = true)
    {a : Addr} (E : Exa Z h a C) (hM : Con l Z ms y bytes maxL ret [] rm (Value.ref a :: argsL).toArray h Q') (eT : T.heap = h) (hg : g.method = m) (hsize : g.locals.size = c.maxLocals) (hlen : ∀ sig, parseMethodDescriptor y.desc = some sig → argsL.length = sig.parameters.length) (hstack : g.stack = argsL.reverse ++ .ref a :: rest)
    (hW : 2 * g.monitorRoom + (rest.map fun v => v.category).sum ≤ W) (hdg : decode c.code g.pc = .ok (.invokespecial index, 3)) (hf : rm.frames + 1 ≤ R.frames) (hl : W + (maxL + 11) + rm.locals ≤ R.locals) (hc : cells + rm.cells ≤ R.cells) (hs : slots + rm.slots ≤ R.slots) :
    Called Z ms p l e R s m args below meth c own mybytes ml nm rt locs (cells + rm.cells) (slots + rm.slots) h Q' T g 3 rest := by
  obtain ⟨hx, hZ, hown, -⟩ := id Cc
  obtain ⟨v, _, B, -, X1, hS, hgr, hq, st⟩ := superBackS X hx hZ (y := y) hown wl wsm wim wsu hn (own_back (W := W) hM hZ J wc wi hf hl) eT (Ins.self E) hg hsize wc (argsL := argsL) (rest := rest) hlen hstack hW hdg (fun _ _ => ⟨rfl, eT, hc, hs⟩)
  exact own_done Cc hB eT X1 hS hgr hq (fun _ hr => st.trans hr)
/-- a private method -/
theorem own_callR (Cc : Cx Z p b m meth c own mybytes ml nm rt) (hB : Bs s b h) (J : Hd Z ms b.vm h) (X : Stand p l e R b m args below meth c T locs cells slots) {C : String}
    (wl : (Jvm.Cond.methodLink own index y).before a0 Z = true) (wim : (Jvm.Cond.instanceMethod y).before a0 Z = true) (wsel : (Jvm.Cond.selects y.cls y y).before a0 Z = true) (wpr : (Jvm.Cond.privateMethod y).before a0 Z = true) (wi : (Jvm.Cond.initialized y.cls).before a0 Z = true) (wc : (Jvm.Cond.code y bytes maxL ret).before a0 Z = true) (hy : y.cls ≠ "java/lang/invoke/MethodHandle" ∧ y.cls ≠ "java/lang/invoke/VarHandle")
    {a : Addr} (E : Exa Z h a C) (hM : Con l Z ms y bytes maxL ret [] rm (Value.ref a :: argsL).toArray h Q') (eT : T.heap = h) (hg : g.method = m) (hsize : g.locals.size = c.maxLocals) (hlen : ∀ sig, parseMethodDescriptor y.desc = some sig → argsL.length = sig.parameters.length) (hstack : g.stack = argsL.reverse ++ .ref a :: rest)
    (hW : 2 * g.monitorRoom + (rest.map fun v => v.category).sum ≤ W) (hdg : decode c.code g.pc = .ok (.invokevirtual index, 3)) (hf : rm.frames + 1 ≤ R.frames) (hl : W + (maxL + 11) + rm.locals ≤ R.locals) (hc : cells + rm.cells ≤ R.cells) (hs : slots + rm.slots ≤ R.slots) :
    Called Z ms p l e R s m args below meth c own mybytes ml nm rt locs (cells + rm.cells) (slots + rm.slots) h Q' T g 3 rest := by
  obtain ⟨hx, hZ, hown, -⟩ := id Cc
  obtain ⟨cl, q1, q2⟩ := E.cell
  obtain ⟨v, _, B, -, X1, hS, hgr, hq, st⟩ := X.privateBackS hx (y := y) hown (mvT hZ wl) (mvT hZ wim) (mvT hZ wsel) (Cond.privateMethod_at (mvP hZ wpr (args := #[]))) (mvT hZ wc) hy (own_back (W := W) hM hZ J wc wi hf hl) hg hsize (Steps.refl _) (a := a) (by rw [eT]; exact q1) q2 (argsL := argsL) (rest := rest) hlen hstack hW hdg (fun _ _ => ⟨rfl, eT, hc, hs⟩)
  exact own_done Cc hB eT X1 hS hgr hq (fun _ hr => st.trans hr)
/-- a nest-mate's constructor -/
theorem own_callN (Cc : Cx Z p b m meth c own mybytes ml nm rt) (hB : Bs s b h) (J : Hd Z ms b.vm h) (X : Stand p l e R b m args below meth c T locs cells slots) (hin : y.name = "<init>") {host : String}
    (wl : (Jvm.Cond.methodLinkNest own index y host).before a0 Z = true) (wim : (Jvm.Cond.instanceMethod y).before a0 Z = true) (wi : (Jvm.Cond.initialized y.cls).before a0 Z = true) (wc : (Jvm.Cond.code y bytes maxL none).before a0 Z = true) (hy : y.cls ≠ "java/lang/invoke/MethodHandle" ∧ y.cls ≠ "java/lang/invoke/VarHandle")
    {a : Addr} (hM : Con l Z ms y bytes maxL none [] rm (Value.ref a :: argsL).toArray h Q') (eT : T.heap = h) (hg : g.method = m) (hsize : g.locals.size = c.maxLocals) (hlen : ∀ sig, parseMethodDescriptor y.desc = some sig → argsL.length = sig.parameters.length) (hstack : g.stack = argsL.reverse ++ .ref a :: rest)
    (hW : 2 * g.monitorRoom + (rest.map fun v => v.category).sum ≤ W) (hdg : decode c.code g.pc = .ok (.invokespecial index, 3)) (hf : rm.frames + 1 ≤ R.frames) (hl : W + (maxL + 11) + rm.locals ≤ R.locals) (hc : cells + rm.cells ≤ R.cells) (hs : slots + rm.slots ≤ R.slots) :
    Called Z ms p l e R s m args below meth c own mybytes ml nm rt locs (cells + rm.cells) (slots + rm.slots) h Q' T g 3 rest := by
  obtain ⟨hx, hZ, hown, -⟩ := id Cc
  have wl' : (Jvm.Cond.methodLinkNest own index y host).before args b = true := (Cond.methodLinkNest_wide hZ wl :)
  obtain ⟨v, _, B, -, X1, hS, hgr, hq, st⟩ := X.specialBackNestS hx (y := y) hin hown wl' (mvT hZ wim) (mvT hZ wc) hy (own_back (W := W) hM hZ J wc wi hf hl) hg hsize (Steps.refl _) (a := a) (argsL := argsL) (rest := rest) hlen hstack hW hdg (fun _ _ => ⟨rfl, eT, hc, hs⟩)
  exact own_done Cc hB eT X1 hS hgr hq (fun _ hr => st.trans hr)
end Calls
theorem own_nf {s : State} {args : Array Value} {C : String} {y z : MethodName} (hsel : (Jvm.Cond.selects C z z).before args s = true) (hc : z.cls = y.cls) : NotFace s y := fun r0 h0 => by
  obtain ⟨c2, r2, m2, -, -, q3, -⟩ := Cond.selects_spec hsel
  obtain ⟨kr, k1, k2⟩ := notFace_of_selects hsel m2 q3
  have a := findClass_of_methodNamed h0
  have b := findClass_of_methodNamed q3
  rw [hc] at b
  have e : r0.cls = m2.cls := Option.some.inj (a.symm.trans b)
  exact ⟨kr, by rw [e]; exact k1, k2⟩
theorem own_sm {y : MethodName} (wim : (Jvm.Cond.instanceMethod y).before a0 Z = true) (nf : NotFace Z y) (hy : y.cls ≠ "java/lang/invoke/MethodHandle" ∧ y.cls ≠ "java/lang/invoke/VarHandle") : (Jvm.Cond.sameMethod y.cls y.cls y.name y.desc).before a0 Z = true := by
  obtain ⟨mk, methM, hnamed, -⟩ := Cond.instanceMethod_spec wim
  obtain ⟨kr, k1, k2⟩ := nf _ hnamed
  have hf := State.methodFound?_of_named hnamed hy
  have hc := findClass_of_methodNamed hnamed
  have hn' : Z.methodNamed? ⟨y.cls, y.name, y.desc⟩ = some mk := hnamed
  simp [Cond.before, Cond.holds, Cond.value, hc, hf, hn', k1, k2]
theorem own_decl {y : MethodName} {bytes : ByteArray} {maxL : Nat} {ret : Option FieldType} (wim : (Jvm.Cond.instanceMethod y).before a0 Z = true) (wc : (Jvm.Cond.code y bytes maxL ret).before a0 Z = true) : (Jvm.Cond.declares y).before a0 Z = true := by
  obtain ⟨mk, methM, hnamed, hmethM, hst, -⟩ := Cond.instanceMethod_spec wim
  obtain ⟨m2, cM, q1, -, -, -, -, -, -, hsig⟩ := Cond.code_spec hnamed wc
  cases hmethM.symm.trans q1
  simp [Cond.before, Cond.holds, Cond.value, hnamed, hmethM, hst, hsig]
theorem keep_ext (q : Keep h h' []) : Ext h h' := ⟨q.1, fun a c r => q.2.1 a c r (fun z => nomatch z)⟩
theorem ext_keep (q : Ext h h') : Keep h h' [] := (Keep.refl h []).ext q
theorem own_ole {n0 : Nat} (O : Old Z n0 h) : n0 ≤ h.size := O.1 ▸ O.2.1
/-- an equation of the case's words -/
theorem own_eqI {t : Term} {n : Int32} (q : (Jvm.Cond.eq t (.int n)).value args s none s [] = some true) : t.eval args s none [] s = some (.int n) := by
  cases ha : t.eval args s none [] s with
  | none => simp [Cond.value, ha] at q
  | some x => cases x <;> simp [Cond.value, Term.eval, ha] at q ⊢; exact q
theorem own_sub1 {z : Addr} {ms L : List Addr} (q : z ∈ L) (r : ∀ x ∈ ms, x ∈ L) : ∀ x ∈ z :: ms, x ∈ L := fun x hx => (List.mem_cons.mp hx).elim (fun e => by rw [e]; exact q) (r x)
end OwnKit

section OwnLdc
variable {p : Program} {l : Launch} {e : Env} {R : Room} {s b : State} {m : MethodId} {args : Array Value} {below : List Frame} {meth : Method} {c : Code} {T : State} {locs : List Loc} {cells slots : Nat} {Z : State} {a0 : Array Value} {h : Heap} {ms : List Addr} {own nm text : String} {mybytes : ByteArray} {ml index n : Nat} {rt : Option FieldType} {g : JFrame}
/-- a constant that is booked at T', and whose address is older than this load, was held at the start -/
theorem own_heldZ {T' : State} {vm0 : Vm} {Ts : List String} {a : Addr} (hW : Z.Warmed39 T'.vm) (w : (Jvm.Cond.stringLink own index text).before a0 Z = true) (I : IB Z vm0 Ts) (hnot : text ∉ Ts) (lit : Lit T' own index a) (hHZ : ConstHeldL Z own index) {cO : ClassId} (hcO : Z.vm.findClass own = some cO)
    (hint : T'.vm.interned = vm0.interned ∨ ∃ (u : Array UInt16) (a' : Addr), T'.vm.interned = vm0.interned.push (u, a') ∧ a ≠ a') : ∃ units, SlOf Z a units := by
  obtain ⟨k, cf, i, units, hk, hcf, hp, hu, hnm, htext, -⟩ := Cond.stringLink_spec hcO w
  obtain ⟨k', hk', hke, -, ee, -⟩ := hW.2.2.2 cO k hk
  have hl : k'.resolved[index]? = some (some (.string a)) := by
    have q : T'.resolvedAt? own index = some (.string a) := lit
    have f : T'.vm.findClass own = some cO := by rw [hW.alike.findClass]; exact hcO
    simp only [State.resolvedAt?, f, hk', Option.bind_eq_bind, Option.bind_some] at q
    cases hr : k'.resolved[index]? with
    | none => simp [hr] at q
    | some y => cases y <;> simp [hr] at q; rw [q]
  have hfind : vm0.interned.find? (fun p => p.1 == units) = some (units, a) → Z.vm.interned.find? (fun p => p.1 == units) = some (units, a) := fun hf => by
    obtain ⟨more, e, hm⟩ := I
    rw [e, Array.find?_append] at hf
    cases hs : Z.vm.interned.find? (fun p => p.1 == units) with
    | some pr => rw [hs] at hf; simpa using hf
    | none =>
      rw [hs, Option.none_or] at hf
      obtain ⟨t, ht, hd⟩ := hm _ (Array.mem_of_find?_eq_some hf)
      cases htext.symm.trans hd
      exact absurd ht hnot
  rcases ee index with e0 | ⟨hop, r, e1, hr | ⟨a3, t, si, us, rfl, -, q3, q4, q5⟩⟩
  · exact ⟨units, hHZ cO k cf i units a hcO hk hcf hp hu (Or.inl (e0 ▸ hl))⟩
  · exfalso
    cases r <;> simp [State.rightAt, hk, hcf, hnm] at hr
  · rw [hcf] at q3 q4
    obtain rfl : si = i := by have := q3.symm.trans hp; simpa using this
    obtain rfl : us = units := by simpa [ConstantPool.utf8?, hu] using q4.symm
    obtain rfl : a3 = a := by have := e1.symm.trans hl; simpa using this
    refine ⟨us, hHZ cO k cf si us a3 hcO hk hcf hp hu (Or.inr ⟨hop, hfind ?_⟩)⟩
    rcases hint with q | ⟨u, a', q, hne⟩
    · rw [← q]; exact q5
    · rw [q, Array.find?_push] at q5
      cases hs : vm0.interned.find? (fun p => p.1 == us) with
      | some pr => rw [hs] at q5; simpa using q5
      | none =>
        rw [hs, Option.none_or] at q5
        split at q5
        · cases q5; exact absurd rfl hne
        · cases q5
theorem own_ldcV (Cc : Cx Z p b m meth c own mybytes ml nm rt) (hB : Bs s b h) (J : Hd Z ms b.vm h) (X : Stand p l e R b m args below meth c T locs cells slots) (hC : (own, index, text) ∈ litCs) (hD : ∀ q ∈ litCs, q.2.2 = text → q = (own, index, text))
    (w : (Jvm.Cond.stringLink own index text).before a0 Z = true) (wS : ∀ a ∈ Bundle.stringAtoms, a.before a0 Z = true) (hl : ∀ c ∈ text.toList, c.toNat < 256) (hsz : text.toList.length < 2147483648) (N : Fr s.heap.size locs) (hks : Ext Z.heap s.heap)
    (eT : T.heap = h) (hg : g.method = m) (hd : decode c.code g.pc = .ok (.ldc index, 2)) (hn : 4 * text.toList.length ≤ n) (hbig : n ≤ 536870912) (hc : cells + 2 ≤ R.cells) (hl' : slots + (n + 4) ≤ R.slots) :
    ∃ (a t : Addr) (k : ClassId) (b' T' : State) (h' : Heap), T'.heap = h' ∧ Cx Z p b' m meth c own mybytes ml nm rt ∧ Stand p l e R b' m args below meth c T' locs (cells + 2) (slots + (n + 4)) ∧ Bs s b' h' ∧ Hd Z ms b'.vm h' ∧ Ext h h' ∧ Says Z h' a t k text ∧ a ∉ ms ∧ t ∉ ms ∧ Lit b' own index a ∧ ∀ u, Steps p.tables e below (T'.setTop { g with pc := g.pc + 2, stack := .ref a :: g.stack }) u → Steps p.tables e below (T.setTop g) u := by
  obtain ⟨vm0, k0, rfl, hS, hk⟩ := hB
  obtain ⟨hx, hZ, hown, r⟩ := Cc
  obtain ⟨A, E, M, Ts, I, L⟩ := id J
  have hH : Jvm.Lit.constHeld Z own index := A.1 _ hC
  have hcw := A.2 a0
  rcases L _ hC with hnot | ⟨a, t, k, lit, says, n1, n2⟩
  · have wi : (Jvm.Cond.instantiable "java/lang/String" 4).before a0 Z = true := wS _ (by simp [Bundle.stringAtoms, Bundle.sN])
    have wa : (Jvm.Cond.arrayClass .byte).before a0 Z = true := wS _ (by simp [Bundle.stringAtoms])
    have hHZ : ConstHeldL Z own index := heldStart hH w hl hcw wa wi
    obtain ⟨a, T', X', hS', ⟨kk, hkk, hrr⟩, hb, hI1, hint, ⟨units, htext, hin⟩, st⟩ := X.ldcColdF (oldF X N) hx (own := own) hown (mvS hZ w) (fun d hd => by
      have q := wS d hd
      simp only [Bundle.stringAtoms, List.mem_cons, List.not_mem_nil, or_false] at hd
      rcases hd with rfl | rfl | rfl | rfl | rfl | rfl | rfl
      · exact mv (s := s.setVm vm0) hZ q
      · exact mv (s := s.setVm vm0) hZ q
      · exact mvA (s := s.setVm vm0) hZ q
      · exact mv (s := s.setVm vm0) hZ q
      · exact mv (s := s.setVm vm0) hZ q
      · exact mv (s := s.setVm vm0) hZ q
      · exact mv (s := s.setVm vm0) hZ q) (heldCarry hZ w I hnot hks.2 hHZ) (fun u hu => Jvm.ClassFile.lat_of_text hu hl) hg hd hn hbig hc hl'
    subst eT
    have E' := ext_of hb
    have hW : Z.Warmed39 T'.vm := State.Warmed39.trans (t := s.setVm vm0) hZ hS'.1
    have hTi : T.vm.interned = vm0.interned := X.warmed.interned_eq
    obtain ⟨t, k, says, hloc⟩ := slin_says hW.alike hin htext hl hsz
    have hf : T'.vm.findClass own = some m.cls := by rw [hS'.1.alike.findClass]; exact hown
    have lit : Lit (s.setVm T'.vm) own index a := by simp [Lit, State.resolvedAt?, hf, hkk, hrr]
    have EZ : Ext Z.heap T'.heap := ⟨Nat.le_trans E.1 E'.1, fun a c q => E'.2 a c (E.2 a c q)⟩
    have hap : (a < Z.heap.size ∧ t < Z.heap.size) ∨ (T.heap.size ≤ a ∧ T.heap.size ≤ t) := by
      rcases hloc with ⟨l1, l2⟩ | q
      · left
        have hcO : Z.vm.findClass own = some m.cls := by rw [← hW.alike.findClass]; exact hf
        have hsT : s.heap.size ≤ T.heap.size := X.same.2.1
        obtain ⟨us, q, cS, rfl, ⟨⟨s1, -, -, ⟨cv, kv, iv, s4, -⟩, -, -, -, s8, -, s10, -⟩, -⟩, -⟩ := own_heldZ (T' := T') hW w I hnot lit hHZ hcO (by
          rcases hI1.2 with q | ⟨u, a', q, q2, -⟩
          · exact Or.inl (q.trans hTi)
          · exact Or.inr ⟨u, a', by rw [q, hTi]; rfl, fun z => absurd l1 (Nat.not_lt.mpr (by rw [z]; exact Nat.le_trans hsT q2))⟩)
        obtain ⟨cell, cf, kf, i, f, f1, f2, -, -, -, -, f7⟩ := says.2.2.1
        cases (EZ.2 _ _ s1).symm.trans f1
        cases s4.symm.trans f2
        cases s8.symm.trans f7
        exact ⟨(Array.getElem?_eq_some_iff.mp s1).1, (Array.getElem?_eq_some_iff.mp s10).1⟩
      · exact Or.inr q
    have n1 : a ∉ ms := fun z => by
      obtain ⟨m1, m2⟩ := M a z
      rcases hap with ⟨h1, -⟩ | ⟨h1, -⟩
      · exact absurd h1 (Nat.not_lt.mpr m1)
      · exact absurd m2 (Nat.not_lt.mpr h1)
    have n2 : t ∉ ms := fun z => by
      obtain ⟨m1, m2⟩ := M t z
      rcases hap with ⟨-, h1⟩ | ⟨-, h1⟩
      · exact absurd h1 (Nat.not_lt.mpr m1)
      · exact absurd m2 (Nat.not_lt.mpr h1)
    refine ⟨a, t, k, s.setVm T'.vm, T', _, rfl, ⟨hx, hW, hf, r⟩, X', ⟨T'.vm, T'.heap.size, rfl, hS.trans hS' (Nat.le_trans hk E'.1), Nat.le_refl _⟩, ⟨A, EZ, fun y hy => ⟨(M y hy).1, Nat.lt_of_lt_of_le (M y hy).2 E'.1⟩, text :: Ts, I.step (by have q := hint; rw [hTi] at q; exact q), fun q hq => ?_⟩, E', says, n1, n2, lit, st⟩
    by_cases hqt : q.2.2 = text
    · obtain rfl := hD q hq hqt
      exact Or.inr ⟨a, t, k, lit, says, n1, n2⟩
    · rcases L q hq with h1 | ⟨a2, t2, k2, l2, s2, r2⟩
      · exact Or.inl (fun z => (List.mem_cons.mp z).elim hqt h1)
      · exact Or.inr ⟨a2, t2, k2, Lit.stays (s := s) (vm0 := vm0) l2 hS'.1, s2.ext E', r2⟩
  · exact ⟨a, t, k, s.setVm vm0, T, h, eT, ⟨hx, hZ, hown, r⟩, X.mono (by omega) (by omega), ⟨vm0, k0, rfl, hS, hk⟩, J, ⟨Nat.le_refl _, fun _ _ q => q⟩, says, n1, n2, lit, ldcAgain X hx hZ hown w lit hg hd⟩
/-- a second load in one walk -/
theorem own_ldcA {a : Addr} (Cc : Cx Z p b m meth c own mybytes ml nm rt) (X : Stand p l e R b m args below meth c T locs cells slots) (hB : Bs s b h) (w : (Jvm.Cond.stringLink own index text).before a0 Z = true) (lit : Lit b own index a) (hg : g.method = m) (hd : decode c.code g.pc = .ok (.ldc index, 2)) :
    ∀ u, Steps p.tables e below (T.setTop { g with pc := g.pc + 2, stack := .ref a :: g.stack }) u → Steps p.tables e below (T.setTop g) u := by
  obtain ⟨vm0, k0, rfl, hS, hk⟩ := hB
  exact ldcAgain X Cc.1 Cc.2.1 Cc.2.2.1 w lit hg hd
end OwnLdc

section OwnStr
abbrev lo8 (x : Int32) : Int32 := x.toInt8.toInt32
theorem oi_toInt {i : Nat} (h : i < 2147483648) : (Int32.ofNat i).toInt = i := Int32.toInt_ofNat_small h
theorem oi_nn {i : Nat} (h : i < 2147483648) : ¬ Int32.ofNat i < 0 := by
  rw [Int32.lt_iff_toInt_lt, oi_toInt h, Int32.toInt_zero]; omega
theorem oi_nat {i : Nat} (h : i < 2147483648) : (Int32.ofNat i).toNatClampNeg = i := by
  have q := nat_of (oi_nn h)
  rw [oi_toInt h] at q; omega
theorem oi_lt {i n : Nat} (hi : i < 2147483648) (hn : n < 2147483648) (q : i < n) : Int32.ofNat i < Int32.ofNat n := by
  rw [Int32.lt_iff_toInt_lt, oi_toInt hi, oi_toInt hn]; omega
theorem oi_nlt {i n : Nat} (hi : i < 2147483648) (hn : n < 2147483648) (q : ¬ i < n) : ¬ Int32.ofNat i < Int32.ofNat n := by
  rw [Int32.lt_iff_toInt_lt, oi_toInt hi, oi_toInt hn]; omega
theorem oi_succ {i : Nat} (h : i + 1 < 2147483648) : Int32.ofNat i + (1 : Int32) = Int32.ofNat (i + 1) := by
  have q := c_iadd (Int32.ofNat i) 1
  have r := rng32 (Int32.ofNat i + 1)
  rw [oi_toInt (by omega), show (1 : Int32).toInt = 1 from rfl] at q
  apply Int32.toInt_inj.mp
  rw [oi_toInt h]; omega
theorem nar_b (x : Int32) : nar .byte (lo8 x) = lo8 x := by
  have a := c_i2b x
  have b := c_i2b (x.toInt8.toInt32)
  apply Int32.toInt_inj.mp
  show (x.toInt8.toInt32.toInt8.toInt32).toInt = x.toInt8.toInt32.toInt
  omega
theorem fits_b (x : Int32) : fits .byte (.int (lo8 x)) = true := fits_nar_byte x
theorem c_rng {x : Int32} (h0 : ¬ x < 0) (h1 : ¬ 65535 < x) : 0 ≤ x.toInt ∧ x.toInt ≤ 65535 := by
  rw [Int32.lt_iff_toInt_lt] at h0 h1
  exact ⟨by simpa using h0, by simpa using h1⟩
theorem nar_c {x : Int32} (h0 : ¬ x < 0) (h1 : ¬ 65535 < x) : nar .char x = x := by
  have a := c_rng h0 h1
  have b := c_i2c x
  apply Int32.toInt_inj.mp
  show (x.toUInt32.toUInt16.toUInt32.toInt32).toInt = x.toInt
  omega
theorem fits_c {x : Int32} (h0 : ¬ x < 0) (h1 : ¬ 65535 < x) : fits .char (.int x) = true := by
  have q := fits_nar_char x
  rwa [nar_c h0 h1] at q
theorem le255 {x : Int32} (h1 : ¬ 255 < x) : ¬ 65535 < x := by
  rw [Int32.lt_iff_toInt_lt] at h1 ⊢
  have a : (255 : Int32).toInt = 255 := by decide
  have b : (65535 : Int32).toInt = 65535 := by decide
  omega
theorem chr8 (x : Int32) : ¬ (x &&& (255 : Int32)).toUInt32.toUInt16.toUInt32.toInt32 < 0 ∧ ¬ 255 < (x &&& (255 : Int32)).toUInt32.toUInt16.toUInt32.toInt32 := by
  rw [i2c_mask]
  have q := c_and x 255 (by decide)
  have a : (255 : Int32).toInt = 255 := by decide
  rw [Int32.lt_iff_toInt_lt, Int32.lt_iff_toInt_lt, Int32.toInt_zero]
  omega
theorem own_push {Z : State} {h h' : Heap} {a : Addr} {k : ClassId} {ty : FieldType} {z j : Int32} {vs : List Value} {v dv : Value} (V : Arv Z h a k ty z vs dv) (W : Wr h h' a j.toNatClampNeg v) (hj : j.toNatClampNeg = vs.length) (hv : fits ty v = true) : Arv Z h' a k ty z (vs ++ [v]) dv := by
  obtain ⟨c, A, q1, S, q3, H, G⟩ := V.pad (pad_rep vs dv 1)
  have q := Arv.set A q1 S q3 H G hv W vs.length hj (by simp)
  simpa [List.set_append] using q
theorem getD_int (cs : List Int32) (i : Nat) : (cs.map Value.int).getD i (.int 0) = .int (cs.getD i 0) := by
  simp only [List.getD_eq_getElem?_getD, List.getElem?_map]
  cases cs[i]? <;> rfl
theorem take_push (cs : List Int32) {i : Nat} (h : i < cs.length) (f : Int32 → Value) : (cs.take i).map f ++ [f (cs.getD i 0)] = (cs.take (i + 1)).map f := by
  rw [List.take_succ_eq_append_getElem h, List.map_append, List.getD_eq_getElem?_getD, List.getElem?_eq_getElem h]; rfl
theorem mem_getD {cs : List Int32} {i : Nat} (h : i < cs.length) : cs.getD i 0 ∈ cs := by
  rw [List.getD_eq_getElem?_getD, List.getElem?_eq_getElem h]; exact List.getElem_mem h
theorem oi_inj {a b : Nat} (ha : a < 2147483648) (hb : b < 2147483648) (q : Int32.ofNat a = Int32.ofNat b) : a = b := by
  have r := congrArg Int32.toInt q
  rw [oi_toInt ha, oi_toInt hb] at r; omega
theorem oi_nil {cs : List Int32} {n : Nat} (hn : cs.length ≤ n) (q : Int32.ofNat cs.length = 0) (hs : n < 2147483648 := by decide) : cs = [] := by
  have r := oi_inj (b := 0) (by omega) (by decide) q
  exact List.eq_nil_of_length_eq_zero r
theorem asB {Z : State} {h : Heap} {t : Addr} {k : ClassId} {cs : List Int32} {dv : Value} (q : Arv Z h t k .byte (Int32.ofNat cs.length) (cs.map fun x => Value.int (lo8 x)) dv) : Arv Z h t k .byte (Int32.ofNat (cs.map lo8).length) ((cs.map lo8).map Value.int) dv := by
  rw [List.length_map, List.map_map]; exact q
theorem teq_all {b1 b2 : List Int32} {i : Nat} (hl : b1.length = b2.length) (hi : i + 0 = b1.length) (h : b1.take i = b2.take i) : b1 = b2 := by
  have e : i = b1.length := by omega
  rw [e, List.take_length, hl, List.take_length] at h; exact h
theorem teq_step {b1 b2 : List Int32} {i : Nat} (h : b1.take i = b2.take i) (h1 : i < b1.length) (h2 : i < b2.length) (q : b1.getD i 0 = b2.getD i 0) : b1.take (i + 1) = b2.take (i + 1) := by
  rw [List.getD_eq_getElem?_getD, List.getD_eq_getElem?_getD, List.getElem?_eq_getElem h1, List.getElem?_eq_getElem h2] at q
  rw [List.take_succ_eq_append_getElem h1, List.take_succ_eq_append_getElem h2, h]
  exact congrArg (fun z => b2.take i ++ [z]) q
theorem nar_z {x : Int32} (h : x = 1 ∨ x = 0) : nar .boolean x = x := by rcases h with rfl | rfl <;> decide
theorem fits_z {x : Int32} (h : x = 1 ∨ x = 0) : fits .boolean (.int x) = true := by rcases h with rfl | rfl <;> decide
theorem and3 (x : Int32) : x &&& 3 = 0 ∨ x &&& 3 = 1 ∨ x &&& 3 = 2 ∨ x &&& 3 = 3 := by
  have q := c_and x 3 (by decide)
  have a : (3 : Int32).toInt = 3 := by decide
  have r : (x &&& 3).toInt = 0 ∨ (x &&& 3).toInt = 1 ∨ (x &&& 3).toInt = 2 ∨ (x &&& 3).toInt = 3 := by omega
  rcases r with r | r | r | r
  · exact Or.inl (Int32.toInt_inj.mp r)
  · exact Or.inr (Or.inl (Int32.toInt_inj.mp r))
  · exact Or.inr (Or.inr (Or.inl (Int32.toInt_inj.mp r)))
  · exact Or.inr (Or.inr (Or.inr (Int32.toInt_inj.mp r)))
theorem rem3 (x : Int32) : (x &&& 3) % 3 = 0 ∨ (x &&& 3) % 3 = 1 ∨ (x &&& 3) % 3 = 2 := by
  rcases and3 x with r | r | r | r <;> rw [r] <;> decide
theorem lo8_inj {x y : Int32} (hx : ¬ x < 0 ∧ ¬ 255 < x) (hy : ¬ y < 0 ∧ ¬ 255 < y) (h : lo8 x = lo8 y) : x = y := by
  obtain ⟨x0, x1⟩ := hx
  obtain ⟨y0, y1⟩ := hy
  have a : (255 : Int32).toInt = 255 := by decide
  rw [Int32.lt_iff_toInt_lt, Int32.toInt_zero] at x0 y0
  rw [Int32.lt_iff_toInt_lt] at x1 y1
  have q : x.toInt8.toInt32.toInt = y.toInt8.toInt32.toInt := congrArg Int32.toInt h
  have cx := c_i2b x
  have cy := c_i2b y
  apply Int32.toInt_inj.mp
  omega
theorem q_back {q : Int32} (h : ¬ q < 0) : Int32.ofNat q.toNatClampNeg = q := by
  have a := nat_of h
  have r := rng32 q
  apply Int32.toInt_inj.mp
  rw [oi_toInt (by omega), a]
theorem own_idx {j : Int32} {n : Nat} (h : ¬ (j < 0 ∨ n ≤ j.toNatClampNeg)) : j.toNatClampNeg.toInt32 = j := q_back (fun q => h (Or.inl q))
end OwnStr

theorem litI_nil : litI "" = [] := by decide +kernel
theorem asN {Z : State} {h : Heap} {t : Addr} {k : ClassId} {cs : List Int32} {dv : Value} (q : Arv Z h t k .byte (Int32.ofNat (litI "").length) ((litI "").map Value.int) dv) (e : cs = []) : Arv Z h t k .byte (Int32.ofNat (cs.map lo8).length) ((cs.map lo8).map Value.int) dv := by
  rw [litI_nil] at q; subst e; exact q
theorem own_compact {Z : State} {a1 a0 : Array Value} (q : (Jvm.Cond.not (Jvm.Cond.eq (Jvm.Term.static "java/lang/String" "COMPACT_STRINGS" "Z") (Jvm.Term.int 0))).before a1 Z = true) : Jvm.Lit.compactW.before a0 Z = true := q

theorem own_wS (Z : State) (a0 : Array Value) (hw : ∀ d ∈ tables_1, d.before a0 Z = true) : ∀ a ∈ Bundle.stringAtoms, a.before a0 Z = true := by
  intro a ha
  simp only [Bundle.stringAtoms, List.mem_cons, List.not_mem_nil, or_false] at ha
  rcases ha with rfl | rfl | rfl | rfl | rfl | rfl | rfl
  · exact (hw _ (List.mem_of_getElem? (i := 8) rfl))
  · exact (hw _ (List.mem_of_getElem? (i := 7) rfl))
  · exact (hw _ (List.mem_of_getElem? (i := 24) rfl))
  · exact (hw _ (List.mem_of_getElem? (i := 34) rfl))
  · exact (hw _ (List.mem_of_getElem? (i := 32) rfl))
  · exact (hw _ (List.mem_of_getElem? (i := 171) rfl))
  · exact (hw _ (List.mem_of_getElem? (i := 172) rfl))

theorem own_sh0 (x : Int32) : x >>> ((0 : Int32) &&& 31) = x := by
  rw [show ((0 : Int32) &&& 31) = 0 from by decide]; exact Int32.shiftRight_zero
theorem own_sl0 (x : Int32) : x <<< ((0 : Int32) &&& 31) = x := by
  rw [show ((0 : Int32) &&& 31) = 0 from by decide]; exact Int32.shiftLeft_zero
def chV (b : List Int32) (i : Int32) : Int32 := ((b.getD i.toNatClampNeg 0) &&& (255 : Int32)).toUInt32.toUInt16.toUInt32.toInt32
theorem own_c2 (x : Int32) : nar .char (x &&& (255 : Int32)).toUInt32.toUInt16.toUInt32.toInt32 = (x &&& (255 : Int32)).toUInt32.toUInt16.toUInt32.toInt32 := nar_c (chr8 x).1 (le255 (chr8 x).2)
theorem oi_add {a b : Nat} (h : a + b < 2147483648) : Int32.ofNat a + Int32.ofNat b = Int32.ofNat (a + b) := by
  have q := c_iadd (Int32.ofNat a) (Int32.ofNat b)
  have r := rng32 (Int32.ofNat a + Int32.ofNat b)
  rw [oi_toInt (by omega), oi_toInt (by omega)] at q
  apply Int32.toInt_inj.mp
  rw [oi_toInt h]; omega
theorem own_ens {j : Nat} (h : j ≤ 16) : ¬ (0 : Int32) < Int32.ofNat j - (16 : Int32) := by
  have q := c_isub (Int32.ofNat j) 16
  have r := rng32 (Int32.ofNat j - 16)
  rw [oi_toInt (by omega), show (16 : Int32).toInt = 16 from rfl] at q
  rw [Int32.lt_iff_toInt_lt, Int32.toInt_zero]; omega
theorem own_lt16 {j : Nat} (h : j < 16) : Int32.ofNat j < (16 : Int32) := by
  rw [Int32.lt_iff_toInt_lt, oi_toInt (by omega), show (16 : Int32).toInt = 16 from rfl]; omega
theorem own_ne16 {j : Nat} (h : j < 16) : ¬ Int32.ofNat j = (16 : Int32) := fun q => by
  have r := congrArg Int32.toInt q
  rw [oi_toInt (by omega), show (16 : Int32).toInt = 16 from rfl] at r; omega
theorem cp4 {n : Nat} {z : Int32} (hn : n < 2147483648) (h : n ≤ z.toNatClampNeg) : (0 : Int32).toNatClampNeg + (Int32.ofNat n).toNatClampNeg ≤ z.toNatClampNeg := by
  rw [oi_nat hn, show (0 : Int32).toNatClampNeg = 0 from rfl]; omega
theorem cp5 {a n : Nat} {z : Int32} (ha : a < 2147483648) (hn : n < 2147483648) (h : a + n ≤ z.toNatClampNeg) : (Int32.ofNat a).toNatClampNeg + (Int32.ofNat n).toNatClampNeg ≤ z.toNatClampNeg := by
  rw [oi_nat hn, oi_nat ha]; exact h
theorem cpu (cs : List Int32) (hn : cs.length < 2147483648) : cs.map Value.int = (List.range (Int32.ofNat cs.length).toNatClampNeg).map fun i => (cs.map Value.int).getD ((0 : Int32).toNatClampNeg + i) (.int 0) := by
  rw [oi_nat hn, show (0 : Int32).toNatClampNeg = 0 from rfl]
  refine List.ext_getElem (by simp) fun i h1 h2 => ?_
  have hi : i < cs.length := by simpa using h1
  simp [List.getD_eq_getElem?_getD, hi]
theorem cpl (bs cs : List Int32) (hb : bs.length < 2147483648) (hn : cs.length < 2147483648) : (Int32.ofNat bs.length).toNatClampNeg + (Int32.ofNat cs.length).toNatClampNeg ≤ (bs.map Value.int ++ List.replicate cs.length (Value.int 0)).length := by
  rw [oi_nat hn, oi_nat hb]; simp
theorem cp_res (bs cs : List Int32) (hb : bs.length < 2147483648) (hn : cs.length < 2147483648) : ((bs.map Value.int ++ List.replicate cs.length (Value.int 0)).take (Int32.ofNat bs.length).toNatClampNeg ++ cs.map Value.int ++ (bs.map Value.int ++ List.replicate cs.length (Value.int 0)).drop ((Int32.ofNat bs.length).toNatClampNeg + (Int32.ofNat cs.length).toNatClampNeg)) = (bs ++ cs).map Value.int := by
  rw [oi_nat hn, oi_nat hb]
  have e1 : (bs.map Value.int ++ List.replicate cs.length (Value.int 0)).take bs.length = bs.map Value.int := by
    rw [List.take_append_of_le_length (by simp)]; exact List.take_of_length_le (by simp)
  have e2 : (bs.map Value.int ++ List.replicate cs.length (Value.int 0)).drop (bs.length + cs.length) = [] := List.drop_of_length_le (by simp)
  rw [e1, e2, List.append_nil, List.map_append]
theorem own_isr {args : Array Value} {s : State} {t : Term} (h : (Jvm.Cond.isRef t).value args s none s [] = some true) : ∃ v : Value, (v = .null ∨ ∃ a, v = .ref a) ∧ t.eval args s none [] s = some v := by
  cases ha : t.eval args s none [] s with
  | none => simp [Cond.value, ha] at h
  | some x =>
    cases x <;> simp [Cond.value, ha] at h
    · exact ⟨_, Or.inl rfl, rfl⟩
    · exact ⟨_, Or.inr ⟨_, rfl⟩, rfl⟩

def mkL (n x y : Int32) : List Int32 := if n = 0 then [] else if n = 1 then [x] else [x, y]
theorem mkL_len (n x y : Int32) : ((mkL n x y).map lo8).length < 2147483648 := by
  rw [List.length_map]
  by_cases h0 : n = 0
  · simp [mkL, h0]
  by_cases h1 : n = 1
  · simp [mkL, h1]
  simp [mkL, h0, h1]
theorem mkL_eq {n m x y u v : Int32} (hn : n = 0 ∨ n = 1 ∨ n = 2) (hm : m = 0 ∨ m = 1 ∨ m = 2) (hx : ¬ x < 0 ∧ ¬ 255 < x) (hy : ¬ y < 0 ∧ ¬ 255 < y) (hu : ¬ u < 0 ∧ ¬ 255 < u) (hv : ¬ v < 0 ∧ ¬ 255 < v) :
    (mkL m u v).map lo8 = (mkL n x y).map lo8 ↔ n = m ∧ (n < 1 ∨ x = u) ∧ (n < 2 ∨ y = v) := by
  have a : lo8 u = lo8 x ↔ x = u := ⟨fun q => (lo8_inj hu hx q).symm, fun q => by rw [q]⟩
  have b : lo8 v = lo8 y ↔ y = v := ⟨fun q => (lo8_inj hv hy q).symm, fun q => by rw [q]⟩
  rcases hn with rfl | rfl | rfl <;> rcases hm with rfl | rfl | rfl <;> simp only [mkL, if_true, if_false, reduceIte, List.map_cons, List.map_nil, List.cons.injEq, and_true, true_and, a, b, show (0 : Int32) < 1 by decide, show (0 : Int32) < 2 by decide, show (1 : Int32) < 2 by decide, show ¬ (1 : Int32) < 1 by decide, show ¬ (2 : Int32) < 1 by decide, show ¬ (2 : Int32) < 2 by decide, show (1 : Int32) ≠ 0 by decide, show (2 : Int32) ≠ 0 by decide, show (2 : Int32) ≠ 1 by decide, show (0 : Int32) ≠ 1 by decide, show (0 : Int32) ≠ 2 by decide, show (1 : Int32) ≠ 2 by decide, false_or, true_or, false_and, reduceCtorEq, and_false, iff_self]
theorem mkL_le (n x y : Int32) : ((mkL n x y).map lo8).length ≤ 2 := by
  rw [List.length_map]
  by_cases h0 : n = 0
  · simp [mkL, h0]
  by_cases h1 : n = 1
  · simp [mkL, h1]
  simp [mkL, h0, h1]
theorem and255 (x : Int32) : (x &&& 255).toInt = x.toInt % 256 := by
  have h1 : (x &&& 255).toBitVec.toNat = x.toBitVec.toNat % 256 := by
    show (x.toBitVec &&& (255 : Int32).toBitVec).toNat = _
    rw [BitVec.toNat_and, show (255 : Int32).toBitVec.toNat = 2 ^ 8 - 1 from by decide, Nat.and_two_pow_sub_one_eq_mod]
  have e1 := BitVec.toInt_eq_toNat_cond (x &&& 255).toBitVec
  have e2 := BitVec.toInt_eq_toNat_cond x.toBitVec
  have h2 := x.toBitVec.isLt
  show (x &&& 255).toBitVec.toInt = x.toBitVec.toInt % 256
  rw [e1, e2, h1]
  split <;> split <;> omega
theorem chr_lo8 {x : Int32} (h : ¬ x < 0 ∧ ¬ 255 < x) : (lo8 x &&& (255 : Int32)).toUInt32.toUInt16.toUInt32.toInt32 = x := by
  obtain ⟨x0, x1⟩ := h
  have a : (255 : Int32).toInt = 255 := by decide
  rw [Int32.lt_iff_toInt_lt, Int32.toInt_zero] at x0
  rw [Int32.lt_iff_toInt_lt] at x1
  rw [i2c_mask]
  have cx := c_i2b x
  have m : (x.toInt8.toInt32 &&& 255).toInt = x.toInt8.toInt32.toInt % 256 := and255 (lo8 x)
  apply Int32.toInt_inj.mp
  show (x.toInt8.toInt32 &&& 255).toInt = x.toInt
  omega
theorem mkL_len_eq {n x y : Int32} (hn : n = 0 ∨ n = 1 ∨ n = 2) : ((mkL n x y).map lo8).length = n.toNatClampNeg := by
  rw [List.length_map]
  rcases hn with rfl | rfl | rfl
  · simp only [mkL, if_true]; rfl
  · simp only [mkL, show ¬ (1 : Int32) = 0 by decide, if_false, if_true]; rfl
  · simp only [mkL, show ¬ (2 : Int32) = 0 by decide, show ¬ (2 : Int32) = 1 by decide, if_false]; rfl

abbrev rng16 (x : Int32) : Prop := ¬ x < 0 ∧ ¬ 65535 < x
abbrev hi8 (x : Int32) : Int32 := (x >>> ((8 : Int32) &&& 31)).toInt8.toInt32
/-- the bytes of a text in UTF-16, the low one first -/
def utf (cs : List Int32) : List Int32 := cs.flatMap fun c => [lo8 c, hi8 c]
theorem utf_nil : utf [] = [] := rfl
theorem utf_snoc (cs : List Int32) (x : Int32) : utf (cs ++ [x]) = utf cs ++ [lo8 x, hi8 x] := by simp [utf, List.flatMap_append]
theorem utf_len (cs : List Int32) : (utf cs).length = 2 * cs.length := by
  induction cs with
  | nil => rfl
  | cons c r ih => simp only [utf, List.flatMap_cons, List.length_append, List.length_cons, List.length_nil] at ih ⊢; omega
theorem utf_take (cs : List Int32) {i : Nat} (h : i < cs.length) : utf (cs.take i) ++ [lo8 (cs.getD i 0), hi8 (cs.getD i 0)] = utf (cs.take (i + 1)) := by
  rw [List.take_succ_eq_append_getElem h, utf_snoc, List.getD_eq_getElem?_getD, List.getElem?_eq_getElem h]; rfl
theorem utf_get (cs : List Int32) : ∀ i, (utf cs).getD (2 * i) 0 = (if i < cs.length then lo8 (cs.getD i 0) else 0) ∧ (utf cs).getD (2 * i + 1) 0 = (if i < cs.length then hi8 (cs.getD i 0) else 0) := by
  induction cs with
  | nil => intro i; simp [utf]
  | cons c r ih =>
    intro i
    have e : utf (c :: r) = lo8 c :: hi8 c :: utf r := by simp [utf]
    cases i with
    | zero => rw [e]; simp
    | succ i =>
      have q := ih i
      rw [e, show 2 * (i + 1) = 2 * i + 1 + 1 by omega]
      simpa using q
def ch16 (x y : Int32) : Int32 := (((x &&& (255 : Int32)) <<< ((0 : Int32) &&& 31)) ||| ((y &&& (255 : Int32)) <<< ((8 : Int32) &&& 31))).toUInt32.toUInt16.toUInt32.toInt32
theorem ch16_back {c : Int32} (h : rng16 c) : ch16 (lo8 c) (hi8 c) = c := by
  obtain ⟨h0, h1⟩ := h
  rw [Int32.lt_iff_toInt_lt, Int32.toInt_zero] at h0
  rw [Int32.lt_iff_toInt_lt, show (65535 : Int32).toInt = 65535 from by decide] at h1
  have a := c_mask (lo8 c) 255 8 (by decide) (by decide)
  have b := c_mask (hi8 c) 255 8 (by decide) (by decide)
  have x1 := c_i2b c
  have x2 := c_i2b (c >>> ((8 : Int32) &&& 31))
  have x3 := c_ishr c 8 8 (by decide)
  have s0 := c_ishl (lo8 c &&& 255) 0 0 (by decide)
  have s8 := c_ishl (hi8 c &&& 255) 8 8 (by decide)
  have r0 := rng32 ((lo8 c &&& 255) <<< ((0 : Int32) &&& 31))
  have r8 := rng32 ((hi8 c &&& 255) <<< ((8 : Int32) &&& 31))
  simp only [show ((2 ^ 8 : Nat) : Int) = 256 from rfl, show ((2 ^ 0 : Nat) : Int) = 1 from rfl] at a b x3 s0 s8
  have o := c_or' ((lo8 c &&& 255) <<< ((0 : Int32) &&& 31)) ((hi8 c &&& 255) <<< ((8 : Int32) &&& 31)) 8 (by decide) 256 (by rfl) (by omega) (by omega) (by omega)
  have ro := rng32 ((lo8 c &&& 255) <<< ((0 : Int32) &&& 31) ||| (hi8 c &&& 255) <<< ((8 : Int32) &&& 31))
  have i := c_i2c ((lo8 c &&& 255) <<< ((0 : Int32) &&& 31) ||| (hi8 c &&& 255) <<< ((8 : Int32) &&& 31))
  apply Int32.toInt_inj.mp
  simp only [ch16, lo8, hi8] at a b s0 s8 r0 r8 o ro i ⊢
  omega
theorem oi_shl1 {i : Nat} (h : 2 * i < 2147483648) : Int32.ofNat i <<< ((1 : Int32) &&& 31) = Int32.ofNat (2 * i) := by
  have s := c_ishl (Int32.ofNat i) 1 1 (by decide)
  have r := rng32 (Int32.ofNat i <<< ((1 : Int32) &&& 31))
  rw [oi_toInt (by omega)] at s
  simp only [show ((2 ^ 1 : Nat) : Int) = 2 from rfl] at s
  apply Int32.toInt_inj.mp
  rw [oi_toInt h]; omega
theorem oi_shr1 {i : Nat} (h : 2 * i < 2147483648) : Int32.ofNat (2 * i) >>> ((1 : Int32) &&& 31) = Int32.ofNat i := by
  have s := c_ishr (Int32.ofNat (2 * i)) 1 1 (by decide)
  rw [oi_toInt h] at s
  simp only [show ((2 ^ 1 : Nat) : Int) = 2 from rfl] at s
  apply Int32.toInt_inj.mp
  rw [oi_toInt (by omega), s]; omega
/-- a text in the machine: latin-1 or UTF-16 -/
def StrOf (cs : List Int32) (cd : Int32) (b : List Int32) : Prop := (cd = 0 ∧ b = cs.map lo8 ∧ ∀ x ∈ cs, ¬ 255 < x) ∨ (cd = 1 ∧ b = utf cs)
theorem so_nil {cs : List Int32} (e : cs = []) : StrOf cs 0 (cs.map lo8) := Or.inl ⟨rfl, rfl, by subst e; intro x hx; cases hx⟩
theorem nar_cd {cs b : List Int32} {cd : Int32} (h : StrOf cs cd b) : nar .byte cd = cd := by
  rcases h with ⟨rfl, -, -⟩ | ⟨rfl, -⟩ <;> decide
theorem fits_cd {cs b : List Int32} {cd : Int32} (h : StrOf cs cd b) : fits .byte (.int cd) = true := by
  rcases h with ⟨rfl, -, -⟩ | ⟨rfl, -⟩ <;> decide
theorem own_c16 (x : Int32) : nar .char x.toUInt32.toUInt16.toUInt32.toInt32 = x.toUInt32.toUInt16.toUInt32.toInt32 := by
  have a := c_i2c x
  have b := c_i2c x.toUInt32.toUInt16.toUInt32.toInt32
  apply Int32.toInt_inj.mp
  show (x.toUInt32.toUInt16.toUInt32.toInt32.toUInt32.toUInt16.toUInt32.toInt32).toInt = x.toUInt32.toUInt16.toUInt32.toInt32.toInt
  omega
theorem chr16 (x : Int32) : rng16 x.toUInt32.toUInt16.toUInt32.toInt32 := by
  have a := c_i2c x
  refine ⟨?_, ?_⟩
  · rw [Int32.lt_iff_toInt_lt, Int32.toInt_zero]; omega
  · rw [Int32.lt_iff_toInt_lt, show (65535 : Int32).toInt = 65535 from by decide]; omega
theorem utf_ch {cs : List Int32} (hr : ∀ x ∈ cs, rng16 x) {j : Nat} (h : j < cs.length) : ch16 ((utf cs).getD (2 * j) 0) ((utf cs).getD (2 * j + 1) 0) = cs.getD j 0 := by
  obtain ⟨a, b⟩ := utf_get cs j
  rw [a, b, if_pos h, if_pos h]; exact ch16_back (hr _ (mem_getD h))
theorem nar_u {cs : List Int32} (hr : ∀ x ∈ cs, rng16 x) {j : Nat} (h : j < cs.length) : nar .char (ch16 ((utf cs).getD (2 * j) 0) ((utf cs).getD (2 * j + 1) 0)) = cs.getD j 0 := by
  rw [utf_ch hr h]; exact nar_c (hr _ (mem_getD h)).1 (hr _ (mem_getD h)).2
theorem nar_l {cs : List Int32} (hl : ∀ x ∈ cs, ¬ 255 < x) (hr : ∀ x ∈ cs, rng16 x) {j : Nat} (hj : j < cs.length) (hn : cs.length ≤ 1000) : nar .char (chV (cs.map lo8) (Int32.ofNat j)) = cs.getD j 0 := by
  have e : chV (cs.map lo8) (Int32.ofNat j) = cs.getD j 0 := by
    rw [chV, oi_nat (by omega)]
    have e : (cs.map lo8).getD j 0 = lo8 (cs.getD j 0) := by
      simp only [List.getD_eq_getElem?_getD, List.getElem?_map, List.getElem?_eq_getElem hj, Option.map_some, Option.getD_some]
    rw [e]
    exact chr_lo8 ⟨(hr _ (mem_getD hj)).1, hl _ (mem_getD hj)⟩
  rw [e]; exact nar_c (hr _ (mem_getD hj)).1 (hr _ (mem_getD hj)).2
theorem all_le {cs : List Int32} {j : Nat} (he : j = cs.length) (hlt : ∀ i, i < j → ¬ 255 < cs.getD i 0) : ∀ x ∈ cs, ¬ 255 < x := by
  intro x hx
  obtain ⟨i, hi, rfl⟩ := List.getElem_of_mem hx
  have q := hlt i (by omega)
  rwa [List.getD_eq_getElem?_getD, List.getElem?_eq_getElem hi, Option.getD_some] at q
theorem oi_pos {n : Nat} (h : ¬ Int32.ofNat n = 0) : 0 < n := Nat.pos_of_ne_zero fun q => h (by rw [q]; rfl)
theorem own_cd0 (x : Int32) : ((x - x).toUInt32 >>> ((31 : Int32) &&& 31).toUInt32).toInt32 = 0 := by
  rw [Int32.sub_self]; decide
theorem own_cd1 {n : Nat} (h0 : 0 < n) (h : n ≤ 1000) : ((Int32.ofNat n - Int32.ofNat (2 * n)).toUInt32 >>> ((31 : Int32) &&& 31).toUInt32).toInt32 = 1 := by
  have s := c_isub (Int32.ofNat n) (Int32.ofNat (2 * n))
  have r := rng32 (Int32.ofNat n - Int32.ofNat (2 * n))
  rw [oi_toInt (by omega), oi_toInt (by omega)] at s
  have u := c_iushr (Int32.ofNat n - Int32.ofNat (2 * n)) 31 31 (by decide) (by decide)
  simp only [show ((2 ^ 31 : Nat) : Int) = 2147483648 from rfl] at u
  apply Int32.toInt_inj.mp
  rw [u, show (1 : Int32).toInt = 1 from by decide]
  omega
theorem own_ensN {j n : Nat} (h : j ≤ n) (hn : n ≤ 1000) : ¬ (0 : Int32) < Int32.ofNat j - Int32.ofNat n := by
  have q := c_isub (Int32.ofNat j) (Int32.ofNat n)
  have r := rng32 (Int32.ofNat j - Int32.ofNat n)
  rw [oi_toInt (by omega), oi_toInt (by omega)] at q
  rw [Int32.lt_iff_toInt_lt, Int32.toInt_zero]; omega
theorem push1 {us : List Int32} {x : Int32} : us.map Value.int ++ [Value.int x] = (us ++ [x]).map Value.int := by simp
theorem push2 {us : List Int32} {x y : Int32} : (us ++ [x]).map Value.int ++ [Value.int y] = (us ++ [x, y]).map Value.int := by simp

theorem d6_3 : decode jdk_52_method_21_code 3 = .ok (.iload 5, 2) := by decide +kernel
theorem d6_5 : decode jdk_52_method_21_code 5 = .ok (.iload 4, 2) := by decide +kernel
theorem d6_7 : decode jdk_52_method_21_code 7 = .ok (.if_icmp .ge 37, 3) := by decide +kernel
theorem d6_44 : decode jdk_52_method_21_code 44 = .ok (.iload 4, 2) := by decide +kernel
theorem d6_46 : decode jdk_52_method_21_code 46 = .ok (.ireturn, 1) := by decide +kernel
theorem d6_10 : decode jdk_52_method_21_code 10 = .ok (.aload_n 0, 1) := by decide +kernel
theorem d6_11 : decode jdk_52_method_21_code 11 = .ok (.iload_n 1, 1) := by decide +kernel
theorem d6_12 : decode jdk_52_method_21_code 12 = .ok (.caload, 1) := by decide +kernel
theorem d6_13 : decode jdk_52_method_21_code 13 = .ok (.istore 6, 2) := by decide +kernel
theorem d6_15 : decode jdk_52_method_21_code 15 = .ok (.iload 6, 2) := by decide +kernel
theorem d6_17 : decode jdk_52_method_21_code 17 = .ok (.sipush 255, 3) := by decide +kernel
theorem d6_20 : decode jdk_52_method_21_code 20 = .ok (.if_icmp .le 6, 3) := by decide +kernel
theorem d6_23 : decode jdk_52_method_21_code 23 = .ok (.iload 5, 2) := by decide +kernel
theorem d6_25 : decode jdk_52_method_21_code 25 = .ok (.ireturn, 1) := by decide +kernel
theorem d6_26 : decode jdk_52_method_21_code 26 = .ok (.aload_n 2, 1) := by decide +kernel
theorem d6_27 : decode jdk_52_method_21_code 27 = .ok (.iload_n 3, 1) := by decide +kernel
theorem d6_28 : decode jdk_52_method_21_code 28 = .ok (.iload 6, 2) := by decide +kernel
theorem d6_30 : decode jdk_52_method_21_code 30 = .ok (.i2b, 1) := by decide +kernel
theorem d6_31 : decode jdk_52_method_21_code 31 = .ok (.bastore, 1) := by decide +kernel
theorem d6_32 : decode jdk_52_method_21_code 32 = .ok (.iinc 1 1, 3) := by decide +kernel
theorem d6_35 : decode jdk_52_method_21_code 35 = .ok (.iinc 3 1, 3) := by decide +kernel
theorem d6_38 : decode jdk_52_method_21_code 38 = .ok (.iinc 5 1, 3) := by decide +kernel
theorem d6_41 : decode jdk_52_method_21_code 41 = .ok (.goto (-38), 3) := by decide +kernel
theorem own_st6 {v0 v1 v2 v3 v4 v5 : Value} {s6 : Slot} {x : Int32} (h : One s6) : storeLocals #[.val v0, .val v1, .val v2, .val v3, .val v4, .val v5, s6] 6 (.int x) = some #[.val v0, .val v1, .val v2, .val v3, .val v4, .val v5, .val (.int x)] := by
  rcases h with rfl | ⟨w, rfl, hw⟩
  · rfl
  · cases w <;> first | rfl | (simp [Value.category] at hw)
theorem big_in {cs : List Int32} {j : Nat} (h : 255 < cs.getD j 0) : j < cs.length := Decidable.byContradiction fun q => by
  rw [List.getD_eq_getElem?_getD, List.getElem?_eq_none (Nat.le_of_not_lt q)] at h
  exact absurd h (by decide)
theorem first_big (cs : List Int32) : ∃ j, j ≤ cs.length ∧ (∀ i, i < j → ¬ 255 < cs.getD i 0) ∧ (j = cs.length ∨ 255 < cs.getD j 0) := by
  have key : ∀ n, n ≤ cs.length → (∃ j, j ≤ cs.length ∧ (∀ i, i < j → ¬ 255 < cs.getD i 0) ∧ (j = cs.length ∨ 255 < cs.getD j 0)) ∨ ∀ i, i < n → ¬ 255 < cs.getD i 0 := by
    intro n
    induction n with
    | zero => intro _; right; intro i hi; omega
    | succ n ih =>
      intro hn
      rcases ih (by omega) with h | h
      · exact Or.inl h
      · by_cases q : 255 < cs.getD n 0
        · exact Or.inl ⟨n, by omega, h, Or.inr q⟩
        · right
          intro i hi
          by_cases e : i = n
          · rw [e]; exact q
          · exact h i (by omega)
  rcases key cs.length (Nat.le_refl _) with h | h
  · exact h
  · exact ⟨cs.length, Nat.le_refl _, h, Or.inl rfl⟩
set_option maxRecDepth 65536 in
set_option maxHeartbeats 40000000 in
theorem cloopU {l : Launch} {Z : State} {p : Program} {e : Env} {R : Room} {s b : State} {m : MethodId} {args : Array Value} {below : List Frame} {meth : Method} {c : Code} {K N : Nat} {Q : Option Value → Vm → Heap → List Loc → Prop} {ms : List Addr} {h0 : Heap} {n0 nb : Nat} (Cc : Cx Z p b m meth c "java/lang/StringUTF16" jdk_52_method_21_code 7 "compress" (some .int)) (a1 a2 : Addr) (k1 k2 : ClassId) (cs : List Int32) (j : Nat) (hn : cs.length ≤ 5) (hr : ∀ x ∈ cs, rng16 x) (hj : j ≤ cs.length) (hlt : ∀ i, i < j → ¬ 255 < cs.getD i 0) (hend : j = cs.length ∨ 255 < cs.getD j 0) (ne12 : a1 ≠ a2) (hb0 : n0 ≤ nb) (hnb : nb ≤ h0.size) (fr_a2 : nb ≤ a2) (hm_a2 : a2 ∈ ms)
    (hQ : ∀ vm h L, Keep h0 h [a2] → Fr nb L → Arv Z h a2 k2 .byte (Int32.ofNat cs.length) ((cs.take j).map fun x => Value.int (lo8 x)) (.int 0) → Q (some (.int (Int32.ofNat j))) vm h L) :
    ∀ (r i : Nat), i + r = j → ∀ (T : State) (h : Heap) (locs : List Loc) (cells slots : Nat) (s6 : Slot), One s6 → Stand p l e R b m args below meth c T locs cells slots → T.heap = h → Old Z n0 h → Fr nb locs → Keep h0 h [a2] → Hd Z ms b.vm h → Bs s b h → Arv Z h a1 k1 .char (Int32.ofNat cs.length) (cs.map Value.int) (.int 0) → Arv Z h a2 k2 .byte (Int32.ofNat cs.length) ((cs.take i).map fun x => Value.int (lo8 x)) (.int 0) → cells ≤ K → slots ≤ N →
      Go p e s below K N (Hd Z ms) Q T (mkF m 3 #[.val (.ref a1), .val (.int (Int32.ofNat i)), .val (.ref a2), .val (.int (Int32.ofNat i)), .val (.int (Int32.ofNat cs.length)), .val (.int (Int32.ofNat i)), s6] []) := by
  obtain ⟨hx, hZ, hown, hby, hml, hnm, hret, hlk⟩ := id Cc
  intro r
  induction r with
  | zero =>
    intro i hi T h locs cells slots s6 one6 X eT O0 N0 K0 J0 B0 V1 V2 hK hN
    obtain rfl : i = j := by omega
    rcases hend with he | he
    · show Go p e s below _ _ _ _ T (mkF m 3 #[.val (.ref a1), .val (.int (Int32.ofNat i)), .val (.ref a2), .val (.int (Int32.ofNat i)), .val (.int (Int32.ofNat cs.length)), .val (.int (Int32.ofNat i)), s6] [])
      refine Go.of (fun _ hr => XS.iload X.here hx rfl (hb hby d6_3) rfl  hr) ?_
      show Go p e s below _ _ _ _ T (mkF m 5 #[.val (.ref a1), .val (.int (Int32.ofNat i)), .val (.ref a2), .val (.int (Int32.ofNat i)), .val (.int (Int32.ofNat cs.length)), .val (.int (Int32.ofNat i)), s6] [(.int (Int32.ofNat i))])
      refine Go.of (fun _ hr => XS.iload X.here hx rfl (hb hby d6_5) rfl  hr) ?_
      show Go p e s below _ _ _ _ T (mkF m 7 #[.val (.ref a1), .val (.int (Int32.ofNat i)), .val (.ref a2), .val (.int (Int32.ofNat i)), .val (.int (Int32.ofNat cs.length)), .val (.int (Int32.ofNat i)), s6] [(.int (Int32.ofNat cs.length)), (.int (Int32.ofNat i))])
      refine Go.of (fun _ hr => XS.icmpYes X.here hx rfl (pc0 := 7) (pc' := 44) rfl (hb hby d6_7) rfl (flt (oi_nlt (by omega) (by omega) (by omega))).2.1 (by decide) (by decide) hr) ?_
      show Go p e s below _ _ _ _ T (mkF m 44 #[.val (.ref a1), .val (.int (Int32.ofNat i)), .val (.ref a2), .val (.int (Int32.ofNat i)), .val (.int (Int32.ofNat cs.length)), .val (.int (Int32.ofNat i)), s6] [])
      refine Go.of (fun _ hr => XS.iload X.here hx rfl (hb hby d6_44) rfl  hr) ?_
      show Go p e s below _ _ _ _ T (mkF m 46 #[.val (.ref a1), .val (.int (Int32.ofNat i)), .val (.ref a2), .val (.int (Int32.ofNat i)), .val (.int (Int32.ofNat cs.length)), .val (.int (Int32.ofNat i)), s6] [(.int (Int32.ofNat cs.length))])
      exact Go.retI X hx hlk B0 J0 eT hret (hb hby d6_46) (by omega) (by omega) (fun vm_ hw_ => by rw [← he]; exact hQ _ _ _ K0 N0 V2)
    · have hji := big_in he
      show Go p e s below _ _ _ _ T (mkF m 3 #[.val (.ref a1), .val (.int (Int32.ofNat i)), .val (.ref a2), .val (.int (Int32.ofNat i)), .val (.int (Int32.ofNat cs.length)), .val (.int (Int32.ofNat i)), s6] [])
      refine Go.of (fun _ hr => XS.iload X.here hx rfl (hb hby d6_3) rfl  hr) ?_
      show Go p e s below _ _ _ _ T (mkF m 5 #[.val (.ref a1), .val (.int (Int32.ofNat i)), .val (.ref a2), .val (.int (Int32.ofNat i)), .val (.int (Int32.ofNat cs.length)), .val (.int (Int32.ofNat i)), s6] [(.int (Int32.ofNat i))])
      refine Go.of (fun _ hr => XS.iload X.here hx rfl (hb hby d6_5) rfl  hr) ?_
      show Go p e s below _ _ _ _ T (mkF m 7 #[.val (.ref a1), .val (.int (Int32.ofNat i)), .val (.ref a2), .val (.int (Int32.ofNat i)), .val (.int (Int32.ofNat cs.length)), .val (.int (Int32.ofNat i)), s6] [(.int (Int32.ofNat cs.length)), (.int (Int32.ofNat i))])
      refine Go.of (fun _ hr => XS.icmpNo X.here hx rfl (hb hby d6_7) rfl (tlt (oi_lt (by omega) (by omega) (by omega))).2.1 hr) ?_
      show Go p e s below _ _ _ _ T (mkF m 10 #[.val (.ref a1), .val (.int (Int32.ofNat i)), .val (.ref a2), .val (.int (Int32.ofNat i)), .val (.int (Int32.ofNat cs.length)), .val (.int (Int32.ofNat i)), s6] [])
      refine Go.of (fun _ hr => XS.aloadN X.here hx rfl (hb hby d6_10) rfl rfl hr) ?_
      show Go p e s below _ _ _ _ T (mkF m 11 #[.val (.ref a1), .val (.int (Int32.ofNat i)), .val (.ref a2), .val (.int (Int32.ofNat i)), .val (.int (Int32.ofNat cs.length)), .val (.int (Int32.ofNat i)), s6] [(.ref a1)])
      refine Go.of (fun _ hr => XS.iloadN X.here hx rfl (hb hby d6_11) rfl  hr) ?_
      show Go p e s below _ _ _ _ T (mkF m 12 #[.val (.ref a1), .val (.int (Int32.ofNat i)), .val (.ref a2), .val (.int (Int32.ofNat i)), .val (.int (Int32.ofNat cs.length)), .val (.int (Int32.ofNat i)), s6] [(.int (Int32.ofNat i)), (.ref a1)])
      obtain ⟨x, hxe⟩ : ∃ x, cs.getD i 0 = x := ⟨_, rfl⟩
      obtain ⟨cl101, Ar101, q101, S101, N101_, H101, G101⟩ := id V1
      have hin101 : ¬ ((Int32.ofNat i) < 0 ∨ cl101.slots.size ≤ ((Int32.ofNat i)).toNatClampNeg) := inb_of S101 ⟨oi_nn (by omega), oi_lt (by omega) (by omega) (by omega)⟩
      refine Go.of (fun _ hr => X.caload hx (j := (Int32.ofNat i)) (v := (.int x)) (by rw [eT]; exact Ar101.1) (State.isArrayOf_alike hZ.alike Ar101.2.1) Ar101.2.2 hin101 (H101.at hin101 (by rw [oi_nat (by omega), getD_int, hxe])) (g := (mkF m 12 #[.val (.ref a1), .val (.int (Int32.ofNat i)), .val (.ref a2), .val (.int (Int32.ofNat i)), .val (.int (Int32.ofNat cs.length)), .val (.int (Int32.ofNat i)), s6] [(.int (Int32.ofNat i)), (.ref a1)])) rfl rfl (hb hby d6_12) _ hr) ?_
      show Go p e s below _ _ _ _ T (mkF m 13 #[.val (.ref a1), .val (.int (Int32.ofNat i)), .val (.ref a2), .val (.int (Int32.ofNat i)), .val (.int (Int32.ofNat cs.length)), .val (.int (Int32.ofNat i)), s6] [(.int x)])
      refine Go.of (fun _ hr => XS.istore X.here hx rfl (hb hby d6_13) rfl (l' := #[.val (.ref a1), .val (.int (Int32.ofNat i)), .val (.ref a2), .val (.int (Int32.ofNat i)), .val (.int (Int32.ofNat cs.length)), .val (.int (Int32.ofNat i)), .val (.int x)]) (own_st6 one6) hr) ?_
      show Go p e s below _ _ _ _ T (mkF m 15 #[.val (.ref a1), .val (.int (Int32.ofNat i)), .val (.ref a2), .val (.int (Int32.ofNat i)), .val (.int (Int32.ofNat cs.length)), .val (.int (Int32.ofNat i)), .val (.int x)] [])
      refine Go.of (fun _ hr => XS.iload X.here hx rfl (hb hby d6_15) rfl  hr) ?_
      show Go p e s below _ _ _ _ T (mkF m 17 #[.val (.ref a1), .val (.int (Int32.ofNat i)), .val (.ref a2), .val (.int (Int32.ofNat i)), .val (.int (Int32.ofNat cs.length)), .val (.int (Int32.ofNat i)), .val (.int x)] [(.int x)])
      refine Go.of (fun _ hr => XS.sipush X.here hx rfl (hb hby d6_17) hr) ?_
      show Go p e s below _ _ _ _ T (mkF m 20 #[.val (.ref a1), .val (.int (Int32.ofNat i)), .val (.ref a2), .val (.int (Int32.ofNat i)), .val (.int (Int32.ofNat cs.length)), .val (.int (Int32.ofNat i)), .val (.int x)] [(.int (255 : Int32)), (.int x)])
      refine Go.of (fun _ hr => XS.icmpNo X.here hx rfl (hb hby d6_20) rfl (tlt (hxe ▸ he)).2.2.2 hr) ?_
      show Go p e s below _ _ _ _ T (mkF m 23 #[.val (.ref a1), .val (.int (Int32.ofNat i)), .val (.ref a2), .val (.int (Int32.ofNat i)), .val (.int (Int32.ofNat cs.length)), .val (.int (Int32.ofNat i)), .val (.int x)] [])
      refine Go.of (fun _ hr => XS.iload X.here hx rfl (hb hby d6_23) rfl  hr) ?_
      show Go p e s below _ _ _ _ T (mkF m 25 #[.val (.ref a1), .val (.int (Int32.ofNat i)), .val (.ref a2), .val (.int (Int32.ofNat i)), .val (.int (Int32.ofNat cs.length)), .val (.int (Int32.ofNat i)), .val (.int x)] [(.int (Int32.ofNat i))])
      exact Go.retI X hx hlk B0 J0 eT hret (hb hby d6_25) (by omega) (by omega) (fun vm_ hw_ => hQ _ _ _ K0 N0 V2)
  | succ r ih =>
    intro i hi T h locs cells slots s6 one6 X eT O0 N0 K0 J0 B0 V1 V2 hK hN
    show Go p e s below _ _ _ _ T (mkF m 3 #[.val (.ref a1), .val (.int (Int32.ofNat i)), .val (.ref a2), .val (.int (Int32.ofNat i)), .val (.int (Int32.ofNat cs.length)), .val (.int (Int32.ofNat i)), s6] [])
    refine Go.of (fun _ hr => XS.iload X.here hx rfl (hb hby d6_3) rfl  hr) ?_
    show Go p e s below _ _ _ _ T (mkF m 5 #[.val (.ref a1), .val (.int (Int32.ofNat i)), .val (.ref a2), .val (.int (Int32.ofNat i)), .val (.int (Int32.ofNat cs.length)), .val (.int (Int32.ofNat i)), s6] [(.int (Int32.ofNat i))])
    refine Go.of (fun _ hr => XS.iload X.here hx rfl (hb hby d6_5) rfl  hr) ?_
    show Go p e s below _ _ _ _ T (mkF m 7 #[.val (.ref a1), .val (.int (Int32.ofNat i)), .val (.ref a2), .val (.int (Int32.ofNat i)), .val (.int (Int32.ofNat cs.length)), .val (.int (Int32.ofNat i)), s6] [(.int (Int32.ofNat cs.length)), (.int (Int32.ofNat i))])
    refine Go.of (fun _ hr => XS.icmpNo X.here hx rfl (hb hby d6_7) rfl (tlt (oi_lt (by omega) (by omega) (by omega))).2.1 hr) ?_
    show Go p e s below _ _ _ _ T (mkF m 10 #[.val (.ref a1), .val (.int (Int32.ofNat i)), .val (.ref a2), .val (.int (Int32.ofNat i)), .val (.int (Int32.ofNat cs.length)), .val (.int (Int32.ofNat i)), s6] [])
    refine Go.of (fun _ hr => XS.aloadN X.here hx rfl (hb hby d6_10) rfl rfl hr) ?_
    show Go p e s below _ _ _ _ T (mkF m 11 #[.val (.ref a1), .val (.int (Int32.ofNat i)), .val (.ref a2), .val (.int (Int32.ofNat i)), .val (.int (Int32.ofNat cs.length)), .val (.int (Int32.ofNat i)), s6] [(.ref a1)])
    refine Go.of (fun _ hr => XS.iloadN X.here hx rfl (hb hby d6_11) rfl  hr) ?_
    show Go p e s below _ _ _ _ T (mkF m 12 #[.val (.ref a1), .val (.int (Int32.ofNat i)), .val (.ref a2), .val (.int (Int32.ofNat i)), .val (.int (Int32.ofNat cs.length)), .val (.int (Int32.ofNat i)), s6] [(.int (Int32.ofNat i)), (.ref a1)])
    obtain ⟨x, hxe⟩ : ∃ x, cs.getD i 0 = x := ⟨_, rfl⟩
    obtain ⟨cl102, Ar102, q102, S102, N102_, H102, G102⟩ := id V1
    have hin102 : ¬ ((Int32.ofNat i) < 0 ∨ cl102.slots.size ≤ ((Int32.ofNat i)).toNatClampNeg) := inb_of S102 ⟨oi_nn (by omega), oi_lt (by omega) (by omega) (by omega)⟩
    refine Go.of (fun _ hr => X.caload hx (j := (Int32.ofNat i)) (v := (.int x)) (by rw [eT]; exact Ar102.1) (State.isArrayOf_alike hZ.alike Ar102.2.1) Ar102.2.2 hin102 (H102.at hin102 (by rw [oi_nat (by omega), getD_int, hxe])) (g := (mkF m 12 #[.val (.ref a1), .val (.int (Int32.ofNat i)), .val (.ref a2), .val (.int (Int32.ofNat i)), .val (.int (Int32.ofNat cs.length)), .val (.int (Int32.ofNat i)), s6] [(.int (Int32.ofNat i)), (.ref a1)])) rfl rfl (hb hby d6_12) _ hr) ?_
    show Go p e s below _ _ _ _ T (mkF m 13 #[.val (.ref a1), .val (.int (Int32.ofNat i)), .val (.ref a2), .val (.int (Int32.ofNat i)), .val (.int (Int32.ofNat cs.length)), .val (.int (Int32.ofNat i)), s6] [(.int x)])
    refine Go.of (fun _ hr => XS.istore X.here hx rfl (hb hby d6_13) rfl (l' := #[.val (.ref a1), .val (.int (Int32.ofNat i)), .val (.ref a2), .val (.int (Int32.ofNat i)), .val (.int (Int32.ofNat cs.length)), .val (.int (Int32.ofNat i)), .val (.int x)]) (own_st6 one6) hr) ?_
    show Go p e s below _ _ _ _ T (mkF m 15 #[.val (.ref a1), .val (.int (Int32.ofNat i)), .val (.ref a2), .val (.int (Int32.ofNat i)), .val (.int (Int32.ofNat cs.length)), .val (.int (Int32.ofNat i)), .val (.int x)] [])
    refine Go.of (fun _ hr => XS.iload X.here hx rfl (hb hby d6_15) rfl  hr) ?_
    show Go p e s below _ _ _ _ T (mkF m 17 #[.val (.ref a1), .val (.int (Int32.ofNat i)), .val (.ref a2), .val (.int (Int32.ofNat i)), .val (.int (Int32.ofNat cs.length)), .val (.int (Int32.ofNat i)), .val (.int x)] [(.int x)])
    refine Go.of (fun _ hr => XS.sipush X.here hx rfl (hb hby d6_17) hr) ?_
    show Go p e s below _ _ _ _ T (mkF m 20 #[.val (.ref a1), .val (.int (Int32.ofNat i)), .val (.ref a2), .val (.int (Int32.ofNat i)), .val (.int (Int32.ofNat cs.length)), .val (.int (Int32.ofNat i)), .val (.int x)] [(.int (255 : Int32)), (.int x)])
    refine Go.of (fun _ hr => XS.icmpYes X.here hx rfl (pc0 := 20) (pc' := 26) rfl (hb hby d6_20) rfl (flt (hxe ▸ hlt i (by omega))).2.2.2 (by decide) (by decide) hr) ?_
    show Go p e s below _ _ _ _ T (mkF m 26 #[.val (.ref a1), .val (.int (Int32.ofNat i)), .val (.ref a2), .val (.int (Int32.ofNat i)), .val (.int (Int32.ofNat cs.length)), .val (.int (Int32.ofNat i)), .val (.int x)] [])
    refine Go.of (fun _ hr => XS.aloadN X.here hx rfl (hb hby d6_26) rfl rfl hr) ?_
    show Go p e s below _ _ _ _ T (mkF m 27 #[.val (.ref a1), .val (.int (Int32.ofNat i)), .val (.ref a2), .val (.int (Int32.ofNat i)), .val (.int (Int32.ofNat cs.length)), .val (.int (Int32.ofNat i)), .val (.int x)] [(.ref a2)])
    refine Go.of (fun _ hr => XS.iloadN X.here hx rfl (hb hby d6_27) rfl  hr) ?_
    show Go p e s below _ _ _ _ T (mkF m 28 #[.val (.ref a1), .val (.int (Int32.ofNat i)), .val (.ref a2), .val (.int (Int32.ofNat i)), .val (.int (Int32.ofNat cs.length)), .val (.int (Int32.ofNat i)), .val (.int x)] [(.int (Int32.ofNat i)), (.ref a2)])
    refine Go.of (fun _ hr => XS.iload X.here hx rfl (hb hby d6_28) rfl  hr) ?_
    show Go p e s below _ _ _ _ T (mkF m 30 #[.val (.ref a1), .val (.int (Int32.ofNat i)), .val (.ref a2), .val (.int (Int32.ofNat i)), .val (.int (Int32.ofNat cs.length)), .val (.int (Int32.ofNat i)), .val (.int x)] [(.int x), (.int (Int32.ofNat i)), (.ref a2)])
    refine Go.of (fun _ hr => XS.i2b X.here hx rfl (hb hby d6_30) rfl hr) ?_
    show Go p e s below _ _ _ _ T (mkF m 31 #[.val (.ref a1), .val (.int (Int32.ofNat i)), .val (.ref a2), .val (.int (Int32.ofNat i)), .val (.int (Int32.ofNat cs.length)), .val (.int (Int32.ofNat i)), .val (.int x)] [(.int (x.toInt8.toInt32)), (.int (Int32.ofNat i)), (.ref a2)])
    obtain ⟨cl103, Ar103, q103, S103, N103_, H103, G103⟩ := id V2
    have hin103 : ¬ (Int32.ofNat i < 0 ∨ cl103.slots.size ≤ (Int32.ofNat i).toNatClampNeg) := inb_of S103 ⟨oi_nn (by omega), oi_lt (by omega) (by omega) (by omega)⟩
    obtain ⟨T103, h103, X103, e103, W103, st103⟩ := stB X hx hZ eT Ar103 (j := Int32.ofNat i) hin103 (g := (mkF m 31 #[.val (.ref a1), .val (.int (Int32.ofNat i)), .val (.ref a2), .val (.int (Int32.ofNat i)), .val (.int (Int32.ofNat cs.length)), .val (.int (Int32.ofNat i)), .val (.int x)] [(.int (x.toInt8.toInt32)), (.int (Int32.ofNat i)), (.ref a2)])) rfl rfl (hb hby d6_31)
    rw [nar_b] at W103
    have V103 : Arv Z h103 a2 k2 .byte (Int32.ofNat cs.length) ((cs.take (i + 1)).map fun x => Value.int (lo8 x)) (.int 0) := by
        have q := own_push V2 W103 (by rw [oi_nat (by omega)]; simp; omega) (fits_b x)
        rw [← hxe, take_push cs (show i < cs.length by omega) (fun x => Value.int (lo8 x))] at q; exact q
    have N103 := Fr.snoc X103 N0 fr_a2
    have J103 := J0.wr W103 hm_a2
    have B103 := B0.mono (Nat.le_of_eq W103.size.symm)
    have O103 := O0.wr W103 (Nat.le_trans hb0 fr_a2)
    have K103 := K0.wr W103 (Or.inl (List.mem_of_getElem? (i := 0) rfl))
    refine Go.of (fun _ hr => st103 _ hr) ?_
    show Go p e s below _ _ _ _ T103 (mkF m 32 #[.val (.ref a1), .val (.int (Int32.ofNat i)), .val (.ref a2), .val (.int (Int32.ofNat i)), .val (.int (Int32.ofNat cs.length)), .val (.int (Int32.ofNat i)), .val (.int x)] [])
    refine Go.of (fun _ hr => XS.iinc X103.here hx rfl (hb hby d6_32) rfl (l' := #[.val (.ref a1), .val (.int ((Int32.ofNat i) + (1 : Int32))), .val (.ref a2), .val (.int (Int32.ofNat i)), .val (.int (Int32.ofNat cs.length)), .val (.int (Int32.ofNat i)), .val (.int x)]) rfl hr) ?_
    show Go p e s below _ _ _ _ T103 (mkF m 35 #[.val (.ref a1), .val (.int ((Int32.ofNat i) + (1 : Int32))), .val (.ref a2), .val (.int (Int32.ofNat i)), .val (.int (Int32.ofNat cs.length)), .val (.int (Int32.ofNat i)), .val (.int x)] [])
    refine Go.of (fun _ hr => XS.iinc X103.here hx rfl (hb hby d6_35) rfl (l' := #[.val (.ref a1), .val (.int ((Int32.ofNat i) + (1 : Int32))), .val (.ref a2), .val (.int ((Int32.ofNat i) + (1 : Int32))), .val (.int (Int32.ofNat cs.length)), .val (.int (Int32.ofNat i)), .val (.int x)]) rfl hr) ?_
    show Go p e s below _ _ _ _ T103 (mkF m 38 #[.val (.ref a1), .val (.int ((Int32.ofNat i) + (1 : Int32))), .val (.ref a2), .val (.int ((Int32.ofNat i) + (1 : Int32))), .val (.int (Int32.ofNat cs.length)), .val (.int (Int32.ofNat i)), .val (.int x)] [])
    refine Go.of (fun _ hr => XS.iinc X103.here hx rfl (hb hby d6_38) rfl (l' := #[.val (.ref a1), .val (.int ((Int32.ofNat i) + (1 : Int32))), .val (.ref a2), .val (.int ((Int32.ofNat i) + (1 : Int32))), .val (.int (Int32.ofNat cs.length)), .val (.int ((Int32.ofNat i) + (1 : Int32))), .val (.int x)]) rfl hr) ?_
    show Go p e s below _ _ _ _ T103 (mkF m 41 #[.val (.ref a1), .val (.int ((Int32.ofNat i) + (1 : Int32))), .val (.ref a2), .val (.int ((Int32.ofNat i) + (1 : Int32))), .val (.int (Int32.ofNat cs.length)), .val (.int ((Int32.ofNat i) + (1 : Int32))), .val (.int x)] [])
    refine Go.of (fun _ hr => XS.goto X103.here hx rfl (pc0 := 41) (pc' := 3) rfl (hb hby d6_41) (by decide) (by decide) hr) ?_
    show Go p e s below _ _ _ _ T103 (mkF m 3 #[.val (.ref a1), .val (.int ((Int32.ofNat i) + (1 : Int32))), .val (.ref a2), .val (.int ((Int32.ofNat i) + (1 : Int32))), .val (.int (Int32.ofNat cs.length)), .val (.int ((Int32.ofNat i) + (1 : Int32))), .val (.int x)] [])
    simp only [oi_succ (show i + 1 < 2147483648 by omega)]
    have f104 := (V1.other W103 ne12)
    exact ih (i + 1) (by omega) T103 h103 _ _ _ _ (One.val rfl) X103 e103 O103 N103 K103 J103 B103 f104 V103 hK hN

theorem pn0 : plainName "java/lang/StringUTF16" = true := by first | (simp [plainName, overriddenIn]; done) | decide +kernel
theorem d6_0 : decode jdk_52_method_21_code 0 = .ok (.iconst 0, 1) := by decide +kernel
theorem d6_1 : decode jdk_52_method_21_code 1 = .ok (.istore 5, 2) := by decide +kernel
set_option maxRecDepth 65536 in
set_option maxHeartbeats 40000000 in
theorem rm6 (l : Launch) (Z : State) (a0 : Array Value) (hw : ∀ d ∈ tables_1, d.before a0 Z = true) (ws : List Jvm.Cond) (a1 a2 : Addr) (k1 k2 : ClassId) (cs : List Int32) (j : Nat) (ms : List Addr) (h0 : Heap) (n0 : Nat) (O0 : Old Z n0 h0) (nb : Nat) (hb0 : n0 ≤ nb) (hnb : nb ≤ h0.size) (fr_a2 : nb ≤ a2) (hm_a2 : a2 ∈ ms) (hn : cs.length ≤ 5) (hr : ∀ x ∈ cs, rng16 x) (hj : j ≤ cs.length) (hlt : ∀ i, i < j → ¬ 255 < cs.getD i 0) (hend : j = cs.length ∨ 255 < cs.getD j 0) (ne12 : a1 ≠ a2) (V1 : Arv Z h0 a1 k1 .char (Int32.ofNat cs.length) (cs.map Value.int) (.int 0)) (V2 : Arv Z h0 a2 k2 .byte (Int32.ofNat cs.length) [] (.int 0)) :
    Con l Z ms (⟨"java/lang/StringUTF16", "compress", "([CI[BII)I"⟩ : MethodName) jdk_52_method_21_code 7 (some .int) ws ({ frames := 0, cells := 0, slots := 0, locals := 0 } : Room) #[(.ref a1), (.int (0 : Int32)), (.ref a2), (.int (0 : Int32)), (.int (Int32.ofNat cs.length))] h0 (fun v vm h L => v = some (.int (Int32.ofNat j)) ∧ Fr nb L ∧ Keep h0 h [a2] ∧ Arv Z h a2 k2 .byte (Int32.ofNat cs.length) ((cs.take j).map fun x => Value.int (lo8 x)) (.int 0)) := by
  refine Con.mk (plainFor_of_name pn0) ?_
  intro p e s m below meth c s₁ Cc X0 e0 eb J0 B0 M0
  obtain ⟨hx, hZ, hown, hby, hml, hnm, hret, hlk⟩ := id Cc
  have N0 := Fr.nil nb
  have K0 := Keep.refl h0 [a2]
  show Go p e s below _ _ _ _ s₁ (mkF m 0 #[.val (.ref a1), .val (.int (0 : Int32)), .val (.ref a2), .val (.int (0 : Int32)), .val (.int (Int32.ofNat cs.length)), .unset, .unset] [])
  refine Go.of (fun _ hr => XS.iconst X0.here hx rfl (hb hby d6_0) hr) ?_
  show Go p e s below _ _ _ _ s₁ (mkF m 1 #[.val (.ref a1), .val (.int (0 : Int32)), .val (.ref a2), .val (.int (0 : Int32)), .val (.int (Int32.ofNat cs.length)), .unset, .unset] [(.int (0 : Int32))])
  refine Go.of (fun _ hr => XS.istore X0.here hx rfl (hb hby d6_1) rfl (l' := #[.val (.ref a1), .val (.int (0 : Int32)), .val (.ref a2), .val (.int (0 : Int32)), .val (.int (Int32.ofNat cs.length)), .val (.int (0 : Int32)), .unset]) rfl hr) ?_
  show Go p e s below _ _ _ _ s₁ (mkF m 3 #[.val (.ref a1), .val (.int (0 : Int32)), .val (.ref a2), .val (.int (0 : Int32)), .val (.int (Int32.ofNat cs.length)), .val (.int (0 : Int32)), .unset] [])
  exact cloopU Cc a1 a2 k1 k2 cs j hn hr hj hlt hend ne12 hb0 hnb fr_a2 hm_a2 (fun vm h L q1 q2 q3 => ⟨rfl, q2, q1, q3⟩) j 0 (Nat.zero_add _) s₁ h0 _ _ _ _ One.u X0 e0 O0 N0 K0 J0 B0 V1 V2 (by decide) (by decide)

theorem oi_big {i : Nat} (h : i ≤ 1000) : Int32.ofNat i < (1073741823 : Int32) := by
  rw [Int32.lt_iff_toInt_lt, oi_toInt (by omega), show (1073741823 : Int32).toInt = 1073741823 from by decide]; omega

theorem d31_0 : decode jdk_52_method_3_code 0 = .ok (.iload_n 0, 1) := by decide +kernel
theorem d31_1 : decode jdk_52_method_3_code 1 = .ok (.ifCond .ge 11, 3) := by decide +kernel
theorem d31_12 : decode jdk_52_method_3_code 12 = .ok (.iload_n 0, 1) := by decide +kernel
theorem d31_13 : decode jdk_52_method_3_code 13 = .ok (.ldc 20, 2) := by decide +kernel
theorem d31_15 : decode jdk_52_method_3_code 15 = .ok (.if_icmp .lt 40, 3) := by decide +kernel
theorem d31_55 : decode jdk_52_method_3_code 55 = .ok (.iload_n 0, 1) := by decide +kernel
theorem d31_56 : decode jdk_52_method_3_code 56 = .ok (.iconst 1, 1) := by decide +kernel
theorem d31_57 : decode jdk_52_method_3_code 57 = .ok (.ishl, 1) := by decide +kernel
theorem d31_58 : decode jdk_52_method_3_code 58 = .ok (.ireturn, 1) := by decide +kernel
set_option maxRecDepth 65536 in
set_option maxHeartbeats 40000000 in
theorem rm31 (l : Launch) (Z : State) (a0 : Array Value) (hw : ∀ d ∈ tables_1, d.before a0 Z = true) (ws : List Jvm.Cond) (i : Nat) (ms : List Addr) (h0 : Heap) (n0 : Nat) (O0 : Old Z n0 h0) (nb : Nat) (hb0 : n0 ≤ nb) (hnb : nb ≤ h0.size) (hi : i ≤ 1000) :
    Con l Z ms (⟨"java/lang/StringUTF16", "newBytesLength", "(I)I"⟩ : MethodName) jdk_52_method_3_code 1 (some .int) ws ({ frames := 0, cells := 0, slots := 0, locals := 0 } : Room) #[(.int (Int32.ofNat i))] h0 (fun v vm h L => v = some (.int (Int32.ofNat (2 * i))) ∧ Fr nb L ∧ h = h0) := by
  refine Con.mk (plainFor_of_name pn0) ?_
  intro p e s m below meth c s₁ Cc X0 e0 eb J0 B0 M0
  obtain ⟨hx, hZ, hown, hby, hml, hnm, hret, hlk⟩ := id Cc
  have N0 := Fr.nil h0.size
  have K0 := Keep.refl h0 []
  show Go p e s below _ _ _ _ s₁ (mkF m 0 #[.val (.int (Int32.ofNat i))] [])
  refine Go.of (fun _ hr => XS.iloadN X0.here hx rfl (hb hby d31_0) rfl  hr) ?_
  show Go p e s below _ _ _ _ s₁ (mkF m 1 #[.val (.int (Int32.ofNat i))] [(.int (Int32.ofNat i))])
  refine Go.of (fun _ hr => XS.ifYes X0.here hx rfl (pc0 := 1) (pc' := 12) rfl (hb hby d31_1) rfl ((if0 _ _).trans (flt (oi_nn (by omega))).2.1) (by decide) (by decide) hr) ?_
  show Go p e s below _ _ _ _ s₁ (mkF m 12 #[.val (.int (Int32.ofNat i))] [])
  refine Go.of (fun _ hr => XS.iloadN X0.here hx rfl (hb hby d31_12) rfl  hr) ?_
  show Go p e s below _ _ _ _ s₁ (mkF m 13 #[.val (.int (Int32.ofNat i))] [(.int (Int32.ofNat i))])
  refine Go.of (fun _ hr => X0.ldcInt hx hown (mvT hZ (hw _ (List.mem_of_getElem? (i := 150) rfl))) (g := (mkF m 13 #[.val (.int (Int32.ofNat i))] [(.int (Int32.ofNat i))])) rfl (hb hby d31_13) _ hr) ?_
  show Go p e s below _ _ _ _ s₁ (mkF m 15 #[.val (.int (Int32.ofNat i))] [(.int (1073741823 : Int32)), (.int (Int32.ofNat i))])
  refine Go.of (fun _ hr => XS.icmpYes X0.here hx rfl (pc0 := 15) (pc' := 55) rfl (hb hby d31_15) rfl (tlt (oi_big hi)).1 (by decide) (by decide) hr) ?_
  show Go p e s below _ _ _ _ s₁ (mkF m 55 #[.val (.int (Int32.ofNat i))] [])
  refine Go.of (fun _ hr => XS.iloadN X0.here hx rfl (hb hby d31_55) rfl  hr) ?_
  show Go p e s below _ _ _ _ s₁ (mkF m 56 #[.val (.int (Int32.ofNat i))] [(.int (Int32.ofNat i))])
  refine Go.of (fun _ hr => XS.iconst X0.here hx rfl (hb hby d31_56) hr) ?_
  show Go p e s below _ _ _ _ s₁ (mkF m 57 #[.val (.int (Int32.ofNat i))] [(.int (1 : Int32)), (.int (Int32.ofNat i))])
  refine Go.of (fun _ hr => XS.ishl X0.here hx rfl (hb hby d31_57) rfl hr) ?_
  show Go p e s below _ _ _ _ s₁ (mkF m 58 #[.val (.int (Int32.ofNat i))] [(.int ((Int32.ofNat i) <<< ((1 : Int32) &&& 31)))])
  rw [oi_shl1 (by omega)]
  show Go p e s below _ _ _ _ s₁ (mkF m 58 #[.val (.int (Int32.ofNat i))] [(.int (Int32.ofNat (2 * i)))])
  exact Go.retI X0 hx hlk B0 J0 e0 hret (hb hby d31_58) (by decide) (by decide) (fun vm_ hw_ => ⟨rfl, (fun y hy => Nat.le_trans hnb (N0 y hy)), rfl⟩)

theorem d30_0 : decode jdk_52_method_2_code 0 = .ok (.iload_n 0, 1) := by decide +kernel
theorem d30_1 : decode jdk_52_method_2_code 1 = .ok (.invokestatic 11, 3) := by decide +kernel
theorem pd0 : parseMethodDescriptor "(I)I" = some ⟨[.int], some .int⟩ := by decide +kernel
theorem d30_4 : decode jdk_52_method_2_code 4 = .ok (.newarray .byte, 2) := by decide +kernel
theorem d30_6 : decode jdk_52_method_2_code 6 = .ok (.areturn, 1) := by decide +kernel
set_option maxRecDepth 65536 in
set_option maxHeartbeats 40000000 in
theorem rm30 (l : Launch) (Z : State) (a0 : Array Value) (hw : ∀ d ∈ tables_1, d.before a0 Z = true) (ws : List Jvm.Cond) (i : Nat) (ms : List Addr) (h0 : Heap) (n0 : Nat) (O0 : Old Z n0 h0) (nb : Nat) (hb0 : n0 ≤ nb) (hnb : nb ≤ h0.size) (hi : i ≤ 5) :
    Con l Z ms (⟨"java/lang/StringUTF16", "newBytesFor", "(I)[B"⟩ : MethodName) jdk_52_method_2_code 1 (some (.array .byte)) ws ({ frames := 1, cells := 1, slots := 10, locals := 12 } : Room) #[(.int (Int32.ofNat i))] h0 (fun v vm h L => ∃ d k, v = some (.ref d) ∧ Fr nb L ∧ Ext h0 h ∧ h0.size ≤ d ∧ Arv Z h d k .byte (Int32.ofNat (2 * i)) [] (.int 0) ∧ Hd Z (d :: ms) vm h) := by
  refine Con.mk (plainFor_of_name pn0) ?_
  intro p e s m below meth c s₁ Cc X0 e0 eb J0 B0 M0
  obtain ⟨hx, hZ, hown, hby, hml, hnm, hret, hlk⟩ := id Cc
  have N0 := Fr.nil h0.size
  have K0 := Keep.refl h0 []
  show Go p e s below _ _ _ _ s₁ (mkF m 0 #[.val (.int (Int32.ofNat i))] [])
  refine Go.of (fun _ hr => XS.iloadN X0.here hx rfl (hb hby d30_0) rfl  hr) ?_
  show Go p e s below _ _ _ _ s₁ (mkF m 1 #[.val (.int (Int32.ofNat i))] [(.int (Int32.ofNat i))])
  obtain ⟨_, b101, T101, h101, L101, e101, Cc101, X101, B101, J101, g101, hQ101, st101⟩ := own_callS Cc B0 J0 X0 (hw _ (List.mem_of_getElem? (i := 147) rfl)) (hw _ (List.mem_of_getElem? (i := 148) rfl)) (hw _ (List.mem_of_getElem? (i := 22) rfl)) (hw _ (List.mem_of_getElem? (i := 149) rfl)) (by decide) (rm31 l Z a0 hw [] i _ h0 n0 O0 h0.size (own_ole O0) K0.1 (by omega)) e0 (g := (mkF m 1 #[.val (.int (Int32.ofNat i))] [(.int (Int32.ofNat i))])) rfl (by rw [hml]; rfl) (argsL := [(.int (Int32.ofNat i))]) (rest := []) (lenOf pd0 rfl) rfl (W := 0) (by show 2 * 0 + _ ≤ _; exact Nat.le_of_eq rfl) (hb hby d30_1) (by decide) (by decide) (by decide) (by decide)
  obtain ⟨rfl, Nq101, hh101⟩ := hQ101
  have N101 := Fr.app N0 Nq101
  obtain ⟨hx, hZ, hown, hby, hml, hnm, hret, hlk⟩ := id Cc101
  rw [hh101] at e101 B101 J101
  refine Go.of st101 ?_
  show Go p e s below _ _ _ _ T101 (mkF m 4 #[.val (.int (Int32.ofNat i))] [(.int (Int32.ofNat (2 * i)))])
  obtain ⟨T102, h102, k102, X102, e102, E102, A102, st102⟩ := newP X101 hx hZ (hw _ (List.mem_of_getElem? (i := 24) rfl)) e101 (g := (mkF m 4 #[.val (.int (Int32.ofNat i))] [(.int (Int32.ofNat (2 * i)))])) rfl (hb hby d30_4) rfl (oi_nn (by omega)) (cap := 10) (by rw [oi_nat (by omega)]; omega) (by decide) (by decide) (by decide)
  obtain ⟨o102, g102⟩ : ∃ z, z = h0.size := ⟨_, rfl⟩
  rw [← g102] at A102 st102
  have V102 := Arv.new A102 (oi_nn (by omega))
  have lt102 : o102 < h102.size := A102.lt
  have J102 := J101.add E102 g102 lt102
  have B102 := B101.mono E102.1
  have O102 := O0.ext E102
  have sz102 : h0.size ≤ o102 := Nat.le_trans K0.1 (Nat.le_of_eq g102.symm)
  have fr102 : h0.size ≤ o102 := sz102
  have K102 := K0.ext E102
  refine Go.of (fun _ hr => st102 _ hr) ?_
  show Go p e s below _ _ _ _ T102 (mkF m 6 #[.val (.int (Int32.ofNat i))] [(.ref o102)])
  exact Go.retA X102 hx hlk B102 (J102.sub fun x hx => (List.mem_cons_of_mem _ hx)) e102 hret rfl rfl (hb hby d30_6) (by decide) (by decide) (fun vm_ hw_ => ⟨_, _, rfl, (fun y hy => Nat.le_trans hnb (N101 y hy)), keep_ext K102, sz102, V102, J102.warm hw_⟩)

theorem d32_0 : decode jdk_52_method_4_code 0 = .ok (.getstatic 44, 3) := by decide +kernel
theorem d32_3 : decode jdk_52_method_4_code 3 = .ok (.ifCond .ne 25, 3) := by decide +kernel
theorem d32_28 : decode jdk_52_method_4_code 28 = .ok (.iload_n 1, 1) := by decide +kernel
theorem d32_29 : decode jdk_52_method_4_code 29 = .ok (.iconst 1, 1) := by decide +kernel
theorem d32_30 : decode jdk_52_method_4_code 30 = .ok (.ishl, 1) := by decide +kernel
theorem d32_31 : decode jdk_52_method_4_code 31 = .ok (.istore_n 1, 1) := by decide +kernel
theorem d32_32 : decode jdk_52_method_4_code 32 = .ok (.aload_n 0, 1) := by decide +kernel
theorem d32_33 : decode jdk_52_method_4_code 33 = .ok (.iload_n 1, 1) := by decide +kernel
theorem d32_34 : decode jdk_52_method_4_code 34 = .ok (.iinc 1 1, 3) := by decide +kernel
theorem d32_37 : decode jdk_52_method_4_code 37 = .ok (.iload_n 2, 1) := by decide +kernel
theorem d32_38 : decode jdk_52_method_4_code 38 = .ok (.getstatic 59, 3) := by decide +kernel
theorem d32_41 : decode jdk_52_method_4_code 41 = .ok (.ishr, 1) := by decide +kernel
theorem d32_42 : decode jdk_52_method_4_code 42 = .ok (.i2b, 1) := by decide +kernel
theorem d32_43 : decode jdk_52_method_4_code 43 = .ok (.bastore, 1) := by decide +kernel
theorem d32_44 : decode jdk_52_method_4_code 44 = .ok (.aload_n 0, 1) := by decide +kernel
theorem d32_45 : decode jdk_52_method_4_code 45 = .ok (.iload_n 1, 1) := by decide +kernel
theorem d32_46 : decode jdk_52_method_4_code 46 = .ok (.iload_n 2, 1) := by decide +kernel
theorem d32_47 : decode jdk_52_method_4_code 47 = .ok (.getstatic 63, 3) := by decide +kernel
theorem d32_50 : decode jdk_52_method_4_code 50 = .ok (.ishr, 1) := by decide +kernel
theorem d32_51 : decode jdk_52_method_4_code 51 = .ok (.i2b, 1) := by decide +kernel
theorem d32_52 : decode jdk_52_method_4_code 52 = .ok (.bastore, 1) := by decide +kernel
theorem d32_53 : decode jdk_52_method_4_code 53 = .ok (.return_, 1) := by decide +kernel
set_option maxRecDepth 65536 in
set_option maxHeartbeats 40000000 in
theorem rm32 (l : Launch) (Z : State) (a0 : Array Value) (hw : ∀ d ∈ tables_1, d.before a0 Z = true) (ws : List Jvm.Cond) (a1 : Addr) (k1 : ClassId) (us : List Int32) (q i : Nat) (c1 : Int32) (ms : List Addr) (h0 : Heap) (n0 : Nat) (O0 : Old Z n0 h0) (nb : Nat) (hb0 : n0 ≤ nb) (hnb : nb ≤ h0.size) (fr_a1 : nb ≤ a1) (hm_a1 : a1 ∈ ms) (S_D : Sta Z Z.heap "java/lang/StringUTF16" "$assertionsDisabled" "Z" (.int 1)) (S_H : Sta Z Z.heap "java/lang/StringUTF16" "HI_BYTE_SHIFT" "I" (.int 0)) (S_L : Sta Z Z.heap "java/lang/StringUTF16" "LO_BYTE_SHIFT" "I" (.int 8)) (hq : q ≤ 1000) (hi : i < q) (hu : us.length = 2 * i) (V1 : Arv Z h0 a1 k1 .byte (Int32.ofNat (2 * q)) (us.map Value.int) (.int 0)) :
    Con l Z ms (⟨"java/lang/StringUTF16", "putChar", "([BII)V"⟩ : MethodName) jdk_52_method_4_code 3 none ws ({ frames := 0, cells := 0, slots := 0, locals := 0 } : Room) #[(.ref a1), (.int (Int32.ofNat i)), (.int c1)] h0 (fun v vm h L => v = none ∧ Fr nb L ∧ Keep h0 h [a1] ∧ Arv Z h a1 k1 .byte (Int32.ofNat (2 * q)) ((us ++ [lo8 c1, hi8 c1]).map Value.int) (.int 0)) := by
  refine Con.mk (plainFor_of_name pn0) ?_
  intro p e s m below meth c s₁ Cc X0 e0 eb J0 B0 M0
  obtain ⟨hx, hZ, hown, hby, hml, hnm, hret, hlk⟩ := id Cc
  have N0 := Fr.nil nb
  have K0 := Keep.refl h0 [a1]
  show Go p e s below _ _ _ _ s₁ (mkF m 0 #[.val (.ref a1), .val (.int (Int32.ofNat i)), .val (.int c1)] [])
  obtain ⟨T101, X101, e101, st101⟩ := getS2 X0 hx hZ hown (host := "") (Or.inl (hw _ (List.mem_of_getElem? (i := 154) rfl))) Via.refl e0 (S_D.ext O0.2) (g := (mkF m 0 #[.val (.ref a1), .val (.int (Int32.ofNat i)), .val (.int c1)] [])) rfl (hb hby d32_0)
  refine Go.of (fun _ hr => st101 _ hr) ?_
  show Go p e s below _ _ _ _ T101 (mkF m 3 #[.val (.ref a1), .val (.int (Int32.ofNat i)), .val (.int c1)] [(.int (1 : Int32))])
  refine Go.of (fun _ hr => XS.ifYes X101.here hx rfl (pc0 := 3) (pc' := 28) rfl (hb hby d32_3) rfl ((if0 _ _).trans (feq (by decide : ¬ ((1 : Int32) = (0 : Int32)))).2) (by decide) (by decide) hr) ?_
  show Go p e s below _ _ _ _ T101 (mkF m 28 #[.val (.ref a1), .val (.int (Int32.ofNat i)), .val (.int c1)] [])
  refine Go.of (fun _ hr => XS.iloadN X101.here hx rfl (hb hby d32_28) rfl  hr) ?_
  show Go p e s below _ _ _ _ T101 (mkF m 29 #[.val (.ref a1), .val (.int (Int32.ofNat i)), .val (.int c1)] [(.int (Int32.ofNat i))])
  refine Go.of (fun _ hr => XS.iconst X101.here hx rfl (hb hby d32_29) hr) ?_
  show Go p e s below _ _ _ _ T101 (mkF m 30 #[.val (.ref a1), .val (.int (Int32.ofNat i)), .val (.int c1)] [(.int (1 : Int32)), (.int (Int32.ofNat i))])
  refine Go.of (fun _ hr => XS.ishl X101.here hx rfl (hb hby d32_30) rfl hr) ?_
  show Go p e s below _ _ _ _ T101 (mkF m 31 #[.val (.ref a1), .val (.int (Int32.ofNat i)), .val (.int c1)] [(.int ((Int32.ofNat i) <<< ((1 : Int32) &&& 31)))])
  rw [oi_shl1 (by omega)]
  show Go p e s below _ _ _ _ T101 (mkF m 31 #[.val (.ref a1), .val (.int (Int32.ofNat i)), .val (.int c1)] [(.int (Int32.ofNat (2 * i)))])
  refine Go.of (fun _ hr => XS.istoreN X101.here hx rfl (hb hby d32_31) rfl (l' := #[.val (.ref a1), .val (.int (Int32.ofNat (2 * i))), .val (.int c1)]) rfl hr) ?_
  show Go p e s below _ _ _ _ T101 (mkF m 32 #[.val (.ref a1), .val (.int (Int32.ofNat (2 * i))), .val (.int c1)] [])
  refine Go.of (fun _ hr => XS.aloadN X101.here hx rfl (hb hby d32_32) rfl rfl hr) ?_
  show Go p e s below _ _ _ _ T101 (mkF m 33 #[.val (.ref a1), .val (.int (Int32.ofNat (2 * i))), .val (.int c1)] [(.ref a1)])
  refine Go.of (fun _ hr => XS.iloadN X101.here hx rfl (hb hby d32_33) rfl  hr) ?_
  show Go p e s below _ _ _ _ T101 (mkF m 34 #[.val (.ref a1), .val (.int (Int32.ofNat (2 * i))), .val (.int c1)] [(.int (Int32.ofNat (2 * i))), (.ref a1)])
  refine Go.of (fun _ hr => XS.iinc X101.here hx rfl (hb hby d32_34) rfl (l' := #[.val (.ref a1), .val (.int ((Int32.ofNat (2 * i)) + (1 : Int32))), .val (.int c1)]) rfl hr) ?_
  show Go p e s below _ _ _ _ T101 (mkF m 37 #[.val (.ref a1), .val (.int ((Int32.ofNat (2 * i)) + (1 : Int32))), .val (.int c1)] [(.int (Int32.ofNat (2 * i))), (.ref a1)])
  simp only [oi_succ (show 2 * i + 1 < 2147483648 by omega)]
  show Go p e s below _ _ _ _ T101 (mkF m 37 #[.val (.ref a1), .val (.int (Int32.ofNat (2 * i + 1))), .val (.int c1)] [(.int (Int32.ofNat (2 * i))), (.ref a1)])
  refine Go.of (fun _ hr => XS.iloadN X101.here hx rfl (hb hby d32_37) rfl  hr) ?_
  show Go p e s below _ _ _ _ T101 (mkF m 38 #[.val (.ref a1), .val (.int (Int32.ofNat (2 * i + 1))), .val (.int c1)] [(.int c1), (.int (Int32.ofNat (2 * i))), (.ref a1)])
  obtain ⟨T102, X102, e102, st102⟩ := getS2 X101 hx hZ hown (host := "") (Or.inl (hw _ (List.mem_of_getElem? (i := 155) rfl))) Via.refl e101 (S_H.ext O0.2) (g := (mkF m 38 #[.val (.ref a1), .val (.int (Int32.ofNat (2 * i + 1))), .val (.int c1)] [(.int c1), (.int (Int32.ofNat (2 * i))), (.ref a1)])) rfl (hb hby d32_38)
  refine Go.of (fun _ hr => st102 _ hr) ?_
  show Go p e s below _ _ _ _ T102 (mkF m 41 #[.val (.ref a1), .val (.int (Int32.ofNat (2 * i + 1))), .val (.int c1)] [(.int (0 : Int32)), (.int c1), (.int (Int32.ofNat (2 * i))), (.ref a1)])
  refine Go.of (fun _ hr => XS.ishr X102.here hx rfl (hb hby d32_41) rfl hr) ?_
  show Go p e s below _ _ _ _ T102 (mkF m 42 #[.val (.ref a1), .val (.int (Int32.ofNat (2 * i + 1))), .val (.int c1)] [(.int (c1 >>> ((0 : Int32) &&& 31))), (.int (Int32.ofNat (2 * i))), (.ref a1)])
  rw [own_sh0]
  show Go p e s below _ _ _ _ T102 (mkF m 42 #[.val (.ref a1), .val (.int (Int32.ofNat (2 * i + 1))), .val (.int c1)] [(.int c1), (.int (Int32.ofNat (2 * i))), (.ref a1)])
  refine Go.of (fun _ hr => XS.i2b X102.here hx rfl (hb hby d32_42) rfl hr) ?_
  show Go p e s below _ _ _ _ T102 (mkF m 43 #[.val (.ref a1), .val (.int (Int32.ofNat (2 * i + 1))), .val (.int c1)] [(.int (c1.toInt8.toInt32)), (.int (Int32.ofNat (2 * i))), (.ref a1)])
  obtain ⟨cl103, Ar103, q103, S103, N103_, H103, G103⟩ := id V1
  have hin103 : ¬ ((Int32.ofNat (2 * i)) < 0 ∨ cl103.slots.size ≤ ((Int32.ofNat (2 * i))).toNatClampNeg) := inb_of S103 ⟨oi_nn (by omega), oi_lt (by omega) (by omega) (by omega)⟩
  obtain ⟨T103, h103, X103, e103, W103, st103⟩ := stB X102 hx hZ e102 Ar103 (j := (Int32.ofNat (2 * i))) hin103 (g := (mkF m 43 #[.val (.ref a1), .val (.int (Int32.ofNat (2 * i + 1))), .val (.int c1)] [(.int (c1.toInt8.toInt32)), (.int (Int32.ofNat (2 * i))), (.ref a1)])) rfl rfl (hb hby d32_43)
  rw [nar_b] at W103
  have V103 : Arv Z h103 a1 k1 .byte (Int32.ofNat (2 * q)) ((us ++ [lo8 c1]).map Value.int) (.int 0) := by have q := own_push V1 W103 (by rw [oi_nat (by omega)]; rw [List.length_map]; omega) (fits_b c1); rw [push1] at q; exact q
  have N103 := Fr.snoc X103 N0 fr_a1
  have J103 := J0.wr W103 hm_a1
  have B103 := B0.mono (Nat.le_of_eq W103.size.symm)
  have O103 := O0.wr W103 (Nat.le_trans hb0 fr_a1)
  have K103 := K0.wr W103 (Or.inl (List.mem_of_getElem? (i := 0) rfl))
  refine Go.of (fun _ hr => st103 _ hr) ?_
  show Go p e s below _ _ _ _ T103 (mkF m 44 #[.val (.ref a1), .val (.int (Int32.ofNat (2 * i + 1))), .val (.int c1)] [])
  refine Go.of (fun _ hr => XS.aloadN X103.here hx rfl (hb hby d32_44) rfl rfl hr) ?_
  show Go p e s below _ _ _ _ T103 (mkF m 45 #[.val (.ref a1), .val (.int (Int32.ofNat (2 * i + 1))), .val (.int c1)] [(.ref a1)])
  refine Go.of (fun _ hr => XS.iloadN X103.here hx rfl (hb hby d32_45) rfl  hr) ?_
  show Go p e s below _ _ _ _ T103 (mkF m 46 #[.val (.ref a1), .val (.int (Int32.ofNat (2 * i + 1))), .val (.int c1)] [(.int (Int32.ofNat (2 * i + 1))), (.ref a1)])
  refine Go.of (fun _ hr => XS.iloadN X103.here hx rfl (hb hby d32_46) rfl  hr) ?_
  show Go p e s below _ _ _ _ T103 (mkF m 47 #[.val (.ref a1), .val (.int (Int32.ofNat (2 * i + 1))), .val (.int c1)] [(.int c1), (.int (Int32.ofNat (2 * i + 1))), (.ref a1)])
  obtain ⟨T104, X104, e104, st104⟩ := getS2 X103 hx hZ hown (host := "") (Or.inl (hw _ (List.mem_of_getElem? (i := 156) rfl))) Via.refl e103 (S_L.ext O103.2) (g := (mkF m 47 #[.val (.ref a1), .val (.int (Int32.ofNat (2 * i + 1))), .val (.int c1)] [(.int c1), (.int (Int32.ofNat (2 * i + 1))), (.ref a1)])) rfl (hb hby d32_47)
  refine Go.of (fun _ hr => st104 _ hr) ?_
  show Go p e s below _ _ _ _ T104 (mkF m 50 #[.val (.ref a1), .val (.int (Int32.ofNat (2 * i + 1))), .val (.int c1)] [(.int (8 : Int32)), (.int c1), (.int (Int32.ofNat (2 * i + 1))), (.ref a1)])
  refine Go.of (fun _ hr => XS.ishr X104.here hx rfl (hb hby d32_50) rfl hr) ?_
  show Go p e s below _ _ _ _ T104 (mkF m 51 #[.val (.ref a1), .val (.int (Int32.ofNat (2 * i + 1))), .val (.int c1)] [(.int (c1 >>> ((8 : Int32) &&& 31))), (.int (Int32.ofNat (2 * i + 1))), (.ref a1)])
  refine Go.of (fun _ hr => XS.i2b X104.here hx rfl (hb hby d32_51) rfl hr) ?_
  show Go p e s below _ _ _ _ T104 (mkF m 52 #[.val (.ref a1), .val (.int (Int32.ofNat (2 * i + 1))), .val (.int c1)] [(.int ((c1 >>> ((8 : Int32) &&& 31)).toInt8.toInt32)), (.int (Int32.ofNat (2 * i + 1))), (.ref a1)])
  obtain ⟨cl105, Ar105, q105, S105, N105_, H105, G105⟩ := id V103
  have hin105 : ¬ ((Int32.ofNat (2 * i + 1)) < 0 ∨ cl105.slots.size ≤ ((Int32.ofNat (2 * i + 1))).toNatClampNeg) := inb_of S105 ⟨oi_nn (by omega), oi_lt (by omega) (by omega) (by omega)⟩
  obtain ⟨T105, h105, X105, e105, W105, st105⟩ := stB X104 hx hZ e104 Ar105 (j := (Int32.ofNat (2 * i + 1))) hin105 (g := (mkF m 52 #[.val (.ref a1), .val (.int (Int32.ofNat (2 * i + 1))), .val (.int c1)] [(.int ((c1 >>> ((8 : Int32) &&& 31)).toInt8.toInt32)), (.int (Int32.ofNat (2 * i + 1))), (.ref a1)])) rfl rfl (hb hby d32_52)
  rw [nar_b] at W105
  have V105 : Arv Z h105 a1 k1 .byte (Int32.ofNat (2 * q)) ((us ++ [lo8 c1, hi8 c1]).map Value.int) (.int 0) := by have q := own_push V103 W105 (by rw [oi_nat (by omega)]; rw [List.length_map, List.length_append, List.length_singleton]; omega) (fits_b _); rw [push2] at q; exact q
  have N105 := Fr.snoc X105 N103 fr_a1
  have J105 := J103.wr W105 hm_a1
  have B105 := B103.mono (Nat.le_of_eq W105.size.symm)
  have O105 := O103.wr W105 (Nat.le_trans hb0 fr_a1)
  have K105 := K103.wr W105 (Or.inl (List.mem_of_getElem? (i := 0) rfl))
  refine Go.of (fun _ hr => st105 _ hr) ?_
  show Go p e s below _ _ _ _ T105 (mkF m 53 #[.val (.ref a1), .val (.int (Int32.ofNat (2 * i + 1))), .val (.int c1)] [])
  exact Go.retV X105 hx hlk B105 J105 e105 hret (hb hby d32_53) (by decide) (by decide) (fun vm_ hw_ => ⟨rfl, N105, K105, V105⟩)

theorem d33_0 : decode jdk_52_method_5_code 0 = .ok (.getstatic 44, 3) := by decide +kernel
theorem d33_3 : decode jdk_52_method_5_code 3 = .ok (.ifCond .ne 25, 3) := by decide +kernel
theorem d33_28 : decode jdk_52_method_5_code 28 = .ok (.iload_n 1, 1) := by decide +kernel
theorem d33_29 : decode jdk_52_method_5_code 29 = .ok (.iconst 1, 1) := by decide +kernel
theorem d33_30 : decode jdk_52_method_5_code 30 = .ok (.ishl, 1) := by decide +kernel
theorem d33_31 : decode jdk_52_method_5_code 31 = .ok (.istore_n 1, 1) := by decide +kernel
theorem d33_32 : decode jdk_52_method_5_code 32 = .ok (.aload_n 0, 1) := by decide +kernel
theorem d33_33 : decode jdk_52_method_5_code 33 = .ok (.iload_n 1, 1) := by decide +kernel
theorem d33_34 : decode jdk_52_method_5_code 34 = .ok (.iinc 1 1, 3) := by decide +kernel
theorem d33_37 : decode jdk_52_method_5_code 37 = .ok (.baload, 1) := by decide +kernel
theorem d33_38 : decode jdk_52_method_5_code 38 = .ok (.sipush 255, 3) := by decide +kernel
theorem d33_41 : decode jdk_52_method_5_code 41 = .ok (.iand, 1) := by decide +kernel
theorem d33_42 : decode jdk_52_method_5_code 42 = .ok (.getstatic 59, 3) := by decide +kernel
theorem d33_45 : decode jdk_52_method_5_code 45 = .ok (.ishl, 1) := by decide +kernel
theorem d33_46 : decode jdk_52_method_5_code 46 = .ok (.aload_n 0, 1) := by decide +kernel
theorem d33_47 : decode jdk_52_method_5_code 47 = .ok (.iload_n 1, 1) := by decide +kernel
theorem d33_48 : decode jdk_52_method_5_code 48 = .ok (.baload, 1) := by decide +kernel
theorem d33_49 : decode jdk_52_method_5_code 49 = .ok (.sipush 255, 3) := by decide +kernel
theorem d33_52 : decode jdk_52_method_5_code 52 = .ok (.iand, 1) := by decide +kernel
theorem d33_53 : decode jdk_52_method_5_code 53 = .ok (.getstatic 63, 3) := by decide +kernel
theorem d33_56 : decode jdk_52_method_5_code 56 = .ok (.ishl, 1) := by decide +kernel
theorem d33_57 : decode jdk_52_method_5_code 57 = .ok (.ior, 1) := by decide +kernel
theorem d33_58 : decode jdk_52_method_5_code 58 = .ok (.i2c, 1) := by decide +kernel
theorem d33_59 : decode jdk_52_method_5_code 59 = .ok (.ireturn, 1) := by decide +kernel
set_option maxRecDepth 65536 in
set_option maxHeartbeats 40000000 in
theorem rm33 (l : Launch) (Z : State) (a0 : Array Value) (hw : ∀ d ∈ tables_1, d.before a0 Z = true) (ws : List Jvm.Cond) (t1 : Addr) (k1 : ClassId) (us : List Int32) (q i : Nat) (ms : List Addr) (h0 : Heap) (n0 : Nat) (O0 : Old Z n0 h0) (nb : Nat) (hb0 : n0 ≤ nb) (hnb : nb ≤ h0.size) (S_D : Sta Z Z.heap "java/lang/StringUTF16" "$assertionsDisabled" "Z" (.int 1)) (S_H : Sta Z Z.heap "java/lang/StringUTF16" "HI_BYTE_SHIFT" "I" (.int 0)) (S_L : Sta Z Z.heap "java/lang/StringUTF16" "LO_BYTE_SHIFT" "I" (.int 8)) (hq : q ≤ 1000) (hi : i < q) (V1 : Arv Z h0 t1 k1 .byte (Int32.ofNat (2 * q)) (us.map Value.int) (.int 0)) :
    Con l Z ms (⟨"java/lang/StringUTF16", "getChar", "([BI)C"⟩ : MethodName) jdk_52_method_5_code 2 (some .char) ws ({ frames := 0, cells := 0, slots := 0, locals := 0 } : Room) #[(.ref t1), (.int (Int32.ofNat i))] h0 (fun v vm h L => v = some (.int (ch16 (us.getD (2 * i) 0) (us.getD (2 * i + 1) 0))) ∧ Fr nb L ∧ h = h0) := by
  refine Con.mk (plainFor_of_name pn0) ?_
  intro p e s m below meth c s₁ Cc X0 e0 eb J0 B0 M0
  obtain ⟨hx, hZ, hown, hby, hml, hnm, hret, hlk⟩ := id Cc
  have N0 := Fr.nil h0.size
  have K0 := Keep.refl h0 []
  show Go p e s below _ _ _ _ s₁ (mkF m 0 #[.val (.ref t1), .val (.int (Int32.ofNat i))] [])
  obtain ⟨T101, X101, e101, st101⟩ := getS2 X0 hx hZ hown (host := "") (Or.inl (hw _ (List.mem_of_getElem? (i := 154) rfl))) Via.refl e0 (S_D.ext O0.2) (g := (mkF m 0 #[.val (.ref t1), .val (.int (Int32.ofNat i))] [])) rfl (hb hby d33_0)
  refine Go.of (fun _ hr => st101 _ hr) ?_
  show Go p e s below _ _ _ _ T101 (mkF m 3 #[.val (.ref t1), .val (.int (Int32.ofNat i))] [(.int (1 : Int32))])
  refine Go.of (fun _ hr => XS.ifYes X101.here hx rfl (pc0 := 3) (pc' := 28) rfl (hb hby d33_3) rfl ((if0 _ _).trans (feq (by decide : ¬ ((1 : Int32) = (0 : Int32)))).2) (by decide) (by decide) hr) ?_
  show Go p e s below _ _ _ _ T101 (mkF m 28 #[.val (.ref t1), .val (.int (Int32.ofNat i))] [])
  refine Go.of (fun _ hr => XS.iloadN X101.here hx rfl (hb hby d33_28) rfl  hr) ?_
  show Go p e s below _ _ _ _ T101 (mkF m 29 #[.val (.ref t1), .val (.int (Int32.ofNat i))] [(.int (Int32.ofNat i))])
  refine Go.of (fun _ hr => XS.iconst X101.here hx rfl (hb hby d33_29) hr) ?_
  show Go p e s below _ _ _ _ T101 (mkF m 30 #[.val (.ref t1), .val (.int (Int32.ofNat i))] [(.int (1 : Int32)), (.int (Int32.ofNat i))])
  refine Go.of (fun _ hr => XS.ishl X101.here hx rfl (hb hby d33_30) rfl hr) ?_
  show Go p e s below _ _ _ _ T101 (mkF m 31 #[.val (.ref t1), .val (.int (Int32.ofNat i))] [(.int ((Int32.ofNat i) <<< ((1 : Int32) &&& 31)))])
  rw [oi_shl1 (by omega)]
  show Go p e s below _ _ _ _ T101 (mkF m 31 #[.val (.ref t1), .val (.int (Int32.ofNat i))] [(.int (Int32.ofNat (2 * i)))])
  refine Go.of (fun _ hr => XS.istoreN X101.here hx rfl (hb hby d33_31) rfl (l' := #[.val (.ref t1), .val (.int (Int32.ofNat (2 * i)))]) rfl hr) ?_
  show Go p e s below _ _ _ _ T101 (mkF m 32 #[.val (.ref t1), .val (.int (Int32.ofNat (2 * i)))] [])
  refine Go.of (fun _ hr => XS.aloadN X101.here hx rfl (hb hby d33_32) rfl rfl hr) ?_
  show Go p e s below _ _ _ _ T101 (mkF m 33 #[.val (.ref t1), .val (.int (Int32.ofNat (2 * i)))] [(.ref t1)])
  refine Go.of (fun _ hr => XS.iloadN X101.here hx rfl (hb hby d33_33) rfl  hr) ?_
  show Go p e s below _ _ _ _ T101 (mkF m 34 #[.val (.ref t1), .val (.int (Int32.ofNat (2 * i)))] [(.int (Int32.ofNat (2 * i))), (.ref t1)])
  refine Go.of (fun _ hr => XS.iinc X101.here hx rfl (hb hby d33_34) rfl (l' := #[.val (.ref t1), .val (.int ((Int32.ofNat (2 * i)) + (1 : Int32)))]) rfl hr) ?_
  show Go p e s below _ _ _ _ T101 (mkF m 37 #[.val (.ref t1), .val (.int ((Int32.ofNat (2 * i)) + (1 : Int32)))] [(.int (Int32.ofNat (2 * i))), (.ref t1)])
  simp only [oi_succ (show 2 * i + 1 < 2147483648 by omega)]
  show Go p e s below _ _ _ _ T101 (mkF m 37 #[.val (.ref t1), .val (.int (Int32.ofNat (2 * i + 1)))] [(.int (Int32.ofNat (2 * i))), (.ref t1)])
  obtain ⟨cl102, Ar102, q102, S102, N102_, H102, G102⟩ := id V1
  have hin102 : ¬ ((Int32.ofNat (2 * i)) < 0 ∨ cl102.slots.size ≤ ((Int32.ofNat (2 * i))).toNatClampNeg) := inb_of S102 ⟨oi_nn (by omega), oi_lt (by omega) (by omega) (by omega)⟩
  refine Go.of (fun _ hr => X101.baloadBytes hx (j := (Int32.ofNat (2 * i))) (v := (.int (us.getD (2 * i) 0))) (by rw [e101]; exact Ar102.1) (State.isArrayOf_alike hZ.alike Ar102.2.1) Ar102.2.2 hin102 (H102.at hin102 (by rw [oi_nat (by omega), getD_int])) (g := (mkF m 37 #[.val (.ref t1), .val (.int (Int32.ofNat (2 * i + 1)))] [(.int (Int32.ofNat (2 * i))), (.ref t1)])) rfl rfl (hb hby d33_37) _ hr) ?_
  show Go p e s below _ _ _ _ T101 (mkF m 38 #[.val (.ref t1), .val (.int (Int32.ofNat (2 * i + 1)))] [(.int (us.getD (2 * i) 0))])
  refine Go.of (fun _ hr => XS.sipush X101.here hx rfl (hb hby d33_38) hr) ?_
  show Go p e s below _ _ _ _ T101 (mkF m 41 #[.val (.ref t1), .val (.int (Int32.ofNat (2 * i + 1)))] [(.int (255 : Int32)), (.int (us.getD (2 * i) 0))])
  refine Go.of (fun _ hr => XS.iand X101.here hx rfl (hb hby d33_41) rfl hr) ?_
  show Go p e s below _ _ _ _ T101 (mkF m 42 #[.val (.ref t1), .val (.int (Int32.ofNat (2 * i + 1)))] [(.int ((us.getD (2 * i) 0) &&& (255 : Int32)))])
  obtain ⟨T103, X103, e103, st103⟩ := getS2 X101 hx hZ hown (host := "") (Or.inl (hw _ (List.mem_of_getElem? (i := 155) rfl))) Via.refl e101 (S_H.ext O0.2) (g := (mkF m 42 #[.val (.ref t1), .val (.int (Int32.ofNat (2 * i + 1)))] [(.int ((us.getD (2 * i) 0) &&& (255 : Int32)))])) rfl (hb hby d33_42)
  refine Go.of (fun _ hr => st103 _ hr) ?_
  show Go p e s below _ _ _ _ T103 (mkF m 45 #[.val (.ref t1), .val (.int (Int32.ofNat (2 * i + 1)))] [(.int (0 : Int32)), (.int ((us.getD (2 * i) 0) &&& (255 : Int32)))])
  refine Go.of (fun _ hr => XS.ishl X103.here hx rfl (hb hby d33_45) rfl hr) ?_
  show Go p e s below _ _ _ _ T103 (mkF m 46 #[.val (.ref t1), .val (.int (Int32.ofNat (2 * i + 1)))] [(.int (((us.getD (2 * i) 0) &&& (255 : Int32)) <<< ((0 : Int32) &&& 31)))])
  refine Go.of (fun _ hr => XS.aloadN X103.here hx rfl (hb hby d33_46) rfl rfl hr) ?_
  show Go p e s below _ _ _ _ T103 (mkF m 47 #[.val (.ref t1), .val (.int (Int32.ofNat (2 * i + 1)))] [(.ref t1), (.int (((us.getD (2 * i) 0) &&& (255 : Int32)) <<< ((0 : Int32) &&& 31)))])
  refine Go.of (fun _ hr => XS.iloadN X103.here hx rfl (hb hby d33_47) rfl  hr) ?_
  show Go p e s below _ _ _ _ T103 (mkF m 48 #[.val (.ref t1), .val (.int (Int32.ofNat (2 * i + 1)))] [(.int (Int32.ofNat (2 * i + 1))), (.ref t1), (.int (((us.getD (2 * i) 0) &&& (255 : Int32)) <<< ((0 : Int32) &&& 31)))])
  obtain ⟨cl104, Ar104, q104, S104, N104_, H104, G104⟩ := id V1
  have hin104 : ¬ ((Int32.ofNat (2 * i + 1)) < 0 ∨ cl104.slots.size ≤ ((Int32.ofNat (2 * i + 1))).toNatClampNeg) := inb_of S104 ⟨oi_nn (by omega), oi_lt (by omega) (by omega) (by omega)⟩
  refine Go.of (fun _ hr => X103.baloadBytes hx (j := (Int32.ofNat (2 * i + 1))) (v := (.int (us.getD (2 * i + 1) 0))) (by rw [e103]; exact Ar104.1) (State.isArrayOf_alike hZ.alike Ar104.2.1) Ar104.2.2 hin104 (H104.at hin104 (by rw [oi_nat (by omega), getD_int])) (g := (mkF m 48 #[.val (.ref t1), .val (.int (Int32.ofNat (2 * i + 1)))] [(.int (Int32.ofNat (2 * i + 1))), (.ref t1), (.int (((us.getD (2 * i) 0) &&& (255 : Int32)) <<< ((0 : Int32) &&& 31)))])) rfl rfl (hb hby d33_48) _ hr) ?_
  show Go p e s below _ _ _ _ T103 (mkF m 49 #[.val (.ref t1), .val (.int (Int32.ofNat (2 * i + 1)))] [(.int (us.getD (2 * i + 1) 0)), (.int (((us.getD (2 * i) 0) &&& (255 : Int32)) <<< ((0 : Int32) &&& 31)))])
  refine Go.of (fun _ hr => XS.sipush X103.here hx rfl (hb hby d33_49) hr) ?_
  show Go p e s below _ _ _ _ T103 (mkF m 52 #[.val (.ref t1), .val (.int (Int32.ofNat (2 * i + 1)))] [(.int (255 : Int32)), (.int (us.getD (2 * i + 1) 0)), (.int (((us.getD (2 * i) 0) &&& (255 : Int32)) <<< ((0 : Int32) &&& 31)))])
  refine Go.of (fun _ hr => XS.iand X103.here hx rfl (hb hby d33_52) rfl hr) ?_
  show Go p e s below _ _ _ _ T103 (mkF m 53 #[.val (.ref t1), .val (.int (Int32.ofNat (2 * i + 1)))] [(.int ((us.getD (2 * i + 1) 0) &&& (255 : Int32))), (.int (((us.getD (2 * i) 0) &&& (255 : Int32)) <<< ((0 : Int32) &&& 31)))])
  obtain ⟨T105, X105, e105, st105⟩ := getS2 X103 hx hZ hown (host := "") (Or.inl (hw _ (List.mem_of_getElem? (i := 156) rfl))) Via.refl e103 (S_L.ext O0.2) (g := (mkF m 53 #[.val (.ref t1), .val (.int (Int32.ofNat (2 * i + 1)))] [(.int ((us.getD (2 * i + 1) 0) &&& (255 : Int32))), (.int (((us.getD (2 * i) 0) &&& (255 : Int32)) <<< ((0 : Int32) &&& 31)))])) rfl (hb hby d33_53)
  refine Go.of (fun _ hr => st105 _ hr) ?_
  show Go p e s below _ _ _ _ T105 (mkF m 56 #[.val (.ref t1), .val (.int (Int32.ofNat (2 * i + 1)))] [(.int (8 : Int32)), (.int ((us.getD (2 * i + 1) 0) &&& (255 : Int32))), (.int (((us.getD (2 * i) 0) &&& (255 : Int32)) <<< ((0 : Int32) &&& 31)))])
  refine Go.of (fun _ hr => XS.ishl X105.here hx rfl (hb hby d33_56) rfl hr) ?_
  show Go p e s below _ _ _ _ T105 (mkF m 57 #[.val (.ref t1), .val (.int (Int32.ofNat (2 * i + 1)))] [(.int (((us.getD (2 * i + 1) 0) &&& (255 : Int32)) <<< ((8 : Int32) &&& 31))), (.int (((us.getD (2 * i) 0) &&& (255 : Int32)) <<< ((0 : Int32) &&& 31)))])
  refine Go.of (fun _ hr => XS.ior X105.here hx rfl (hb hby d33_57) rfl hr) ?_
  show Go p e s below _ _ _ _ T105 (mkF m 58 #[.val (.ref t1), .val (.int (Int32.ofNat (2 * i + 1)))] [(.int ((((us.getD (2 * i) 0) &&& (255 : Int32)) <<< ((0 : Int32) &&& 31)) ||| (((us.getD (2 * i + 1) 0) &&& (255 : Int32)) <<< ((8 : Int32) &&& 31))))])
  refine Go.of (fun _ hr => XS.i2c X105.here hx rfl (hb hby d33_58) rfl hr) ?_
  show Go p e s below _ _ _ _ T105 (mkF m 59 #[.val (.ref t1), .val (.int (Int32.ofNat (2 * i + 1)))] [(.int (((((us.getD (2 * i) 0) &&& (255 : Int32)) <<< ((0 : Int32) &&& 31)) ||| (((us.getD (2 * i + 1) 0) &&& (255 : Int32)) <<< ((8 : Int32) &&& 31))).toUInt32.toUInt16.toUInt32.toInt32))])
  exact Go.retN X105 hx hlk B0 J0 e105 (t := .char) (z' := (ch16 (us.getD (2 * i) 0) (us.getD (2 * i + 1) 0))) hret (by simp) (hb hby d33_59) (own_c16 _) (by decide) (by decide) (fun vm_ hw_ => ⟨rfl, (fun y hy => Nat.le_trans hnb (N0 y hy)), rfl⟩)

theorem d29_8 : decode jdk_52_method_14_code 8 = .ok (.iload 4, 2) := by decide +kernel
theorem d29_10 : decode jdk_52_method_14_code 10 = .ok (.iload_n 2, 1) := by decide +kernel
theorem d29_11 : decode jdk_52_method_14_code 11 = .ok (.if_icmp .ge 21, 3) := by decide +kernel
theorem d29_32 : decode jdk_52_method_14_code 32 = .ok (.aload_n 3, 1) := by decide +kernel
theorem d29_33 : decode jdk_52_method_14_code 33 = .ok (.areturn, 1) := by decide +kernel
theorem d29_14 : decode jdk_52_method_14_code 14 = .ok (.aload_n 3, 1) := by decide +kernel
theorem d29_15 : decode jdk_52_method_14_code 15 = .ok (.iload 4, 2) := by decide +kernel
theorem d29_17 : decode jdk_52_method_14_code 17 = .ok (.aload_n 0, 1) := by decide +kernel
theorem d29_18 : decode jdk_52_method_14_code 18 = .ok (.iload_n 1, 1) := by decide +kernel
theorem d29_19 : decode jdk_52_method_14_code 19 = .ok (.caload, 1) := by decide +kernel
theorem d29_20 : decode jdk_52_method_14_code 20 = .ok (.invokestatic 111, 3) := by decide +kernel
theorem pd1 : parseMethodDescriptor "([BII)V" = some ⟨[(.array .byte), .int, .int], none⟩ := by decide +kernel
theorem d29_23 : decode jdk_52_method_14_code 23 = .ok (.iinc 1 1, 3) := by decide +kernel
theorem d29_26 : decode jdk_52_method_14_code 26 = .ok (.iinc 4 1, 3) := by decide +kernel
theorem d29_29 : decode jdk_52_method_14_code 29 = .ok (.goto (-21), 3) := by decide +kernel
set_option maxRecDepth 65536 in
set_option maxHeartbeats 40000000 in
theorem tbloop {l : Launch} {Z : State} {a0 : Array Value} (hw : ∀ d ∈ tables_1, d.before a0 Z = true) {p : Program} {e : Env} {s : State} {m : MethodId} {args : Array Value} {below : List Frame} {meth : Method} {c : Code} {Q : Option Value → Vm → Heap → List Loc → Prop} {ms : List Addr} {h0 : Heap} {n0 nb : Nat} (hb0 : n0 ≤ nb) (hnb : nb ≤ h0.size) (a1 d : Addr) (k1 kd : ClassId) (cs : List Int32) (S_D : Sta Z Z.heap "java/lang/StringUTF16" "$assertionsDisabled" "Z" (.int 1)) (S_H : Sta Z Z.heap "java/lang/StringUTF16" "HI_BYTE_SHIFT" "I" (.int 0)) (S_L : Sta Z Z.heap "java/lang/StringUTF16" "LO_BYTE_SHIFT" "I" (.int 8)) (hn : cs.length ≤ 5) (ne12 : a1 ≠ d) (fr_d : nb ≤ d)
    (hQ : ∀ vm h L, Keep h0 h [d] → Fr nb L → Arv Z h d kd .byte (Int32.ofNat (2 * cs.length)) ((utf cs).map Value.int) (.int 0) → Q (some (.ref d)) vm h L) :
    ∀ (r i : Nat), i + r = cs.length → ∀ (b T : State) (h : Heap) (locs : List Loc), Cx Z p b m meth c "java/lang/StringUTF16" jdk_52_method_14_code 5 "toBytes" (some (.array .byte)) → Stand p l e ({ frames := 2, cells := 1, slots := 10, locals := 24 } : Room) b m args below meth c T locs 1 10 → T.heap = h → Old Z n0 h → Fr nb locs → Keep h0 h [d] → Hd Z (d :: ms) b.vm h → Bs s b h → Arv Z h a1 k1 .char (Int32.ofNat cs.length) (cs.map Value.int) (.int 0) → Arv Z h d kd .byte (Int32.ofNat (2 * cs.length)) ((utf (cs.take i)).map Value.int) (.int 0) →
      Go p e s below 1 10 (Hd Z ms) Q T (mkF m 8 #[.val (.ref a1), .val (.int (Int32.ofNat i)), .val (.int (Int32.ofNat cs.length)), .val (.ref d), .val (.int (Int32.ofNat i))] []) := by
  intro r
  induction r with
  | zero =>
    intro i hi b T h locs Cc X eT O0 N0 K0 J0 B0 V1 V2
    obtain ⟨hx, hZ, hown, hby, hml, hnm, hret, hlk⟩ := id Cc
    show Go p e s below _ _ _ _ T (mkF m 8 #[.val (.ref a1), .val (.int (Int32.ofNat i)), .val (.int (Int32.ofNat cs.length)), .val (.ref d), .val (.int (Int32.ofNat i))] [])
    refine Go.of (fun _ hr => XS.iload X.here hx rfl (hb hby d29_8) rfl  hr) ?_
    show Go p e s below _ _ _ _ T (mkF m 10 #[.val (.ref a1), .val (.int (Int32.ofNat i)), .val (.int (Int32.ofNat cs.length)), .val (.ref d), .val (.int (Int32.ofNat i))] [(.int (Int32.ofNat i))])
    refine Go.of (fun _ hr => XS.iloadN X.here hx rfl (hb hby d29_10) rfl  hr) ?_
    show Go p e s below _ _ _ _ T (mkF m 11 #[.val (.ref a1), .val (.int (Int32.ofNat i)), .val (.int (Int32.ofNat cs.length)), .val (.ref d), .val (.int (Int32.ofNat i))] [(.int (Int32.ofNat cs.length)), (.int (Int32.ofNat i))])
    refine Go.of (fun _ hr => XS.icmpYes X.here hx rfl (pc0 := 11) (pc' := 32) rfl (hb hby d29_11) rfl (flt (oi_nlt (by omega) (by omega) (by omega))).2.1 (by decide) (by decide) hr) ?_
    show Go p e s below _ _ _ _ T (mkF m 32 #[.val (.ref a1), .val (.int (Int32.ofNat i)), .val (.int (Int32.ofNat cs.length)), .val (.ref d), .val (.int (Int32.ofNat i))] [])
    refine Go.of (fun _ hr => XS.aloadN X.here hx rfl (hb hby d29_32) rfl rfl hr) ?_
    show Go p e s below _ _ _ _ T (mkF m 33 #[.val (.ref a1), .val (.int (Int32.ofNat i)), .val (.int (Int32.ofNat cs.length)), .val (.ref d), .val (.int (Int32.ofNat i))] [(.ref d)])
    exact Go.retA X hx hlk B0 (J0.sub fun x hx => (List.mem_cons_of_mem _ hx)) eT hret rfl rfl (hb hby d29_33) (by decide) (by decide) (fun vm_ hw_ => hQ _ _ _ K0 N0 (by have q := V2; rw [show i = cs.length by omega, List.take_length] at q; exact q))
  | succ r ih =>
    intro i hi b T h locs Cc X eT O0 N0 K0 J0 B0 V1 V2
    obtain ⟨hx, hZ, hown, hby, hml, hnm, hret, hlk⟩ := id Cc
    show Go p e s below _ _ _ _ T (mkF m 8 #[.val (.ref a1), .val (.int (Int32.ofNat i)), .val (.int (Int32.ofNat cs.length)), .val (.ref d), .val (.int (Int32.ofNat i))] [])
    refine Go.of (fun _ hr => XS.iload X.here hx rfl (hb hby d29_8) rfl  hr) ?_
    show Go p e s below _ _ _ _ T (mkF m 10 #[.val (.ref a1), .val (.int (Int32.ofNat i)), .val (.int (Int32.ofNat cs.length)), .val (.ref d), .val (.int (Int32.ofNat i))] [(.int (Int32.ofNat i))])
    refine Go.of (fun _ hr => XS.iloadN X.here hx rfl (hb hby d29_10) rfl  hr) ?_
    show Go p e s below _ _ _ _ T (mkF m 11 #[.val (.ref a1), .val (.int (Int32.ofNat i)), .val (.int (Int32.ofNat cs.length)), .val (.ref d), .val (.int (Int32.ofNat i))] [(.int (Int32.ofNat cs.length)), (.int (Int32.ofNat i))])
    refine Go.of (fun _ hr => XS.icmpNo X.here hx rfl (hb hby d29_11) rfl (tlt (oi_lt (by omega) (by omega) (by omega))).2.1 hr) ?_
    show Go p e s below _ _ _ _ T (mkF m 14 #[.val (.ref a1), .val (.int (Int32.ofNat i)), .val (.int (Int32.ofNat cs.length)), .val (.ref d), .val (.int (Int32.ofNat i))] [])
    refine Go.of (fun _ hr => XS.aloadN X.here hx rfl (hb hby d29_14) rfl rfl hr) ?_
    show Go p e s below _ _ _ _ T (mkF m 15 #[.val (.ref a1), .val (.int (Int32.ofNat i)), .val (.int (Int32.ofNat cs.length)), .val (.ref d), .val (.int (Int32.ofNat i))] [(.ref d)])
    refine Go.of (fun _ hr => XS.iload X.here hx rfl (hb hby d29_15) rfl  hr) ?_
    show Go p e s below _ _ _ _ T (mkF m 17 #[.val (.ref a1), .val (.int (Int32.ofNat i)), .val (.int (Int32.ofNat cs.length)), .val (.ref d), .val (.int (Int32.ofNat i))] [(.int (Int32.ofNat i)), (.ref d)])
    refine Go.of (fun _ hr => XS.aloadN X.here hx rfl (hb hby d29_17) rfl rfl hr) ?_
    show Go p e s below _ _ _ _ T (mkF m 18 #[.val (.ref a1), .val (.int (Int32.ofNat i)), .val (.int (Int32.ofNat cs.length)), .val (.ref d), .val (.int (Int32.ofNat i))] [(.ref a1), (.int (Int32.ofNat i)), (.ref d)])
    refine Go.of (fun _ hr => XS.iloadN X.here hx rfl (hb hby d29_18) rfl  hr) ?_
    show Go p e s below _ _ _ _ T (mkF m 19 #[.val (.ref a1), .val (.int (Int32.ofNat i)), .val (.int (Int32.ofNat cs.length)), .val (.ref d), .val (.int (Int32.ofNat i))] [(.int (Int32.ofNat i)), (.ref a1), (.int (Int32.ofNat i)), (.ref d)])
    obtain ⟨x, hxe⟩ : ∃ x, cs.getD i 0 = x := ⟨_, rfl⟩
    obtain ⟨cl101, Ar101, q101, S101, N101_, H101, G101⟩ := id V1
    have hin101 : ¬ ((Int32.ofNat i) < 0 ∨ cl101.slots.size ≤ ((Int32.ofNat i)).toNatClampNeg) := inb_of S101 ⟨oi_nn (by omega), oi_lt (by omega) (by omega) (by omega)⟩
    refine Go.of (fun _ hr => X.caload hx (j := (Int32.ofNat i)) (v := (.int x)) (by rw [eT]; exact Ar101.1) (State.isArrayOf_alike hZ.alike Ar101.2.1) Ar101.2.2 hin101 (H101.at hin101 (by rw [oi_nat (by omega), getD_int, hxe])) (g := (mkF m 19 #[.val (.ref a1), .val (.int (Int32.ofNat i)), .val (.int (Int32.ofNat cs.length)), .val (.ref d), .val (.int (Int32.ofNat i))] [(.int (Int32.ofNat i)), (.ref a1), (.int (Int32.ofNat i)), (.ref d)])) rfl rfl (hb hby d29_19) _ hr) ?_
    show Go p e s below _ _ _ _ T (mkF m 20 #[.val (.ref a1), .val (.int (Int32.ofNat i)), .val (.int (Int32.ofNat cs.length)), .val (.ref d), .val (.int (Int32.ofNat i))] [(.int x), (.int (Int32.ofNat i)), (.ref d)])
    obtain ⟨_, b102, T102, h102, L102, e102, Cc102, X102, B102, J102, g102, hQ102, st102⟩ := own_callS Cc B0 J0 X (hw _ (List.mem_of_getElem? (i := 151) rfl)) (hw _ (List.mem_of_getElem? (i := 152) rfl)) (hw _ (List.mem_of_getElem? (i := 22) rfl)) (hw _ (List.mem_of_getElem? (i := 153) rfl)) (by decide) (rm32 l Z a0 hw [] d _ (utf (cs.take i)) cs.length i x _ h n0 O0 nb hb0 (Nat.le_trans hnb K0.1) fr_d (List.mem_cons_self ..) S_D S_H S_L (by omega) (by omega) (by rw [utf_len, List.length_take]; omega) V2) eT (g := (mkF m 20 #[.val (.ref a1), .val (.int (Int32.ofNat i)), .val (.int (Int32.ofNat cs.length)), .val (.ref d), .val (.int (Int32.ofNat i))] [(.int x), (.int (Int32.ofNat i)), (.ref d)])) rfl (by rw [hml]; rfl) (argsL := [(.ref d), (.int (Int32.ofNat i)), (.int x)]) (rest := []) (lenOf pd1 rfl) rfl (W := 0) (by show 2 * 0 + _ ≤ _; exact Nat.le_of_eq rfl) (hb hby d29_20) (by decide) (by decide) (by decide) (by decide)
    obtain ⟨rfl, Nq102, Kq102, Vp102⟩ := hQ102
    have N102 := Fr.app N0 Nq102
    obtain ⟨hx, hZ, hown, hby, hml, hnm, hret, hlk⟩ := id Cc102
    have K102 := K0.trans Kq102 (allS (Or.inl (List.mem_of_getElem? (i := 0) rfl)) all0)
    have O102 := O0.keep Kq102 (allS (Nat.le_trans hb0 fr_d) all0)
    refine Go.of st102 ?_
    show Go p e s below _ _ _ _ T102 (mkF m 23 #[.val (.ref a1), .val (.int (Int32.ofNat i)), .val (.int (Int32.ofNat cs.length)), .val (.ref d), .val (.int (Int32.ofNat i))] [])
    refine Go.of (fun _ hr => XS.iinc X102.here hx rfl (hb hby d29_23) rfl (l' := #[.val (.ref a1), .val (.int ((Int32.ofNat i) + (1 : Int32))), .val (.int (Int32.ofNat cs.length)), .val (.ref d), .val (.int (Int32.ofNat i))]) rfl hr) ?_
    show Go p e s below _ _ _ _ T102 (mkF m 26 #[.val (.ref a1), .val (.int ((Int32.ofNat i) + (1 : Int32))), .val (.int (Int32.ofNat cs.length)), .val (.ref d), .val (.int (Int32.ofNat i))] [])
    refine Go.of (fun _ hr => XS.iinc X102.here hx rfl (hb hby d29_26) rfl (l' := #[.val (.ref a1), .val (.int ((Int32.ofNat i) + (1 : Int32))), .val (.int (Int32.ofNat cs.length)), .val (.ref d), .val (.int ((Int32.ofNat i) + (1 : Int32)))]) rfl hr) ?_
    show Go p e s below _ _ _ _ T102 (mkF m 29 #[.val (.ref a1), .val (.int ((Int32.ofNat i) + (1 : Int32))), .val (.int (Int32.ofNat cs.length)), .val (.ref d), .val (.int ((Int32.ofNat i) + (1 : Int32)))] [])
    refine Go.of (fun _ hr => XS.goto X102.here hx rfl (pc0 := 29) (pc' := 8) rfl (hb hby d29_29) (by decide) (by decide) hr) ?_
    show Go p e s below _ _ _ _ T102 (mkF m 8 #[.val (.ref a1), .val (.int ((Int32.ofNat i) + (1 : Int32))), .val (.int (Int32.ofNat cs.length)), .val (.ref d), .val (.int ((Int32.ofNat i) + (1 : Int32)))] [])
    simp only [oi_succ (show i + 1 < 2147483648 by omega)]
    have f103 := (V1.keep Kq102 (ninS ne12 nin0))
    exact ih (i + 1) (by omega) _ T102 h102 _ Cc102 X102 e102 O102 N102 K102 J102 B102 f103 (by have q := Vp102; rw [← hxe, utf_take cs (show i < cs.length by omega)] at q; exact q)

theorem d29_0 : decode jdk_52_method_14_code 0 = .ok (.iload_n 2, 1) := by decide +kernel
theorem d29_1 : decode jdk_52_method_14_code 1 = .ok (.invokestatic 107, 3) := by decide +kernel
theorem pd2 : parseMethodDescriptor "(I)[B" = some ⟨[.int], some (.array .byte)⟩ := by decide +kernel
theorem d29_4 : decode jdk_52_method_14_code 4 = .ok (.astore_n 3, 1) := by decide +kernel
theorem d29_5 : decode jdk_52_method_14_code 5 = .ok (.iconst 0, 1) := by decide +kernel
theorem d29_6 : decode jdk_52_method_14_code 6 = .ok (.istore 4, 2) := by decide +kernel
set_option maxRecDepth 65536 in
set_option maxHeartbeats 40000000 in
theorem rm29 (l : Launch) (Z : State) (a0 : Array Value) (hw : ∀ d ∈ tables_1, d.before a0 Z = true) (ws : List Jvm.Cond) (a1 : Addr) (k1 : ClassId) (cs : List Int32) (ms : List Addr) (h0 : Heap) (n0 : Nat) (O0 : Old Z n0 h0) (nb : Nat) (hb0 : n0 ≤ nb) (hnb : nb ≤ h0.size) (S_D : Sta Z Z.heap "java/lang/StringUTF16" "$assertionsDisabled" "Z" (.int 1)) (S_H : Sta Z Z.heap "java/lang/StringUTF16" "HI_BYTE_SHIFT" "I" (.int 0)) (S_L : Sta Z Z.heap "java/lang/StringUTF16" "LO_BYTE_SHIFT" "I" (.int 8)) (hn : cs.length ≤ 5) (V1 : Arv Z h0 a1 k1 .char (Int32.ofNat cs.length) (cs.map Value.int) (.int 0)) :
    Con l Z ms (⟨"java/lang/StringUTF16", "toBytes", "([CII)[B"⟩ : MethodName) jdk_52_method_14_code 5 (some (.array .byte)) ws ({ frames := 2, cells := 1, slots := 10, locals := 24 } : Room) #[(.ref a1), (.int (0 : Int32)), (.int (Int32.ofNat cs.length))] h0 (fun v vm h L => ∃ d k, v = some (.ref d) ∧ Fr nb L ∧ Ext h0 h ∧ h0.size ≤ d ∧ Arv Z h d k .byte (Int32.ofNat (2 * cs.length)) ((utf cs).map Value.int) (.int 0)) := by
  refine Con.mk (plainFor_of_name pn0) ?_
  intro p e s m below meth c s₁ Cc X0 e0 eb J0 B0 M0
  obtain ⟨hx, hZ, hown, hby, hml, hnm, hret, hlk⟩ := id Cc
  have N0 := Fr.nil h0.size
  have K0 := Keep.refl h0 []
  show Go p e s below _ _ _ _ s₁ (mkF m 0 #[.val (.ref a1), .val (.int (0 : Int32)), .val (.int (Int32.ofNat cs.length)), .unset, .unset] [])
  refine Go.of (fun _ hr => XS.iloadN X0.here hx rfl (hb hby d29_0) rfl  hr) ?_
  show Go p e s below _ _ _ _ s₁ (mkF m 1 #[.val (.ref a1), .val (.int (0 : Int32)), .val (.int (Int32.ofNat cs.length)), .unset, .unset] [(.int (Int32.ofNat cs.length))])
  obtain ⟨_, b101, T101, h101, L101, e101, Cc101, X101, B101, J101, g101, hQ101, st101⟩ := own_callS Cc B0 J0 X0 (hw _ (List.mem_of_getElem? (i := 144) rfl)) (hw _ (List.mem_of_getElem? (i := 145) rfl)) (hw _ (List.mem_of_getElem? (i := 22) rfl)) (hw _ (List.mem_of_getElem? (i := 146) rfl)) (by decide) (rm30 l Z a0 hw [] cs.length _ h0 n0 O0 h0.size (own_ole O0) K0.1 hn) e0 (g := (mkF m 1 #[.val (.ref a1), .val (.int (0 : Int32)), .val (.int (Int32.ofNat cs.length)), .unset, .unset] [(.int (Int32.ofNat cs.length))])) rfl (by rw [hml]; rfl) (argsL := [(.int (Int32.ofNat cs.length))]) (rest := []) (lenOf pd2 rfl) rfl (W := 0) (by show 2 * 0 + _ ≤ _; exact Nat.le_of_eq rfl) (hb hby d29_1) (by decide) (by decide) (by decide) (by decide)
  obtain ⟨d101, kd101, rfl, Nq101, Eq101, R_d101, Vd101, Jd101⟩ := hQ101
  have N101 := Fr.app N0 Nq101
  obtain ⟨hx, hZ, hown, hby, hml, hnm, hret, hlk⟩ := id Cc101
  have sz_d101 : h0.size ≤ d101 := Nat.le_trans K0.1 R_d101
  have fr_d101 : h0.size ≤ d101 := sz_d101
  have ne_a1_d101 : a1 ≠ d101 := Nat.ne_of_lt (Nat.lt_of_lt_of_le V1.lt R_d101)
  have K101 := K0.ext Eq101
  have O101 := O0.ext Eq101
  refine Go.of st101 ?_
  show Go p e s below _ _ _ _ T101 (mkF m 4 #[.val (.ref a1), .val (.int (0 : Int32)), .val (.int (Int32.ofNat cs.length)), .unset, .unset] [(.ref d101)])
  refine Go.of (fun _ hr => XS.astoreN X101.here hx rfl (hb hby d29_4) rfl rfl (l' := #[.val (.ref a1), .val (.int (0 : Int32)), .val (.int (Int32.ofNat cs.length)), .val (.ref d101), .unset]) rfl hr) ?_
  show Go p e s below _ _ _ _ T101 (mkF m 5 #[.val (.ref a1), .val (.int (0 : Int32)), .val (.int (Int32.ofNat cs.length)), .val (.ref d101), .unset] [])
  refine Go.of (fun _ hr => XS.iconst X101.here hx rfl (hb hby d29_5) hr) ?_
  show Go p e s below _ _ _ _ T101 (mkF m 6 #[.val (.ref a1), .val (.int (0 : Int32)), .val (.int (Int32.ofNat cs.length)), .val (.ref d101), .unset] [(.int (0 : Int32))])
  refine Go.of (fun _ hr => XS.istore X101.here hx rfl (hb hby d29_6) rfl (l' := #[.val (.ref a1), .val (.int (0 : Int32)), .val (.int (Int32.ofNat cs.length)), .val (.ref d101), .val (.int (0 : Int32))]) rfl hr) ?_
  show Go p e s below _ _ _ _ T101 (mkF m 8 #[.val (.ref a1), .val (.int (0 : Int32)), .val (.int (Int32.ofNat cs.length)), .val (.ref d101), .val (.int (0 : Int32))] [])
  have f102 := (V1.ext Eq101)
  exact tbloop hw (own_ole O0) K101.1 a1 d101 k1 _ cs S_D S_H S_L hn ne_a1_d101 fr_d101 (fun vm h L q1 q2 q3 => ⟨_, _, rfl, fun y hy => Nat.le_trans hnb (q2 y hy), keep_ext (K101.trans q1 (allS (Or.inr sz_d101) all0)), sz_d101, q3⟩) cs.length 0 (Nat.zero_add _) _ _ _ _ Cc101 X101 e101 O101 N101 (Keep.refl _ _) Jd101 B101 f102 Vd101

theorem d5_0 : decode jdk_52_method_16_code 0 = .ok (.iload_n 2, 1) := by decide +kernel
theorem d5_1 : decode jdk_52_method_16_code 1 = .ok (.newarray .byte, 2) := by decide +kernel
theorem d5_3 : decode jdk_52_method_16_code 3 = .ok (.astore_n 3, 1) := by decide +kernel
theorem d5_4 : decode jdk_52_method_16_code 4 = .ok (.aload_n 0, 1) := by decide +kernel
theorem d5_5 : decode jdk_52_method_16_code 5 = .ok (.iload_n 1, 1) := by decide +kernel
theorem d5_6 : decode jdk_52_method_16_code 6 = .ok (.aload_n 3, 1) := by decide +kernel
theorem d5_7 : decode jdk_52_method_16_code 7 = .ok (.iconst 0, 1) := by decide +kernel
theorem d5_8 : decode jdk_52_method_16_code 8 = .ok (.iload_n 2, 1) := by decide +kernel
theorem d5_9 : decode jdk_52_method_16_code 9 = .ok (.invokestatic 115, 3) := by decide +kernel
theorem pd3 : parseMethodDescriptor "([CI[BII)I" = some ⟨[(.array .char), .int, (.array .byte), .int, .int], some .int⟩ := by decide +kernel
theorem d5_12 : decode jdk_52_method_16_code 12 = .ok (.istore 4, 2) := by decide +kernel
theorem d5_14 : decode jdk_52_method_16_code 14 = .ok (.iload 4, 2) := by decide +kernel
theorem d5_16 : decode jdk_52_method_16_code 16 = .ok (.iload_n 2, 1) := by decide +kernel
theorem d5_17 : decode jdk_52_method_16_code 17 = .ok (.if_icmp .eq 40, 3) := by decide +kernel
theorem d5_57 : decode jdk_52_method_16_code 57 = .ok (.aload_n 3, 1) := by decide +kernel
theorem d5_58 : decode jdk_52_method_16_code 58 = .ok (.areturn, 1) := by decide +kernel
theorem d5_20 : decode jdk_52_method_16_code 20 = .ok (.aload_n 0, 1) := by decide +kernel
theorem d5_21 : decode jdk_52_method_16_code 21 = .ok (.iload_n 1, 1) := by decide +kernel
theorem d5_22 : decode jdk_52_method_16_code 22 = .ok (.iload_n 2, 1) := by decide +kernel
theorem d5_23 : decode jdk_52_method_16_code 23 = .ok (.invokestatic 119, 3) := by decide +kernel
theorem pd4 : parseMethodDescriptor "([CII)[B" = some ⟨[(.array .char), .int, .int], some (.array .byte)⟩ := by decide +kernel
theorem d5_26 : decode jdk_52_method_16_code 26 = .ok (.astore 5, 2) := by decide +kernel
theorem d5_28 : decode jdk_52_method_16_code 28 = .ok (.aload 5, 2) := by decide +kernel
theorem d5_30 : decode jdk_52_method_16_code 30 = .ok (.iload 4, 2) := by decide +kernel
theorem d5_32 : decode jdk_52_method_16_code 32 = .ok (.invokestatic 71, 3) := by decide +kernel
theorem pd5 : parseMethodDescriptor "([BI)C" = some ⟨[(.array .byte), .int], some .char⟩ := by decide +kernel
theorem d5_35 : decode jdk_52_method_16_code 35 = .ok (.sipush 255, 3) := by decide +kernel
theorem d5_38 : decode jdk_52_method_16_code 38 = .ok (.if_icmp .gt 16, 3) := by decide +kernel
theorem d5_54 : decode jdk_52_method_16_code 54 = .ok (.aload 5, 2) := by decide +kernel
theorem d5_56 : decode jdk_52_method_16_code 56 = .ok (.areturn, 1) := by decide +kernel
set_option maxRecDepth 65536 in
set_option maxHeartbeats 40000000 in
theorem rm5 (l : Launch) (Z : State) (a0 : Array Value) (hw : ∀ d ∈ tables_1, d.before a0 Z = true) (ws : List Jvm.Cond) (a1 : Addr) (k1 : ClassId) (cs : List Int32) (ms : List Addr) (h0 : Heap) (n0 : Nat) (O0 : Old Z n0 h0) (nb : Nat) (hb0 : n0 ≤ nb) (hnb : nb ≤ h0.size) (S_D : Sta Z Z.heap "java/lang/StringUTF16" "$assertionsDisabled" "Z" (.int 1)) (S_H : Sta Z Z.heap "java/lang/StringUTF16" "HI_BYTE_SHIFT" "I" (.int 0)) (S_L : Sta Z Z.heap "java/lang/StringUTF16" "LO_BYTE_SHIFT" "I" (.int 8)) (hn : cs.length ≤ 5) (hr : ∀ x ∈ cs, rng16 x) (V1 : Arv Z h0 a1 k1 .char (Int32.ofNat cs.length) (cs.map Value.int) (.int 0)) :
    Con l Z ms (⟨"java/lang/StringUTF16", "compress", "([CII)[B"⟩ : MethodName) jdk_52_method_16_code 6 (some (.array .byte)) ws ({ frames := 3, cells := 2, slots := 15, locals := 40 } : Room) #[(.ref a1), (.int (0 : Int32)), (.int (Int32.ofNat cs.length))] h0 (fun v vm h L => ∃ d k cd bb, v = some (.ref d) ∧ Fr nb L ∧ Ext h0 h ∧ h0.size ≤ d ∧ StrOf cs cd bb ∧ Arv Z h d k .byte (Int32.ofNat bb.length) (bb.map Value.int) (.int 0)) := by
  obtain ⟨j, hj, hlt, hend⟩ := first_big cs
  rcases id hend with he | he
  · refine Con.mk (plainFor_of_name pn0) ?_
    intro p e s m below meth c s₁ Cc X0 e0 eb J0 B0 M0
    obtain ⟨hx, hZ, hown, hby, hml, hnm, hret, hlk⟩ := id Cc
    have N0 := Fr.nil h0.size
    have K0 := Keep.refl h0 []
    show Go p e s below _ _ _ _ s₁ (mkF m 0 #[.val (.ref a1), .val (.int (0 : Int32)), .val (.int (Int32.ofNat cs.length)), .unset, .unset, .unset] [])
    refine Go.of (fun _ hr => XS.iloadN X0.here hx rfl (hb hby d5_0) rfl  hr) ?_
    show Go p e s below _ _ _ _ s₁ (mkF m 1 #[.val (.ref a1), .val (.int (0 : Int32)), .val (.int (Int32.ofNat cs.length)), .unset, .unset, .unset] [(.int (Int32.ofNat cs.length))])
    obtain ⟨T101, h101, k101, X101, e101, E101, A101, st101⟩ := newP X0 hx hZ (hw _ (List.mem_of_getElem? (i := 24) rfl)) e0 (g := (mkF m 1 #[.val (.ref a1), .val (.int (0 : Int32)), .val (.int (Int32.ofNat cs.length)), .unset, .unset, .unset] [(.int (Int32.ofNat cs.length))])) rfl (hb hby d5_1) rfl (oi_nn (by omega)) (cap := 5) (by rw [oi_nat (by omega)]; exact hn) (by decide) (by decide) (by decide)
    obtain ⟨o101, g101⟩ : ∃ z, z = h0.size := ⟨_, rfl⟩
    rw [← g101] at A101 st101
    have ne_a1_o101 : a1 ≠ o101 := Nat.ne_of_lt (Nat.lt_of_lt_of_le V1.lt (Nat.le_of_eq g101.symm))
    have V101 := Arv.new A101 (oi_nn (by omega))
    have lt101 : o101 < h101.size := A101.lt
    have J101 := J0.add E101 g101 lt101
    have B101 := B0.mono E101.1
    have O101 := O0.ext E101
    have sz101 : h0.size ≤ o101 := Nat.le_trans K0.1 (Nat.le_of_eq g101.symm)
    have fr101 : h0.size ≤ o101 := sz101
    have K101 := K0.ext E101
    refine Go.of (fun _ hr => st101 _ hr) ?_
    show Go p e s below _ _ _ _ T101 (mkF m 3 #[.val (.ref a1), .val (.int (0 : Int32)), .val (.int (Int32.ofNat cs.length)), .unset, .unset, .unset] [(.ref o101)])
    refine Go.of (fun _ hr => XS.astoreN X101.here hx rfl (hb hby d5_3) rfl rfl (l' := #[.val (.ref a1), .val (.int (0 : Int32)), .val (.int (Int32.ofNat cs.length)), .val (.ref o101), .unset, .unset]) rfl hr) ?_
    show Go p e s below _ _ _ _ T101 (mkF m 4 #[.val (.ref a1), .val (.int (0 : Int32)), .val (.int (Int32.ofNat cs.length)), .val (.ref o101), .unset, .unset] [])
    refine Go.of (fun _ hr => XS.aloadN X101.here hx rfl (hb hby d5_4) rfl rfl hr) ?_
    show Go p e s below _ _ _ _ T101 (mkF m 5 #[.val (.ref a1), .val (.int (0 : Int32)), .val (.int (Int32.ofNat cs.length)), .val (.ref o101), .unset, .unset] [(.ref a1)])
    refine Go.of (fun _ hr => XS.iloadN X101.here hx rfl (hb hby d5_5) rfl  hr) ?_
    show Go p e s below _ _ _ _ T101 (mkF m 6 #[.val (.ref a1), .val (.int (0 : Int32)), .val (.int (Int32.ofNat cs.length)), .val (.ref o101), .unset, .unset] [(.int (0 : Int32)), (.ref a1)])
    refine Go.of (fun _ hr => XS.aloadN X101.here hx rfl (hb hby d5_6) rfl rfl hr) ?_
    show Go p e s below _ _ _ _ T101 (mkF m 7 #[.val (.ref a1), .val (.int (0 : Int32)), .val (.int (Int32.ofNat cs.length)), .val (.ref o101), .unset, .unset] [(.ref o101), (.int (0 : Int32)), (.ref a1)])
    refine Go.of (fun _ hr => XS.iconst X101.here hx rfl (hb hby d5_7) hr) ?_
    show Go p e s below _ _ _ _ T101 (mkF m 8 #[.val (.ref a1), .val (.int (0 : Int32)), .val (.int (Int32.ofNat cs.length)), .val (.ref o101), .unset, .unset] [(.int (0 : Int32)), (.ref o101), (.int (0 : Int32)), (.ref a1)])
    refine Go.of (fun _ hr => XS.iloadN X101.here hx rfl (hb hby d5_8) rfl  hr) ?_
    show Go p e s below _ _ _ _ T101 (mkF m 9 #[.val (.ref a1), .val (.int (0 : Int32)), .val (.int (Int32.ofNat cs.length)), .val (.ref o101), .unset, .unset] [(.int (Int32.ofNat cs.length)), (.int (0 : Int32)), (.ref o101), (.int (0 : Int32)), (.ref a1)])
    have f103 := (V1.ext E101)
    obtain ⟨_, b102, T102, h102, L102, e102, Cc102, X102, B102, J102, g102, hQ102, st102⟩ := own_callS Cc B101 J101 X101 (hw _ (List.mem_of_getElem? (i := 25) rfl)) (hw _ (List.mem_of_getElem? (i := 26) rfl)) (hw _ (List.mem_of_getElem? (i := 22) rfl)) (hw _ (List.mem_of_getElem? (i := 27) rfl)) (by decide) (rm6 l Z a0 hw [] a1 o101 _ _ cs j _ h101 n0 O101 h0.size (own_ole O0) K101.1 fr101 (List.mem_cons_self ..) hn hr hj hlt hend ne_a1_o101 f103 V101) e101 (g := (mkF m 9 #[.val (.ref a1), .val (.int (0 : Int32)), .val (.int (Int32.ofNat cs.length)), .val (.ref o101), .unset, .unset] [(.int (Int32.ofNat cs.length)), (.int (0 : Int32)), (.ref o101), (.int (0 : Int32)), (.ref a1)])) rfl (by rw [hml]; rfl) (argsL := [(.ref a1), (.int (0 : Int32)), (.ref o101), (.int (0 : Int32)), (.int (Int32.ofNat cs.length))]) (rest := []) (lenOf pd3 rfl) rfl (W := 0) (by show 2 * 0 + _ ≤ _; exact Nat.le_of_eq rfl) (hb hby d5_9) (by decide) (by decide) (by decide) (by decide)
    obtain ⟨rfl, Nq102, Kq102, Vd102⟩ := hQ102
    have N102 := Fr.app N0 Nq102
    obtain ⟨hx, hZ, hown, hby, hml, hnm, hret, hlk⟩ := id Cc102
    have K102 := K101.trans Kq102 (allS (Or.inr sz101) all0)
    have O102 := O101.keep Kq102 (allS (Nat.le_trans (own_ole O0) fr101) all0)
    refine Go.of st102 ?_
    show Go p e s below _ _ _ _ T102 (mkF m 12 #[.val (.ref a1), .val (.int (0 : Int32)), .val (.int (Int32.ofNat cs.length)), .val (.ref o101), .unset, .unset] [(.int (Int32.ofNat j))])
    refine Go.of (fun _ hr => XS.istore X102.here hx rfl (hb hby d5_12) rfl (l' := #[.val (.ref a1), .val (.int (0 : Int32)), .val (.int (Int32.ofNat cs.length)), .val (.ref o101), .val (.int (Int32.ofNat j)), .unset]) rfl hr) ?_
    show Go p e s below _ _ _ _ T102 (mkF m 14 #[.val (.ref a1), .val (.int (0 : Int32)), .val (.int (Int32.ofNat cs.length)), .val (.ref o101), .val (.int (Int32.ofNat j)), .unset] [])
    refine Go.of (fun _ hr => XS.iload X102.here hx rfl (hb hby d5_14) rfl  hr) ?_
    show Go p e s below _ _ _ _ T102 (mkF m 16 #[.val (.ref a1), .val (.int (0 : Int32)), .val (.int (Int32.ofNat cs.length)), .val (.ref o101), .val (.int (Int32.ofNat j)), .unset] [(.int (Int32.ofNat j))])
    refine Go.of (fun _ hr => XS.iloadN X102.here hx rfl (hb hby d5_16) rfl  hr) ?_
    show Go p e s below _ _ _ _ T102 (mkF m 17 #[.val (.ref a1), .val (.int (0 : Int32)), .val (.int (Int32.ofNat cs.length)), .val (.ref o101), .val (.int (Int32.ofNat j)), .unset] [(.int (Int32.ofNat cs.length)), (.int (Int32.ofNat j))])
    refine Go.of (fun _ hr => XS.icmpYes X102.here hx rfl (pc0 := 17) (pc' := 57) rfl (hb hby d5_17) rfl (teq (by rw [he])).1 (by decide) (by decide) hr) ?_
    show Go p e s below _ _ _ _ T102 (mkF m 57 #[.val (.ref a1), .val (.int (0 : Int32)), .val (.int (Int32.ofNat cs.length)), .val (.ref o101), .val (.int (Int32.ofNat j)), .unset] [])
    refine Go.of (fun _ hr => XS.aloadN X102.here hx rfl (hb hby d5_57) rfl rfl hr) ?_
    show Go p e s below _ _ _ _ T102 (mkF m 58 #[.val (.ref a1), .val (.int (0 : Int32)), .val (.int (Int32.ofNat cs.length)), .val (.ref o101), .val (.int (Int32.ofNat j)), .unset] [(.ref o101)])
    exact Go.retA X102 hx hlk B102 (J102.sub fun x hx => (List.mem_cons_of_mem _ hx)) e102 hret rfl rfl (hb hby d5_58) (by decide) (by decide) (fun vm_ hw_ => ⟨_, _, 0, (cs.map lo8), rfl, (fun y hy => Nat.le_trans hnb (N102 y hy)), keep_ext K102, sz101, Or.inl ⟨rfl, rfl, all_le he hlt⟩, asB (by have q := Vd102; rw [he, List.take_length] at q; exact q)⟩)
  · have hjl := big_in he
    have hch : 255 < ch16 ((utf cs).getD (2 * j) 0) ((utf cs).getD (2 * j + 1) 0) := by rw [utf_ch hr hjl]; exact he
    refine Con.mk (plainFor_of_name pn0) ?_
    intro p e s m below meth c s₁ Cc X0 e0 eb J0 B0 M0
    obtain ⟨hx, hZ, hown, hby, hml, hnm, hret, hlk⟩ := id Cc
    have N0 := Fr.nil h0.size
    have K0 := Keep.refl h0 []
    show Go p e s below _ _ _ _ s₁ (mkF m 0 #[.val (.ref a1), .val (.int (0 : Int32)), .val (.int (Int32.ofNat cs.length)), .unset, .unset, .unset] [])
    refine Go.of (fun _ hr => XS.iloadN X0.here hx rfl (hb hby d5_0) rfl  hr) ?_
    show Go p e s below _ _ _ _ s₁ (mkF m 1 #[.val (.ref a1), .val (.int (0 : Int32)), .val (.int (Int32.ofNat cs.length)), .unset, .unset, .unset] [(.int (Int32.ofNat cs.length))])
    obtain ⟨T101, h101, k101, X101, e101, E101, A101, st101⟩ := newP X0 hx hZ (hw _ (List.mem_of_getElem? (i := 24) rfl)) e0 (g := (mkF m 1 #[.val (.ref a1), .val (.int (0 : Int32)), .val (.int (Int32.ofNat cs.length)), .unset, .unset, .unset] [(.int (Int32.ofNat cs.length))])) rfl (hb hby d5_1) rfl (oi_nn (by omega)) (cap := 5) (by rw [oi_nat (by omega)]; exact hn) (by decide) (by decide) (by decide)
    obtain ⟨o101, g101⟩ : ∃ z, z = h0.size := ⟨_, rfl⟩
    rw [← g101] at A101 st101
    have ne_a1_o101 : a1 ≠ o101 := Nat.ne_of_lt (Nat.lt_of_lt_of_le V1.lt (Nat.le_of_eq g101.symm))
    have V101 := Arv.new A101 (oi_nn (by omega))
    have lt101 : o101 < h101.size := A101.lt
    have J101 := J0.add E101 g101 lt101
    have B101 := B0.mono E101.1
    have O101 := O0.ext E101
    have sz101 : h0.size ≤ o101 := Nat.le_trans K0.1 (Nat.le_of_eq g101.symm)
    have fr101 : h0.size ≤ o101 := sz101
    have K101 := K0.ext E101
    refine Go.of (fun _ hr => st101 _ hr) ?_
    show Go p e s below _ _ _ _ T101 (mkF m 3 #[.val (.ref a1), .val (.int (0 : Int32)), .val (.int (Int32.ofNat cs.length)), .unset, .unset, .unset] [(.ref o101)])
    refine Go.of (fun _ hr => XS.astoreN X101.here hx rfl (hb hby d5_3) rfl rfl (l' := #[.val (.ref a1), .val (.int (0 : Int32)), .val (.int (Int32.ofNat cs.length)), .val (.ref o101), .unset, .unset]) rfl hr) ?_
    show Go p e s below _ _ _ _ T101 (mkF m 4 #[.val (.ref a1), .val (.int (0 : Int32)), .val (.int (Int32.ofNat cs.length)), .val (.ref o101), .unset, .unset] [])
    refine Go.of (fun _ hr => XS.aloadN X101.here hx rfl (hb hby d5_4) rfl rfl hr) ?_
    show Go p e s below _ _ _ _ T101 (mkF m 5 #[.val (.ref a1), .val (.int (0 : Int32)), .val (.int (Int32.ofNat cs.length)), .val (.ref o101), .unset, .unset] [(.ref a1)])
    refine Go.of (fun _ hr => XS.iloadN X101.here hx rfl (hb hby d5_5) rfl  hr) ?_
    show Go p e s below _ _ _ _ T101 (mkF m 6 #[.val (.ref a1), .val (.int (0 : Int32)), .val (.int (Int32.ofNat cs.length)), .val (.ref o101), .unset, .unset] [(.int (0 : Int32)), (.ref a1)])
    refine Go.of (fun _ hr => XS.aloadN X101.here hx rfl (hb hby d5_6) rfl rfl hr) ?_
    show Go p e s below _ _ _ _ T101 (mkF m 7 #[.val (.ref a1), .val (.int (0 : Int32)), .val (.int (Int32.ofNat cs.length)), .val (.ref o101), .unset, .unset] [(.ref o101), (.int (0 : Int32)), (.ref a1)])
    refine Go.of (fun _ hr => XS.iconst X101.here hx rfl (hb hby d5_7) hr) ?_
    show Go p e s below _ _ _ _ T101 (mkF m 8 #[.val (.ref a1), .val (.int (0 : Int32)), .val (.int (Int32.ofNat cs.length)), .val (.ref o101), .unset, .unset] [(.int (0 : Int32)), (.ref o101), (.int (0 : Int32)), (.ref a1)])
    refine Go.of (fun _ hr => XS.iloadN X101.here hx rfl (hb hby d5_8) rfl  hr) ?_
    show Go p e s below _ _ _ _ T101 (mkF m 9 #[.val (.ref a1), .val (.int (0 : Int32)), .val (.int (Int32.ofNat cs.length)), .val (.ref o101), .unset, .unset] [(.int (Int32.ofNat cs.length)), (.int (0 : Int32)), (.ref o101), (.int (0 : Int32)), (.ref a1)])
    have f103 := (V1.ext E101)
    obtain ⟨_, b102, T102, h102, L102, e102, Cc102, X102, B102, J102, g102, hQ102, st102⟩ := own_callS Cc B101 J101 X101 (hw _ (List.mem_of_getElem? (i := 25) rfl)) (hw _ (List.mem_of_getElem? (i := 26) rfl)) (hw _ (List.mem_of_getElem? (i := 22) rfl)) (hw _ (List.mem_of_getElem? (i := 27) rfl)) (by decide) (rm6 l Z a0 hw [] a1 o101 _ _ cs j _ h101 n0 O101 h0.size (own_ole O0) K101.1 fr101 (List.mem_cons_self ..) hn hr hj hlt hend ne_a1_o101 f103 V101) e101 (g := (mkF m 9 #[.val (.ref a1), .val (.int (0 : Int32)), .val (.int (Int32.ofNat cs.length)), .val (.ref o101), .unset, .unset] [(.int (Int32.ofNat cs.length)), (.int (0 : Int32)), (.ref o101), (.int (0 : Int32)), (.ref a1)])) rfl (by rw [hml]; rfl) (argsL := [(.ref a1), (.int (0 : Int32)), (.ref o101), (.int (0 : Int32)), (.int (Int32.ofNat cs.length))]) (rest := []) (lenOf pd3 rfl) rfl (W := 0) (by show 2 * 0 + _ ≤ _; exact Nat.le_of_eq rfl) (hb hby d5_9) (by decide) (by decide) (by decide) (by decide)
    obtain ⟨rfl, Nq102, Kq102, Vd102⟩ := hQ102
    have N102 := Fr.app N0 Nq102
    obtain ⟨hx, hZ, hown, hby, hml, hnm, hret, hlk⟩ := id Cc102
    have K102 := K101.trans Kq102 (allS (Or.inr sz101) all0)
    have O102 := O101.keep Kq102 (allS (Nat.le_trans (own_ole O0) fr101) all0)
    refine Go.of st102 ?_
    show Go p e s below _ _ _ _ T102 (mkF m 12 #[.val (.ref a1), .val (.int (0 : Int32)), .val (.int (Int32.ofNat cs.length)), .val (.ref o101), .unset, .unset] [(.int (Int32.ofNat j))])
    refine Go.of (fun _ hr => XS.istore X102.here hx rfl (hb hby d5_12) rfl (l' := #[.val (.ref a1), .val (.int (0 : Int32)), .val (.int (Int32.ofNat cs.length)), .val (.ref o101), .val (.int (Int32.ofNat j)), .unset]) rfl hr) ?_
    show Go p e s below _ _ _ _ T102 (mkF m 14 #[.val (.ref a1), .val (.int (0 : Int32)), .val (.int (Int32.ofNat cs.length)), .val (.ref o101), .val (.int (Int32.ofNat j)), .unset] [])
    refine Go.of (fun _ hr => XS.iload X102.here hx rfl (hb hby d5_14) rfl  hr) ?_
    show Go p e s below _ _ _ _ T102 (mkF m 16 #[.val (.ref a1), .val (.int (0 : Int32)), .val (.int (Int32.ofNat cs.length)), .val (.ref o101), .val (.int (Int32.ofNat j)), .unset] [(.int (Int32.ofNat j))])
    refine Go.of (fun _ hr => XS.iloadN X102.here hx rfl (hb hby d5_16) rfl  hr) ?_
    show Go p e s below _ _ _ _ T102 (mkF m 17 #[.val (.ref a1), .val (.int (0 : Int32)), .val (.int (Int32.ofNat cs.length)), .val (.ref o101), .val (.int (Int32.ofNat j)), .unset] [(.int (Int32.ofNat cs.length)), (.int (Int32.ofNat j))])
    refine Go.of (fun _ hr => XS.icmpNo X102.here hx rfl (hb hby d5_17) rfl (feq (fun q => absurd (oi_inj (by omega) (by omega) q) (by omega))).1 hr) ?_
    show Go p e s below _ _ _ _ T102 (mkF m 20 #[.val (.ref a1), .val (.int (0 : Int32)), .val (.int (Int32.ofNat cs.length)), .val (.ref o101), .val (.int (Int32.ofNat j)), .unset] [])
    refine Go.of (fun _ hr => XS.aloadN X102.here hx rfl (hb hby d5_20) rfl rfl hr) ?_
    show Go p e s below _ _ _ _ T102 (mkF m 21 #[.val (.ref a1), .val (.int (0 : Int32)), .val (.int (Int32.ofNat cs.length)), .val (.ref o101), .val (.int (Int32.ofNat j)), .unset] [(.ref a1)])
    refine Go.of (fun _ hr => XS.iloadN X102.here hx rfl (hb hby d5_21) rfl  hr) ?_
    show Go p e s below _ _ _ _ T102 (mkF m 22 #[.val (.ref a1), .val (.int (0 : Int32)), .val (.int (Int32.ofNat cs.length)), .val (.ref o101), .val (.int (Int32.ofNat j)), .unset] [(.int (0 : Int32)), (.ref a1)])
    refine Go.of (fun _ hr => XS.iloadN X102.here hx rfl (hb hby d5_22) rfl  hr) ?_
    show Go p e s below _ _ _ _ T102 (mkF m 23 #[.val (.ref a1), .val (.int (0 : Int32)), .val (.int (Int32.ofNat cs.length)), .val (.ref o101), .val (.int (Int32.ofNat j)), .unset] [(.int (Int32.ofNat cs.length)), (.int (0 : Int32)), (.ref a1)])
    have f105 := (f103.keep Kq102 (ninS ne_a1_o101 nin0))
    obtain ⟨_, b104, T104, h104, L104, e104, Cc104, X104, B104, J104, g104, hQ104, st104⟩ := own_callS Cc102 B102 J102 X102 (hw _ (List.mem_of_getElem? (i := 141) rfl)) (hw _ (List.mem_of_getElem? (i := 142) rfl)) (hw _ (List.mem_of_getElem? (i := 22) rfl)) (hw _ (List.mem_of_getElem? (i := 143) rfl)) (by decide) (rm29 l Z a0 hw [] a1 _ cs _ h102 n0 O102 h0.size (own_ole O0) K102.1 S_D S_H S_L hn f105) e102 (g := (mkF m 23 #[.val (.ref a1), .val (.int (0 : Int32)), .val (.int (Int32.ofNat cs.length)), .val (.ref o101), .val (.int (Int32.ofNat j)), .unset] [(.int (Int32.ofNat cs.length)), (.int (0 : Int32)), (.ref a1)])) rfl (by rw [hml]; rfl) (argsL := [(.ref a1), (.int (0 : Int32)), (.int (Int32.ofNat cs.length))]) (rest := []) (lenOf pd4 rfl) rfl (W := 0) (by show 2 * 0 + _ ≤ _; exact Nat.le_of_eq rfl) (hb hby d5_23) (by decide) (by decide) (by decide) (by decide)
    obtain ⟨u104, ku104, rfl, Nq104, Eq104, R_u104, Vu104⟩ := hQ104
    have N104 := Fr.app N102 Nq104
    obtain ⟨hx, hZ, hown, hby, hml, hnm, hret, hlk⟩ := id Cc104
    have sz_u104 : h0.size ≤ u104 := Nat.le_trans K102.1 R_u104
    have fr_u104 : h0.size ≤ u104 := sz_u104
    have ne_a1_u104 : a1 ≠ u104 := Nat.ne_of_lt (Nat.lt_of_lt_of_le f105.lt R_u104)
    have ne_o101_u104 : o101 ≠ u104 := Nat.ne_of_lt (Nat.lt_of_lt_of_le Vd102.lt R_u104)
    have K104 := K102.ext Eq104
    have O104 := O102.ext Eq104
    refine Go.of st104 ?_
    show Go p e s below _ _ _ _ T104 (mkF m 26 #[.val (.ref a1), .val (.int (0 : Int32)), .val (.int (Int32.ofNat cs.length)), .val (.ref o101), .val (.int (Int32.ofNat j)), .unset] [(.ref u104)])
    refine Go.of (fun _ hr => XS.astore X104.here hx rfl (hb hby d5_26) rfl rfl (l' := #[.val (.ref a1), .val (.int (0 : Int32)), .val (.int (Int32.ofNat cs.length)), .val (.ref o101), .val (.int (Int32.ofNat j)), .val (.ref u104)]) rfl hr) ?_
    show Go p e s below _ _ _ _ T104 (mkF m 28 #[.val (.ref a1), .val (.int (0 : Int32)), .val (.int (Int32.ofNat cs.length)), .val (.ref o101), .val (.int (Int32.ofNat j)), .val (.ref u104)] [])
    refine Go.of (fun _ hr => XS.aload X104.here hx rfl (hb hby d5_28) rfl rfl hr) ?_
    show Go p e s below _ _ _ _ T104 (mkF m 30 #[.val (.ref a1), .val (.int (0 : Int32)), .val (.int (Int32.ofNat cs.length)), .val (.ref o101), .val (.int (Int32.ofNat j)), .val (.ref u104)] [(.ref u104)])
    refine Go.of (fun _ hr => XS.iload X104.here hx rfl (hb hby d5_30) rfl  hr) ?_
    show Go p e s below _ _ _ _ T104 (mkF m 32 #[.val (.ref a1), .val (.int (0 : Int32)), .val (.int (Int32.ofNat cs.length)), .val (.ref o101), .val (.int (Int32.ofNat j)), .val (.ref u104)] [(.int (Int32.ofNat j)), (.ref u104)])
    obtain ⟨_, b106, T106, h106, L106, e106, Cc106, X106, B106, J106, g106, hQ106, st106⟩ := own_callS Cc104 B104 J104 X104 (hw _ (List.mem_of_getElem? (i := 157) rfl)) (hw _ (List.mem_of_getElem? (i := 158) rfl)) (hw _ (List.mem_of_getElem? (i := 22) rfl)) (hw _ (List.mem_of_getElem? (i := 159) rfl)) (by decide) (rm33 l Z a0 hw [] u104 _ (utf cs) cs.length j _ h104 n0 O104 h0.size (own_ole O0) K104.1 S_D S_H S_L (by omega) hjl Vu104) e104 (g := (mkF m 32 #[.val (.ref a1), .val (.int (0 : Int32)), .val (.int (Int32.ofNat cs.length)), .val (.ref o101), .val (.int (Int32.ofNat j)), .val (.ref u104)] [(.int (Int32.ofNat j)), (.ref u104)])) rfl (by rw [hml]; rfl) (argsL := [(.ref u104), (.int (Int32.ofNat j))]) (rest := []) (lenOf pd5 rfl) rfl (W := 0) (by show 2 * 0 + _ ≤ _; exact Nat.le_of_eq rfl) (hb hby d5_32) (by decide) (by decide) (by decide) (by decide)
    obtain ⟨rfl, Nq106, hh106⟩ := hQ106
    have N106 := Fr.app N104 Nq106
    obtain ⟨hx, hZ, hown, hby, hml, hnm, hret, hlk⟩ := id Cc106
    rw [hh106] at e106 B106 J106
    refine Go.of st106 ?_
    show Go p e s below _ _ _ _ T106 (mkF m 35 #[.val (.ref a1), .val (.int (0 : Int32)), .val (.int (Int32.ofNat cs.length)), .val (.ref o101), .val (.int (Int32.ofNat j)), .val (.ref u104)] [(.int (ch16 ((utf cs).getD (2 * j) 0) ((utf cs).getD (2 * j + 1) 0)))])
    refine Go.of (fun _ hr => XS.sipush X106.here hx rfl (hb hby d5_35) hr) ?_
    show Go p e s below _ _ _ _ T106 (mkF m 38 #[.val (.ref a1), .val (.int (0 : Int32)), .val (.int (Int32.ofNat cs.length)), .val (.ref o101), .val (.int (Int32.ofNat j)), .val (.ref u104)] [(.int (255 : Int32)), (.int (ch16 ((utf cs).getD (2 * j) 0) ((utf cs).getD (2 * j + 1) 0)))])
    refine Go.of (fun _ hr => XS.icmpYes X106.here hx rfl (pc0 := 38) (pc' := 54) rfl (hb hby d5_38) rfl (tlt hch).2.2.1 (by decide) (by decide) hr) ?_
    show Go p e s below _ _ _ _ T106 (mkF m 54 #[.val (.ref a1), .val (.int (0 : Int32)), .val (.int (Int32.ofNat cs.length)), .val (.ref o101), .val (.int (Int32.ofNat j)), .val (.ref u104)] [])
    refine Go.of (fun _ hr => XS.aload X106.here hx rfl (hb hby d5_54) rfl rfl hr) ?_
    show Go p e s below _ _ _ _ T106 (mkF m 56 #[.val (.ref a1), .val (.int (0 : Int32)), .val (.int (Int32.ofNat cs.length)), .val (.ref o101), .val (.int (Int32.ofNat j)), .val (.ref u104)] [(.ref u104)])
    exact Go.retA X106 hx hlk B106 (J106.sub fun x hx => (List.mem_cons_of_mem _ hx)) e106 hret rfl rfl (hb hby d5_56) (by decide) (by decide) (fun vm_ hw_ => ⟨_, _, 1, (utf cs), rfl, (fun y hy => Nat.le_trans hnb (N106 y hy)), keep_ext K104, sz_u104, Or.inr ⟨rfl, rfl⟩, (by rw [utf_len]; exact Vu104)⟩)

theorem d7_0 : decode jdk_52_method_15_code 0 = .ok (.iload_n 1, 1) := by decide +kernel
theorem d7_1 : decode jdk_52_method_15_code 1 = .ok (.aload_n 0, 1) := by decide +kernel
theorem d7_2 : decode jdk_52_method_15_code 2 = .ok (.arraylength, 1) := by decide +kernel
theorem d7_3 : decode jdk_52_method_15_code 3 = .ok (.isub, 1) := by decide +kernel
theorem d7_4 : decode jdk_52_method_15_code 4 = .ok (.bipush 31, 2) := by decide +kernel
theorem d7_6 : decode jdk_52_method_15_code 6 = .ok (.iushr, 1) := by decide +kernel
theorem d7_7 : decode jdk_52_method_15_code 7 = .ok (.i2b, 1) := by decide +kernel
theorem d7_8 : decode jdk_52_method_15_code 8 = .ok (.ireturn, 1) := by decide +kernel
set_option maxRecDepth 65536 in
set_option maxHeartbeats 40000000 in
theorem rm7 (l : Launch) (Z : State) (a0 : Array Value) (hw : ∀ d ∈ tables_1, d.before a0 Z = true) (ws : List Jvm.Cond) (a1 : Addr) (k1 : ClassId) (cs : List Int32) (cd : Int32) (bb : List Int32) (ms : List Addr) (h0 : Heap) (n0 : Nat) (O0 : Old Z n0 h0) (nb : Nat) (hb0 : n0 ≤ nb) (hnb : nb ≤ h0.size) (V1 : Arv Z h0 a1 k1 .byte (Int32.ofNat bb.length) (bb.map Value.int) (.int 0)) (hso : StrOf cs cd bb) (hpos : 0 < cs.length) (hn : cs.length ≤ 5) :
    Con l Z ms (⟨"java/lang/StringUTF16", "coderFromArrayLen", "([BI)B"⟩ : MethodName) jdk_52_method_15_code 2 (some .byte) ws ({ frames := 0, cells := 0, slots := 0, locals := 0 } : Room) #[(.ref a1), (.int (Int32.ofNat cs.length))] h0 (fun v vm h L => v = some (.int cd) ∧ Fr nb L ∧ h = h0) := by
  rcases id hso with ⟨rfl, rfl, hl⟩ | ⟨rfl, rfl⟩
  · refine Con.mk (plainFor_of_name pn0) ?_
    intro p e s m below meth c s₁ Cc X0 e0 eb J0 B0 M0
    obtain ⟨hx, hZ, hown, hby, hml, hnm, hret, hlk⟩ := id Cc
    have N0 := Fr.nil h0.size
    have K0 := Keep.refl h0 []
    show Go p e s below _ _ _ _ s₁ (mkF m 0 #[.val (.ref a1), .val (.int (Int32.ofNat cs.length))] [])
    refine Go.of (fun _ hr => XS.iloadN X0.here hx rfl (hb hby d7_0) rfl  hr) ?_
    show Go p e s below _ _ _ _ s₁ (mkF m 1 #[.val (.ref a1), .val (.int (Int32.ofNat cs.length))] [(.int (Int32.ofNat cs.length))])
    refine Go.of (fun _ hr => XS.aloadN X0.here hx rfl (hb hby d7_1) rfl rfl hr) ?_
    show Go p e s below _ _ _ _ s₁ (mkF m 2 #[.val (.ref a1), .val (.int (Int32.ofNat cs.length))] [(.ref a1), (.int (Int32.ofNat cs.length))])
    obtain ⟨cl101, Ar101, q101, S101, N101_, H101, G101⟩ := id V1
    refine Go.of (fun _ hr => X0.arraylength hx (by rw [e0]; exact Ar101.1) (State.isArrayOf_alike hZ.alike Ar101.2.1) (g := (mkF m 2 #[.val (.ref a1), .val (.int (Int32.ofNat cs.length))] [(.ref a1), (.int (Int32.ofNat cs.length))])) rfl rfl (hb hby d7_2) _ hr) ?_
    rw [len_of S101 N101_]
    show Go p e s below _ _ _ _ s₁ (mkF m 3 #[.val (.ref a1), .val (.int (Int32.ofNat cs.length))] [(.int (Int32.ofNat (cs.map lo8).length)), (.int (Int32.ofNat cs.length))])
    refine Go.of (fun _ hr => XS.isub X0.here hx rfl (hb hby d7_3) rfl hr) ?_
    show Go p e s below _ _ _ _ s₁ (mkF m 4 #[.val (.ref a1), .val (.int (Int32.ofNat cs.length))] [(.int ((Int32.ofNat cs.length) - (Int32.ofNat (cs.map lo8).length)))])
    refine Go.of (fun _ hr => XS.bipush X0.here hx rfl (hb hby d7_4) hr) ?_
    show Go p e s below _ _ _ _ s₁ (mkF m 6 #[.val (.ref a1), .val (.int (Int32.ofNat cs.length))] [(.int (31 : Int32)), (.int ((Int32.ofNat cs.length) - (Int32.ofNat (cs.map lo8).length)))])
    refine Go.of (fun _ hr => XS.iushr X0.here hx rfl (hb hby d7_6) rfl hr) ?_
    show Go p e s below _ _ _ _ s₁ (mkF m 7 #[.val (.ref a1), .val (.int (Int32.ofNat cs.length))] [(.int ((((Int32.ofNat cs.length) - (Int32.ofNat (cs.map lo8).length)).toUInt32 >>> ((31 : Int32) &&& 31).toUInt32).toInt32))])
    rw [List.length_map, own_cd0]
    show Go p e s below _ _ _ _ s₁ (mkF m 7 #[.val (.ref a1), .val (.int (Int32.ofNat cs.length))] [(.int (0 : Int32))])
    refine Go.of (fun _ hr => XS.i2b X0.here hx rfl (hb hby d7_7) rfl hr) ?_
    show Go p e s below _ _ _ _ s₁ (mkF m 8 #[.val (.ref a1), .val (.int (Int32.ofNat cs.length))] [(.int ((0 : Int32).toInt8.toInt32))])
    exact Go.retN X0 hx hlk B0 J0 e0 (t := .byte) (z' := (0 : Int32)) hret (by simp) (hb hby d7_8) (by decide) (by decide) (by decide) (fun vm_ hw_ => ⟨rfl, (fun y hy => Nat.le_trans hnb (N0 y hy)), rfl⟩)
  · refine Con.mk (plainFor_of_name pn0) ?_
    intro p e s m below meth c s₁ Cc X0 e0 eb J0 B0 M0
    obtain ⟨hx, hZ, hown, hby, hml, hnm, hret, hlk⟩ := id Cc
    have N0 := Fr.nil h0.size
    have K0 := Keep.refl h0 []
    show Go p e s below _ _ _ _ s₁ (mkF m 0 #[.val (.ref a1), .val (.int (Int32.ofNat cs.length))] [])
    refine Go.of (fun _ hr => XS.iloadN X0.here hx rfl (hb hby d7_0) rfl  hr) ?_
    show Go p e s below _ _ _ _ s₁ (mkF m 1 #[.val (.ref a1), .val (.int (Int32.ofNat cs.length))] [(.int (Int32.ofNat cs.length))])
    refine Go.of (fun _ hr => XS.aloadN X0.here hx rfl (hb hby d7_1) rfl rfl hr) ?_
    show Go p e s below _ _ _ _ s₁ (mkF m 2 #[.val (.ref a1), .val (.int (Int32.ofNat cs.length))] [(.ref a1), (.int (Int32.ofNat cs.length))])
    obtain ⟨cl101, Ar101, q101, S101, N101_, H101, G101⟩ := id V1
    refine Go.of (fun _ hr => X0.arraylength hx (by rw [e0]; exact Ar101.1) (State.isArrayOf_alike hZ.alike Ar101.2.1) (g := (mkF m 2 #[.val (.ref a1), .val (.int (Int32.ofNat cs.length))] [(.ref a1), (.int (Int32.ofNat cs.length))])) rfl rfl (hb hby d7_2) _ hr) ?_
    rw [len_of S101 N101_]
    show Go p e s below _ _ _ _ s₁ (mkF m 3 #[.val (.ref a1), .val (.int (Int32.ofNat cs.length))] [(.int (Int32.ofNat (utf cs).length)), (.int (Int32.ofNat cs.length))])
    refine Go.of (fun _ hr => XS.isub X0.here hx rfl (hb hby d7_3) rfl hr) ?_
    show Go p e s below _ _ _ _ s₁ (mkF m 4 #[.val (.ref a1), .val (.int (Int32.ofNat cs.length))] [(.int ((Int32.ofNat cs.length) - (Int32.ofNat (utf cs).length)))])
    refine Go.of (fun _ hr => XS.bipush X0.here hx rfl (hb hby d7_4) hr) ?_
    show Go p e s below _ _ _ _ s₁ (mkF m 6 #[.val (.ref a1), .val (.int (Int32.ofNat cs.length))] [(.int (31 : Int32)), (.int ((Int32.ofNat cs.length) - (Int32.ofNat (utf cs).length)))])
    refine Go.of (fun _ hr => XS.iushr X0.here hx rfl (hb hby d7_6) rfl hr) ?_
    show Go p e s below _ _ _ _ s₁ (mkF m 7 #[.val (.ref a1), .val (.int (Int32.ofNat cs.length))] [(.int ((((Int32.ofNat cs.length) - (Int32.ofNat (utf cs).length)).toUInt32 >>> ((31 : Int32) &&& 31).toUInt32).toInt32))])
    rw [utf_len, own_cd1 hpos (by omega)]
    show Go p e s below _ _ _ _ s₁ (mkF m 7 #[.val (.ref a1), .val (.int (Int32.ofNat cs.length))] [(.int (1 : Int32))])
    refine Go.of (fun _ hr => XS.i2b X0.here hx rfl (hb hby d7_7) rfl hr) ?_
    show Go p e s below _ _ _ _ s₁ (mkF m 8 #[.val (.ref a1), .val (.int (Int32.ofNat cs.length))] [(.int ((1 : Int32).toInt8.toInt32))])
    exact Go.retN X0 hx hlk B0 J0 e0 (t := .byte) (z' := (1 : Int32)) hret (by simp) (hb hby d7_8) (by decide) (by decide) (by decide) (fun vm_ hw_ => ⟨rfl, (fun y hy => Nat.le_trans hnb (N0 y hy)), rfl⟩)

theorem pn1 : plainName "java/lang/String" = true := by first | (simp [plainName, overriddenIn]; done) | decide +kernel
theorem d3_0 : decode jdk_42_method_149_code 0 = .ok (.aload_n 0, 1) := by decide +kernel
theorem d3_1 : decode jdk_42_method_149_code 1 = .ok (.invokespecial 1, 3) := by decide +kernel
theorem d3_4 : decode jdk_42_method_149_code 4 = .ok (.iload_n 3, 1) := by decide +kernel
theorem d3_5 : decode jdk_42_method_149_code 5 = .ok (.ifCond .ne 22, 3) := by decide +kernel
theorem d3_8 : decode jdk_42_method_149_code 8 = .ok (.aload_n 0, 1) := by decide +kernel
theorem d3_9 : decode jdk_42_method_149_code 9 = .ok (.ldc 7, 2) := by decide +kernel
theorem d3_11 : decode jdk_42_method_149_code 11 = .ok (.getfield 9, 3) := by decide +kernel
theorem d3_14 : decode jdk_42_method_149_code 14 = .ok (.putfield 9, 3) := by decide +kernel
theorem d3_17 : decode jdk_42_method_149_code 17 = .ok (.aload_n 0, 1) := by decide +kernel
theorem d3_18 : decode jdk_42_method_149_code 18 = .ok (.ldc 7, 2) := by decide +kernel
theorem d3_20 : decode jdk_42_method_149_code 20 = .ok (.getfield 15, 3) := by decide +kernel
theorem d3_23 : decode jdk_42_method_149_code 23 = .ok (.putfield 15, 3) := by decide +kernel
theorem d3_26 : decode jdk_42_method_149_code 26 = .ok (.return_, 1) := by decide +kernel
theorem d3_27 : decode jdk_42_method_149_code 27 = .ok (.getstatic 38, 3) := by decide +kernel
theorem d3_30 : decode jdk_42_method_149_code 30 = .ok (.ifCond .eq 28, 3) := by decide +kernel
theorem d3_33 : decode jdk_42_method_149_code 33 = .ok (.aload_n 1, 1) := by decide +kernel
theorem d3_34 : decode jdk_42_method_149_code 34 = .ok (.iload_n 2, 1) := by decide +kernel
theorem d3_35 : decode jdk_42_method_149_code 35 = .ok (.iload_n 3, 1) := by decide +kernel
theorem d3_36 : decode jdk_42_method_149_code 36 = .ok (.invokestatic 177, 3) := by decide +kernel
theorem d3_39 : decode jdk_42_method_149_code 39 = .ok (.astore 5, 2) := by decide +kernel
theorem d3_41 : decode jdk_42_method_149_code 41 = .ok (.aload_n 0, 1) := by decide +kernel
theorem d3_42 : decode jdk_42_method_149_code 42 = .ok (.aload 5, 2) := by decide +kernel
theorem d3_44 : decode jdk_42_method_149_code 44 = .ok (.iload_n 3, 1) := by decide +kernel
theorem d3_45 : decode jdk_42_method_149_code 45 = .ok (.invokestatic 47, 3) := by decide +kernel
theorem pd6 : parseMethodDescriptor "([BI)B" = some ⟨[(.array .byte), .int], some .byte⟩ := by decide +kernel
theorem d3_48 : decode jdk_42_method_149_code 48 = .ok (.putfield 15, 3) := by decide +kernel
theorem d3_51 : decode jdk_42_method_149_code 51 = .ok (.aload_n 0, 1) := by decide +kernel
theorem d3_52 : decode jdk_42_method_149_code 52 = .ok (.aload 5, 2) := by decide +kernel
theorem d3_54 : decode jdk_42_method_149_code 54 = .ok (.putfield 9, 3) := by decide +kernel
theorem d3_57 : decode jdk_42_method_149_code 57 = .ok (.return_, 1) := by decide +kernel
set_option maxRecDepth 65536 in
set_option maxHeartbeats 40000000 in
theorem rm3 (l : Launch) (Z : State) (a0 : Array Value) (hw : ∀ d ∈ tables_1, d.before a0 Z = true) (ws : List Jvm.Cond) (a1 a2 : Addr) (k2 : ClassId) (cs : List Int32) (u1 u2 : Value) (zc : Int32) (ms : List Addr) (h0 : Heap) (n0 : Nat) (O0 : Old Z n0 h0) (nb : Nat) (hb0 : n0 ≤ nb) (hnb : nb ≤ h0.size) (fr_a1 : nb ≤ a1) (hm_a1 : a1 ∈ ms) (S_D : Sta Z Z.heap "java/lang/StringUTF16" "$assertionsDisabled" "Z" (.int 1)) (S_H : Sta Z Z.heap "java/lang/StringUTF16" "HI_BYTE_SHIFT" "I" (.int 0)) (S_L : Sta Z Z.heap "java/lang/StringUTF16" "LO_BYTE_SHIFT" "I" (.int 8)) (hn : cs.length ≤ 5) (hr : ∀ x ∈ cs, rng16 x) (V1 : Arv Z h0 a2 k2 .char (Int32.ofNat cs.length) (cs.map Value.int) (.int 0)) (ne12 : a2 ≠ a1) (E1 : Exa Z h0 a1 "java/lang/String") (F1 : Fld Z h0 a1 "java/lang/String" "value" "[B" u1) (F2 : Fld Z h0 a1 "java/lang/String" "coder" "B" u2) (S_C : Sta Z Z.heap "java/lang/String" "COMPACT_STRINGS" "Z" (.int zc)) (hzc : ¬ zc = 0) :
    Con l Z ms (⟨"java/lang/String", "<init>", "([CIILjava/lang/Void;)V"⟩ : MethodName) jdk_42_method_149_code 6 none ws ({ frames := 4, cells := 2, slots := 15, locals := 57 } : Room) #[(.ref a1), (.ref a2), (.int (0 : Int32)), (.int (Int32.ofNat cs.length)), .null] h0 (fun v vm h L => v = none ∧ Fr nb L ∧ Keep h0 h [a1] ∧ ∃ t k cd bb, t ∉ ms ∧ Fld Z h a1 "java/lang/String" "value" "[B" (.ref t) ∧ Fld Z h a1 "java/lang/String" "coder" "B" (.int cd) ∧ StrOf cs cd bb ∧ Arv Z h t k .byte (Int32.ofNat bb.length) (bb.map Value.int) (.int 0)) := by
  refine Con.mk (plainFor_of_name pn1) ?_
  intro p e s m below meth c s₁ Cc X0 e0 eb J0 B0 M0
  obtain ⟨hx, hZ, hown, hby, hml, hnm, hret, hlk⟩ := id Cc
  have N0 := Fr.nil nb
  have K0 := Keep.refl h0 [a1]
  show Go p e s below _ _ _ _ s₁ (mkF m 0 #[.val (.ref a1), .val (.ref a2), .val (.int (0 : Int32)), .val (.int (Int32.ofNat cs.length)), .val .null, .unset] [])
  refine Go.of (fun _ hr => XS.aloadN X0.here hx rfl (hb hby d3_0) rfl rfl hr) ?_
  show Go p e s below _ _ _ _ s₁ (mkF m 1 #[.val (.ref a1), .val (.ref a2), .val (.int (0 : Int32)), .val (.int (Int32.ofNat cs.length)), .val .null, .unset] [(.ref a1)])
  obtain ⟨T101, X101, e101, st101⟩ := initO X0 hx hZ hown (hw _ (List.mem_of_getElem? (i := 16) rfl)) (hw _ (List.mem_of_getElem? (i := 17) rfl)) (hw _ (List.mem_of_getElem? (i := 18) rfl)) e0 (g := (mkF m 1 #[.val (.ref a1), .val (.ref a2), .val (.int (0 : Int32)), .val (.int (Int32.ofNat cs.length)), .val .null, .unset] [(.ref a1)])) rfl (by rw [hml]; rfl) rfl (hb hby d3_1) (by decide) (W := 0) (by show 2 * 0 + _ ≤ _; exact Nat.le_of_eq rfl) (by decide)
  refine Go.of (fun _ hr => st101 _ hr) ?_
  show Go p e s below _ _ _ _ T101 (mkF m 4 #[.val (.ref a1), .val (.ref a2), .val (.int (0 : Int32)), .val (.int (Int32.ofNat cs.length)), .val .null, .unset] [])
  refine Go.of (fun _ hr => XS.iloadN X101.here hx rfl (hb hby d3_4) rfl  hr) ?_
  show Go p e s below _ _ _ _ T101 (mkF m 5 #[.val (.ref a1), .val (.ref a2), .val (.int (0 : Int32)), .val (.int (Int32.ofNat cs.length)), .val .null, .unset] [(.int (Int32.ofNat cs.length))])
  by_cases hb5_102 : (Int32.ofNat cs.length) = (0 : Int32)
  · refine Go.of (fun _ hr => XS.ifNo X101.here hx rfl (hb hby d3_5) rfl ((if0 _ _).trans (teq hb5_102).2) hr) ?_
    show Go p e s below _ _ _ _ T101 (mkF m 8 #[.val (.ref a1), .val (.ref a2), .val (.int (0 : Int32)), .val (.int (Int32.ofNat cs.length)), .val .null, .unset] [])
    refine Go.of (fun _ hr => XS.aloadN X101.here hx rfl (hb hby d3_8) rfl rfl hr) ?_
    show Go p e s below _ _ _ _ T101 (mkF m 9 #[.val (.ref a1), .val (.ref a2), .val (.int (0 : Int32)), .val (.int (Int32.ofNat cs.length)), .val .null, .unset] [(.ref a1)])
    obtain ⟨o103, t103, k103, b103, T103, h103, e103, Cc103, X103, B103, J103, E103, Sy103, na103, nt103, lt103, st103⟩ := own_ldcV Cc B0 J0 X101 lit0_in lit0_one (hw _ (List.mem_of_getElem? (i := 170) rfl)) (own_wS Z a0 hw) lit0_lat lit0_len (Fr.nil _) (by rw [eb]; exact O0.2) e101 (g := (mkF m 9 #[.val (.ref a1), .val (.ref a2), .val (.int (0 : Int32)), .val (.int (Int32.ofNat cs.length)), .val .null, .unset] [(.ref a1)])) rfl (hb hby d3_9) (n := 0) lit0_sz (by decide) (by decide) (by decide)
    obtain ⟨hx, hZ, hown, hby, hml, hnm, hret, hlk⟩ := id Cc103
    have K103 := K0.ext E103
    have O103 := O0.ext E103
    have nx_o103_a1 : o103 ≠ a1 := fun q => na103 (by rw [q]; exact hm_a1)
    have nx_t103_a1 : t103 ≠ a1 := fun q => nt103 (by rw [q]; exact hm_a1)
    refine Go.of (fun _ hr => st103 _ hr) ?_
    show Go p e s below _ _ _ _ T103 (mkF m 11 #[.val (.ref a1), .val (.ref a2), .val (.int (0 : Int32)), .val (.int (Int32.ofNat cs.length)), .val .null, .unset] [(.ref o103), (.ref a1)])
    obtain ⟨T104, X104, e104, st104⟩ := getF X103 hx hZ hown (host := "") (Or.inl (hw _ (List.mem_of_getElem? (i := 33) rfl))) Via.refl e103 Sy103.2.2.1 (g := (mkF m 11 #[.val (.ref a1), .val (.ref a2), .val (.int (0 : Int32)), .val (.int (Int32.ofNat cs.length)), .val .null, .unset] [(.ref o103), (.ref a1)])) rfl rfl (hb hby d3_11)
    refine Go.of (fun _ hr => st104 _ hr) ?_
    show Go p e s below _ _ _ _ T104 (mkF m 14 #[.val (.ref a1), .val (.ref a2), .val (.int (0 : Int32)), .val (.int (Int32.ofNat cs.length)), .val .null, .unset] [(.ref t103), (.ref a1)])
    have f106 := (F1.ext E103)
    have f107 := (E1.ext E103)
    obtain ⟨T105, h105, X105, e105, W105, st105⟩ := putF X104 hx hZ hown (host := "") (Or.inl (hw _ (List.mem_of_getElem? (i := 33) rfl))) Via.refl e104 f106 f107 (Or.inr ⟨(hw _ (List.mem_of_getElem? (i := 34) rfl)), rfl, hnm⟩) (hw _ (List.mem_of_getElem? (i := 7) rfl)) (ty := (.array .byte)) (by decide) rfl rfl (g := (mkF m 14 #[.val (.ref a1), .val (.ref a2), .val (.int (0 : Int32)), .val (.int (Int32.ofNat cs.length)), .val .null, .unset] [(.ref t103), (.ref a1)])) rfl rfl (hb hby d3_14)
    have N105 := Fr.snoc X105 N0 fr_a1
    have J105 := J103.wr W105 hm_a1
    have B105 := B103.mono (Nat.le_of_eq W105.size.symm)
    have O105 := O103.wr W105 (Nat.le_trans hb0 fr_a1)
    have K105 := K103.wr W105 (Or.inl (List.mem_of_getElem? (i := 0) rfl))
    have Fw105 := f106.same W105
    refine Go.of (fun _ hr => st105 _ hr) ?_
    show Go p e s below _ _ _ _ T105 (mkF m 17 #[.val (.ref a1), .val (.ref a2), .val (.int (0 : Int32)), .val (.int (Int32.ofNat cs.length)), .val .null, .unset] [])
    refine Go.of (fun _ hr => XS.aloadN X105.here hx rfl (hb hby d3_17) rfl rfl hr) ?_
    show Go p e s below _ _ _ _ T105 (mkF m 18 #[.val (.ref a1), .val (.ref a2), .val (.int (0 : Int32)), .val (.int (Int32.ofNat cs.length)), .val .null, .unset] [(.ref a1)])
    refine Go.of (own_ldcA Cc103 X105 B105 (hw _ (List.mem_of_getElem? (i := 170) rfl)) lt103 (g := (mkF m 18 #[.val (.ref a1), .val (.ref a2), .val (.int (0 : Int32)), .val (.int (Int32.ofNat cs.length)), .val .null, .unset] [(.ref a1)])) rfl (hb hby d3_18)) ?_
    show Go p e s below _ _ _ _ T105 (mkF m 20 #[.val (.ref a1), .val (.ref a2), .val (.int (0 : Int32)), .val (.int (Int32.ofNat cs.length)), .val .null, .unset] [(.ref o103), (.ref a1)])
    have f110 := (Sy103.2.1.other W105 (Or.inl nx_o103_a1))
    obtain ⟨T109, X109, e109, st109⟩ := getF X105 hx hZ hown (host := "") (Or.inl (hw _ (List.mem_of_getElem? (i := 31) rfl))) Via.refl e105 f110 (g := (mkF m 20 #[.val (.ref a1), .val (.ref a2), .val (.int (0 : Int32)), .val (.int (Int32.ofNat cs.length)), .val .null, .unset] [(.ref o103), (.ref a1)])) rfl rfl (hb hby d3_20)
    refine Go.of (fun _ hr => st109 _ hr) ?_
    show Go p e s below _ _ _ _ T109 (mkF m 23 #[.val (.ref a1), .val (.ref a2), .val (.int (0 : Int32)), .val (.int (Int32.ofNat cs.length)), .val .null, .unset] [(.int (0 : Int32)), (.ref a1)])
    have f112 := ((F2.ext E103).other W105 (Or.inr (slot_ne (Or.inr (hw _ (List.mem_of_getElem? (i := 32) rfl))) (Or.inr (hw _ (List.mem_of_getElem? (i := 34) rfl))) (by decide) (t := .byte) (t' := (.array .byte)) (by decide) (by decide))))
    have f113 := (f107.wr W105)
    obtain ⟨T111, h111, X111, e111, W111, st111⟩ := putFN X109 hx hZ hown (hw _ (List.mem_of_getElem? (i := 31) rfl)) Via.refl e109 f112 f113 (Or.inr ⟨(hw _ (List.mem_of_getElem? (i := 32) rfl)), rfl, hnm⟩) (hw _ (List.mem_of_getElem? (i := 7) rfl)) (ty := .byte) (v := (.int (0 : Int32))) (v' := (.int (0 : Int32))) (by decide) rfl rfl (g := (mkF m 23 #[.val (.ref a1), .val (.ref a2), .val (.int (0 : Int32)), .val (.int (Int32.ofNat cs.length)), .val .null, .unset] [(.int (0 : Int32)), (.ref a1)])) rfl rfl (hb hby d3_23)
    have N111 := Fr.snoc X111 N105 fr_a1
    have J111 := J105.wr W111 hm_a1
    have B111 := B105.mono (Nat.le_of_eq W111.size.symm)
    have O111 := O105.wr W111 (Nat.le_trans hb0 fr_a1)
    have K111 := K105.wr W111 (Or.inl (List.mem_of_getElem? (i := 0) rfl))
    have Fw111 := f112.same W111
    refine Go.of (fun _ hr => st111 _ hr) ?_
    show Go p e s below _ _ _ _ T111 (mkF m 26 #[.val (.ref a1), .val (.ref a2), .val (.int (0 : Int32)), .val (.int (Int32.ofNat cs.length)), .val .null, .unset] [])
    have f114 := ((Sy103.2.2.2.other W105 nx_t103_a1).other W111 nx_t103_a1)
    have f115 := (Fw105.other W111 (Or.inr (slot_ne (Or.inr (hw _ (List.mem_of_getElem? (i := 34) rfl))) (Or.inr (hw _ (List.mem_of_getElem? (i := 32) rfl))) (by decide) (t := (.array .byte)) (t' := .byte) (by decide) (by decide))))
    exact Go.retV X111 hx hlk B111 J111 e111 hret (hb hby d3_26) (by decide) (by decide) (fun vm_ hw_ => ⟨rfl, N111, K111, _, _, 0, (cs.map lo8), (fun hz => nt103 hz), f115, Fw111, so_nil (oi_nil hn hb5_102), asN f114 (oi_nil hn hb5_102)⟩)
  · refine Go.of (fun _ hr => XS.ifYes X101.here hx rfl (pc0 := 5) (pc' := 27) rfl (hb hby d3_5) rfl ((if0 _ _).trans (feq hb5_102).2) (by decide) (by decide) hr) ?_
    show Go p e s below _ _ _ _ T101 (mkF m 27 #[.val (.ref a1), .val (.ref a2), .val (.int (0 : Int32)), .val (.int (Int32.ofNat cs.length)), .val .null, .unset] [])
    obtain ⟨T116, X116, e116, st116⟩ := getS2 X101 hx hZ hown (host := "") (Or.inl (hw _ (List.mem_of_getElem? (i := 19) rfl))) Via.refl e101 (S_C.ext O0.2) (g := (mkF m 27 #[.val (.ref a1), .val (.ref a2), .val (.int (0 : Int32)), .val (.int (Int32.ofNat cs.length)), .val .null, .unset] [])) rfl (hb hby d3_27)
    refine Go.of (fun _ hr => st116 _ hr) ?_
    show Go p e s below _ _ _ _ T116 (mkF m 30 #[.val (.ref a1), .val (.ref a2), .val (.int (0 : Int32)), .val (.int (Int32.ofNat cs.length)), .val .null, .unset] [(.int zc)])
    refine Go.of (fun _ hr => XS.ifNo X116.here hx rfl (hb hby d3_30) rfl ((if0 _ _).trans (feq hzc).1) hr) ?_
    show Go p e s below _ _ _ _ T116 (mkF m 33 #[.val (.ref a1), .val (.ref a2), .val (.int (0 : Int32)), .val (.int (Int32.ofNat cs.length)), .val .null, .unset] [])
    refine Go.of (fun _ hr => XS.aloadN X116.here hx rfl (hb hby d3_33) rfl rfl hr) ?_
    show Go p e s below _ _ _ _ T116 (mkF m 34 #[.val (.ref a1), .val (.ref a2), .val (.int (0 : Int32)), .val (.int (Int32.ofNat cs.length)), .val .null, .unset] [(.ref a2)])
    refine Go.of (fun _ hr => XS.iloadN X116.here hx rfl (hb hby d3_34) rfl  hr) ?_
    show Go p e s below _ _ _ _ T116 (mkF m 35 #[.val (.ref a1), .val (.ref a2), .val (.int (0 : Int32)), .val (.int (Int32.ofNat cs.length)), .val .null, .unset] [(.int (0 : Int32)), (.ref a2)])
    refine Go.of (fun _ hr => XS.iloadN X116.here hx rfl (hb hby d3_35) rfl  hr) ?_
    show Go p e s below _ _ _ _ T116 (mkF m 36 #[.val (.ref a1), .val (.ref a2), .val (.int (0 : Int32)), .val (.int (Int32.ofNat cs.length)), .val .null, .unset] [(.int (Int32.ofNat cs.length)), (.int (0 : Int32)), (.ref a2)])
    obtain ⟨_, b117, T117, h117, L117, e117, Cc117, X117, B117, J117, g117, hQ117, st117⟩ := own_callS Cc B0 J0 X116 (hw _ (List.mem_of_getElem? (i := 20) rfl)) (hw _ (List.mem_of_getElem? (i := 21) rfl)) (hw _ (List.mem_of_getElem? (i := 22) rfl)) (hw _ (List.mem_of_getElem? (i := 23) rfl)) (by decide) (rm5 l Z a0 hw [] a2 _ cs _ h0 n0 O0 h0.size (own_ole O0) K0.1 S_D S_H S_L hn hr V1) e116 (g := (mkF m 36 #[.val (.ref a1), .val (.ref a2), .val (.int (0 : Int32)), .val (.int (Int32.ofNat cs.length)), .val .null, .unset] [(.int (Int32.ofNat cs.length)), (.int (0 : Int32)), (.ref a2)])) rfl (by rw [hml]; rfl) (argsL := [(.ref a2), (.int (0 : Int32)), (.int (Int32.ofNat cs.length))]) (rest := []) (lenOf pd4 rfl) rfl (W := 0) (by show 2 * 0 + _ ≤ _; exact Nat.le_of_eq rfl) (hb hby d3_36) (by decide) (by decide) (by decide) (by decide)
    obtain ⟨r117, kr117, cd117, bb117, rfl, Nq117, Eq117, R_r117, So117, Vr117⟩ := hQ117
    have N117 := Fr.app N0 (show Fr nb _ from fun y hy => Nat.le_trans hnb (Nq117 y hy))
    have NS117 := Fr.app (Fr.nil _) Nq117
    obtain ⟨hx, hZ, hown, hby, hml, hnm, hret, hlk⟩ := id Cc117
    have sz_r117 : h0.size ≤ r117 := Nat.le_trans K0.1 R_r117
    have fr_r117 : nb ≤ r117 := Nat.le_trans hnb sz_r117
    have ne_a1_r117 : a1 ≠ r117 := Nat.ne_of_lt (Nat.lt_of_lt_of_le E1.lt R_r117)
    have ne_a2_r117 : a2 ≠ r117 := Nat.ne_of_lt (Nat.lt_of_lt_of_le V1.lt R_r117)
    have K117 := K0.ext Eq117
    have O117 := O0.ext Eq117
    refine Go.of st117 ?_
    show Go p e s below _ _ _ _ T117 (mkF m 39 #[.val (.ref a1), .val (.ref a2), .val (.int (0 : Int32)), .val (.int (Int32.ofNat cs.length)), .val .null, .unset] [(.ref r117)])
    refine Go.of (fun _ hr => XS.astore X117.here hx rfl (hb hby d3_39) rfl rfl (l' := #[.val (.ref a1), .val (.ref a2), .val (.int (0 : Int32)), .val (.int (Int32.ofNat cs.length)), .val .null, .val (.ref r117)]) rfl hr) ?_
    show Go p e s below _ _ _ _ T117 (mkF m 41 #[.val (.ref a1), .val (.ref a2), .val (.int (0 : Int32)), .val (.int (Int32.ofNat cs.length)), .val .null, .val (.ref r117)] [])
    refine Go.of (fun _ hr => XS.aloadN X117.here hx rfl (hb hby d3_41) rfl rfl hr) ?_
    show Go p e s below _ _ _ _ T117 (mkF m 42 #[.val (.ref a1), .val (.ref a2), .val (.int (0 : Int32)), .val (.int (Int32.ofNat cs.length)), .val .null, .val (.ref r117)] [(.ref a1)])
    refine Go.of (fun _ hr => XS.aload X117.here hx rfl (hb hby d3_42) rfl rfl hr) ?_
    show Go p e s below _ _ _ _ T117 (mkF m 44 #[.val (.ref a1), .val (.ref a2), .val (.int (0 : Int32)), .val (.int (Int32.ofNat cs.length)), .val .null, .val (.ref r117)] [(.ref r117), (.ref a1)])
    refine Go.of (fun _ hr => XS.iloadN X117.here hx rfl (hb hby d3_44) rfl  hr) ?_
    show Go p e s below _ _ _ _ T117 (mkF m 45 #[.val (.ref a1), .val (.ref a2), .val (.int (0 : Int32)), .val (.int (Int32.ofNat cs.length)), .val .null, .val (.ref r117)] [(.int (Int32.ofNat cs.length)), (.ref r117), (.ref a1)])
    obtain ⟨_, b118, T118, h118, L118, e118, Cc118, X118, B118, J118, g118, hQ118, st118⟩ := own_callS Cc117 B117 J117 X117 (hw _ (List.mem_of_getElem? (i := 28) rfl)) (hw _ (List.mem_of_getElem? (i := 29) rfl)) (hw _ (List.mem_of_getElem? (i := 22) rfl)) (hw _ (List.mem_of_getElem? (i := 30) rfl)) (by decide) (rm7 l Z a0 hw [] r117 _ cs cd117 bb117 _ h117 n0 O117 h0.size (own_ole O0) K117.1 Vr117 So117 (oi_pos hb5_102) hn) e117 (g := (mkF m 45 #[.val (.ref a1), .val (.ref a2), .val (.int (0 : Int32)), .val (.int (Int32.ofNat cs.length)), .val .null, .val (.ref r117)] [(.int (Int32.ofNat cs.length)), (.ref r117), (.ref a1)])) rfl (by rw [hml]; rfl) (argsL := [(.ref r117), (.int (Int32.ofNat cs.length))]) (rest := [(.ref a1)]) (lenOf pd6 rfl) rfl (W := 1) (by show 2 * 0 + _ ≤ _; exact Nat.le_of_eq rfl) (hb hby d3_45) (by decide) (by decide) (by decide) (by decide)
    obtain ⟨rfl, Nq118, hh118⟩ := hQ118
    have N118 := Fr.app N117 (show Fr nb _ from fun y hy => Nat.le_trans hnb (Nq118 y hy))
    have NS118 := Fr.app NS117 Nq118
    obtain ⟨hx, hZ, hown, hby, hml, hnm, hret, hlk⟩ := id Cc118
    rw [hh118] at e118 B118 J118
    refine Go.of st118 ?_
    show Go p e s below _ _ _ _ T118 (mkF m 48 #[.val (.ref a1), .val (.ref a2), .val (.int (0 : Int32)), .val (.int (Int32.ofNat cs.length)), .val .null, .val (.ref r117)] [(.int cd117), (.ref a1)])
    have f120 := (F2.ext Eq117)
    have f121 := (E1.ext Eq117)
    obtain ⟨T119, h119, X119, e119, W119, st119⟩ := putFN X118 hx hZ hown (hw _ (List.mem_of_getElem? (i := 31) rfl)) Via.refl e118 f120 f121 (Or.inr ⟨(hw _ (List.mem_of_getElem? (i := 32) rfl)), rfl, hnm⟩) (hw _ (List.mem_of_getElem? (i := 7) rfl)) (ty := .byte) (v := (.int cd117)) (v' := (.int cd117)) (by decide) (congrArg Value.int (nar_cd So117)) (fits_cd So117) (g := (mkF m 48 #[.val (.ref a1), .val (.ref a2), .val (.int (0 : Int32)), .val (.int (Int32.ofNat cs.length)), .val .null, .val (.ref r117)] [(.int cd117), (.ref a1)])) rfl rfl (hb hby d3_48)
    have N119 := Fr.snoc X119 N118 fr_a1
    have J119 := J118.wr W119 hm_a1
    have B119 := B118.mono (Nat.le_of_eq W119.size.symm)
    have O119 := O117.wr W119 (Nat.le_trans hb0 fr_a1)
    have K119 := K117.wr W119 (Or.inl (List.mem_of_getElem? (i := 0) rfl))
    have Fw119 := f120.same W119
    refine Go.of (fun _ hr => st119 _ hr) ?_
    show Go p e s below _ _ _ _ T119 (mkF m 51 #[.val (.ref a1), .val (.ref a2), .val (.int (0 : Int32)), .val (.int (Int32.ofNat cs.length)), .val .null, .val (.ref r117)] [])
    refine Go.of (fun _ hr => XS.aloadN X119.here hx rfl (hb hby d3_51) rfl rfl hr) ?_
    show Go p e s below _ _ _ _ T119 (mkF m 52 #[.val (.ref a1), .val (.ref a2), .val (.int (0 : Int32)), .val (.int (Int32.ofNat cs.length)), .val .null, .val (.ref r117)] [(.ref a1)])
    refine Go.of (fun _ hr => XS.aload X119.here hx rfl (hb hby d3_52) rfl rfl hr) ?_
    show Go p e s below _ _ _ _ T119 (mkF m 54 #[.val (.ref a1), .val (.ref a2), .val (.int (0 : Int32)), .val (.int (Int32.ofNat cs.length)), .val .null, .val (.ref r117)] [(.ref r117), (.ref a1)])
    have f123 := ((F1.ext Eq117).other W119 (Or.inr (slot_ne (Or.inr (hw _ (List.mem_of_getElem? (i := 34) rfl))) (Or.inr (hw _ (List.mem_of_getElem? (i := 32) rfl))) (by decide) (t := (.array .byte)) (t' := .byte) (by decide) (by decide))))
    have f124 := (f121.wr W119)
    obtain ⟨T122, h122, X122, e122, W122, st122⟩ := putF X119 hx hZ hown (host := "") (Or.inl (hw _ (List.mem_of_getElem? (i := 33) rfl))) Via.refl e119 f123 f124 (Or.inr ⟨(hw _ (List.mem_of_getElem? (i := 34) rfl)), rfl, hnm⟩) (hw _ (List.mem_of_getElem? (i := 7) rfl)) (ty := (.array .byte)) (by decide) rfl rfl (g := (mkF m 54 #[.val (.ref a1), .val (.ref a2), .val (.int (0 : Int32)), .val (.int (Int32.ofNat cs.length)), .val .null, .val (.ref r117)] [(.ref r117), (.ref a1)])) rfl rfl (hb hby d3_54)
    have N122 := Fr.snoc X122 N119 fr_a1
    have J122 := J119.wr W122 hm_a1
    have B122 := B119.mono (Nat.le_of_eq W122.size.symm)
    have O122 := O119.wr W122 (Nat.le_trans hb0 fr_a1)
    have K122 := K119.wr W122 (Or.inl (List.mem_of_getElem? (i := 0) rfl))
    have Fw122 := f123.same W122
    refine Go.of (fun _ hr => st122 _ hr) ?_
    show Go p e s below _ _ _ _ T122 (mkF m 57 #[.val (.ref a1), .val (.ref a2), .val (.int (0 : Int32)), .val (.int (Int32.ofNat cs.length)), .val .null, .val (.ref r117)] [])
    have f125 := ((Vr117.other W119 (Ne.symm ne_a1_r117)).other W122 (Ne.symm ne_a1_r117))
    have f126 := (Fw119.other W122 (Or.inr (slot_ne (Or.inr (hw _ (List.mem_of_getElem? (i := 32) rfl))) (Or.inr (hw _ (List.mem_of_getElem? (i := 34) rfl))) (by decide) (t := .byte) (t' := (.array .byte)) (by decide) (by decide))))
    exact Go.retV X122 hx hlk B122 J122 e122 hret (hb hby d3_57) (by decide) (by decide) (fun vm_ hw_ => ⟨rfl, N122, K122, _, _, _, _, (J0.nms sz_r117), Fw122, f126, So117, f125⟩)

theorem d2_0 : decode jdk_42_method_3_code 0 = .ok (.aload_n 0, 1) := by decide +kernel
theorem d2_1 : decode jdk_42_method_3_code 1 = .ok (.aload_n 1, 1) := by decide +kernel
theorem d2_2 : decode jdk_42_method_3_code 2 = .ok (.iconst 0, 1) := by decide +kernel
theorem d2_3 : decode jdk_42_method_3_code 3 = .ok (.aload_n 1, 1) := by decide +kernel
theorem d2_4 : decode jdk_42_method_3_code 4 = .ok (.arraylength, 1) := by decide +kernel
theorem d2_5 : decode jdk_42_method_3_code 5 = .ok (.aconst_null, 1) := by decide +kernel
theorem d2_6 : decode jdk_42_method_3_code 6 = .ok (.invokespecial 27, 3) := by decide +kernel
theorem pd7 : parseMethodDescriptor "([CIILjava/lang/Void;)V" = some ⟨[(.array .char), .int, .int, (.object "java/lang/Void")], none⟩ := by decide +kernel
theorem d2_9 : decode jdk_42_method_3_code 9 = .ok (.return_, 1) := by decide +kernel
set_option maxRecDepth 65536 in
set_option maxHeartbeats 40000000 in
theorem rm2 (l : Launch) (Z : State) (a0 : Array Value) (hw : ∀ d ∈ tables_1, d.before a0 Z = true) (ws : List Jvm.Cond) (a1 a2 : Addr) (k2 : ClassId) (cs : List Int32) (u1 u2 : Value) (zc : Int32) (ms : List Addr) (h0 : Heap) (n0 : Nat) (O0 : Old Z n0 h0) (nb : Nat) (hb0 : n0 ≤ nb) (hnb : nb ≤ h0.size) (fr_a1 : nb ≤ a1) (hm_a1 : a1 ∈ ms) (S_D : Sta Z Z.heap "java/lang/StringUTF16" "$assertionsDisabled" "Z" (.int 1)) (S_H : Sta Z Z.heap "java/lang/StringUTF16" "HI_BYTE_SHIFT" "I" (.int 0)) (S_L : Sta Z Z.heap "java/lang/StringUTF16" "LO_BYTE_SHIFT" "I" (.int 8)) (hn : cs.length ≤ 5) (hr : ∀ x ∈ cs, rng16 x) (V1 : Arv Z h0 a2 k2 .char (Int32.ofNat cs.length) (cs.map Value.int) (.int 0)) (ne12 : a2 ≠ a1) (E1 : Exa Z h0 a1 "java/lang/String") (F1 : Fld Z h0 a1 "java/lang/String" "value" "[B" u1) (F2 : Fld Z h0 a1 "java/lang/String" "coder" "B" u2) (S_C : Sta Z Z.heap "java/lang/String" "COMPACT_STRINGS" "Z" (.int zc)) (hzc : ¬ zc = 0) :
    Con l Z ms (⟨"java/lang/String", "<init>", "([C)V"⟩ : MethodName) jdk_42_method_3_code 2 none ws ({ frames := 5, cells := 2, slots := 15, locals := 74 } : Room) #[(.ref a1), (.ref a2)] h0 (fun v vm h L => v = none ∧ Fr nb L ∧ Keep h0 h [a1] ∧ ∃ t k cd bb, t ∉ ms ∧ Fld Z h a1 "java/lang/String" "value" "[B" (.ref t) ∧ Fld Z h a1 "java/lang/String" "coder" "B" (.int cd) ∧ StrOf cs cd bb ∧ Arv Z h t k .byte (Int32.ofNat bb.length) (bb.map Value.int) (.int 0)) := by
  refine Con.mk (plainFor_of_name pn1) ?_
  intro p e s m below meth c s₁ Cc X0 e0 eb J0 B0 M0
  obtain ⟨hx, hZ, hown, hby, hml, hnm, hret, hlk⟩ := id Cc
  have N0 := Fr.nil nb
  have K0 := Keep.refl h0 [a1]
  show Go p e s below _ _ _ _ s₁ (mkF m 0 #[.val (.ref a1), .val (.ref a2)] [])
  refine Go.of (fun _ hr => XS.aloadN X0.here hx rfl (hb hby d2_0) rfl rfl hr) ?_
  show Go p e s below _ _ _ _ s₁ (mkF m 1 #[.val (.ref a1), .val (.ref a2)] [(.ref a1)])
  refine Go.of (fun _ hr => XS.aloadN X0.here hx rfl (hb hby d2_1) rfl rfl hr) ?_
  show Go p e s below _ _ _ _ s₁ (mkF m 2 #[.val (.ref a1), .val (.ref a2)] [(.ref a2), (.ref a1)])
  refine Go.of (fun _ hr => XS.iconst X0.here hx rfl (hb hby d2_2) hr) ?_
  show Go p e s below _ _ _ _ s₁ (mkF m 3 #[.val (.ref a1), .val (.ref a2)] [(.int (0 : Int32)), (.ref a2), (.ref a1)])
  refine Go.of (fun _ hr => XS.aloadN X0.here hx rfl (hb hby d2_3) rfl rfl hr) ?_
  show Go p e s below _ _ _ _ s₁ (mkF m 4 #[.val (.ref a1), .val (.ref a2)] [(.ref a2), (.int (0 : Int32)), (.ref a2), (.ref a1)])
  obtain ⟨cl101, Ar101, q101, S101, N101_, H101, G101⟩ := id V1
  refine Go.of (fun _ hr => X0.arraylength hx (by rw [e0]; exact Ar101.1) (State.isArrayOf_alike hZ.alike Ar101.2.1) (g := (mkF m 4 #[.val (.ref a1), .val (.ref a2)] [(.ref a2), (.int (0 : Int32)), (.ref a2), (.ref a1)])) rfl rfl (hb hby d2_4) _ hr) ?_
  rw [len_of S101 N101_]
  show Go p e s below _ _ _ _ s₁ (mkF m 5 #[.val (.ref a1), .val (.ref a2)] [(.int (Int32.ofNat cs.length)), (.int (0 : Int32)), (.ref a2), (.ref a1)])
  refine Go.of (fun _ hr => XS.aconstNull X0.here hx rfl (hb hby d2_5) hr) ?_
  show Go p e s below _ _ _ _ s₁ (mkF m 6 #[.val (.ref a1), .val (.ref a2)] [.null, (.int (Int32.ofNat cs.length)), (.int (0 : Int32)), (.ref a2), (.ref a1)])
  obtain ⟨_, b102, T102, h102, L102, e102, Cc102, X102, B102, J102, g102, hQ102, st102⟩ := own_callI Cc B0 J0 X0 rfl (hw _ (List.mem_of_getElem? (i := 12) rfl)) (hw _ (List.mem_of_getElem? (i := 13) rfl)) (hw _ (List.mem_of_getElem? (i := 8) rfl)) (hw _ (List.mem_of_getElem? (i := 15) rfl)) (by decide) (rm3 l Z a0 hw [] a1 a2 _ cs _ _ zc _ h0 n0 O0 nb hb0 (Nat.le_trans hnb K0.1) fr_a1 hm_a1 S_D S_H S_L hn hr V1 ne12 E1 F1 F2 S_C hzc) e0 (g := (mkF m 6 #[.val (.ref a1), .val (.ref a2)] [.null, (.int (Int32.ofNat cs.length)), (.int (0 : Int32)), (.ref a2), (.ref a1)])) rfl (by rw [hml]; rfl) (argsL := [(.ref a2), (.int (0 : Int32)), (.int (Int32.ofNat cs.length)), .null]) (rest := []) (lenOf pd7 rfl) rfl (W := 0) (by show 2 * 0 + _ ≤ _; exact Nat.le_of_eq rfl) (hb hby d2_6) (by decide) (by decide) (by decide) (by decide)
  obtain ⟨rfl, Nq102, Kq102, t102, kt102, cd102, bb102, nt102, Fv102, Fc102, So102, Vt102⟩ := hQ102
  have N102 := Fr.app N0 Nq102
  obtain ⟨hx, hZ, hown, hby, hml, hnm, hret, hlk⟩ := id Cc102
  have K102 := K0.trans Kq102 (allS (Or.inl (List.mem_of_getElem? (i := 0) rfl)) all0)
  have O102 := O0.keep Kq102 (allS (Nat.le_trans hb0 fr_a1) all0)
  refine Go.of st102 ?_
  have nx_t102_a1 : t102 ≠ a1 := fun q => nt102 (by rw [q]; exact hm_a1)
  show Go p e s below _ _ _ _ T102 (mkF m 9 #[.val (.ref a1), .val (.ref a2)] [])
  exact Go.retV X102 hx hlk B102 J102 e102 hret (hb hby d2_9) (by decide) (by decide) (fun vm_ hw_ => ⟨rfl, N102, K102, _, _, _, _, (fun hz => nt102 hz), Fv102, Fc102, So102, Vt102⟩)

theorem d10_0 : decode jdk_42_method_152_code 0 = .ok (.getstatic 38, 3) := by decide +kernel
theorem d10_3 : decode jdk_42_method_152_code 3 = .ok (.ifCond .eq 10, 3) := by decide +kernel
theorem d10_6 : decode jdk_42_method_152_code 6 = .ok (.aload_n 0, 1) := by decide +kernel
theorem d10_7 : decode jdk_42_method_152_code 7 = .ok (.getfield 15, 3) := by decide +kernel
theorem d10_10 : decode jdk_42_method_152_code 10 = .ok (.goto 4, 3) := by decide +kernel
theorem d10_14 : decode jdk_42_method_152_code 14 = .ok (.ireturn, 1) := by decide +kernel
set_option maxRecDepth 65536 in
set_option maxHeartbeats 40000000 in
theorem rm10 (l : Launch) (Z : State) (a0 : Array Value) (hw : ∀ d ∈ tables_1, d.before a0 Z = true) (ws : List Jvm.Cond) (s1 : Addr) (cs : List Int32) (cd : Int32) (bb : List Int32) (zc : Int32) (ms : List Addr) (h0 : Heap) (n0 : Nat) (O0 : Old Z n0 h0) (nb : Nat) (hb0 : n0 ≤ nb) (hnb : nb ≤ h0.size) (Fc1 : Fld Z h0 s1 "java/lang/String" "coder" "B" (.int cd)) (hso : StrOf cs cd bb) (S_C : Sta Z Z.heap "java/lang/String" "COMPACT_STRINGS" "Z" (.int zc)) (hzc : ¬ zc = 0) :
    Con l Z ms (⟨"java/lang/String", "coder", "()B"⟩ : MethodName) jdk_42_method_152_code 1 (some .byte) ws ({ frames := 0, cells := 0, slots := 0, locals := 0 } : Room) #[(.ref s1)] h0 (fun v vm h L => v = some (.int cd) ∧ Fr nb L ∧ h = h0) := by
  refine Con.mk (plainFor_of_name pn1) ?_
  intro p e s m below meth c s₁ Cc X0 e0 eb J0 B0 M0
  obtain ⟨hx, hZ, hown, hby, hml, hnm, hret, hlk⟩ := id Cc
  have N0 := Fr.nil h0.size
  have K0 := Keep.refl h0 []
  show Go p e s below _ _ _ _ s₁ (mkF m 0 #[.val (.ref s1)] [])
  obtain ⟨T101, X101, e101, st101⟩ := getS2 X0 hx hZ hown (host := "") (Or.inl (hw _ (List.mem_of_getElem? (i := 19) rfl))) Via.refl e0 (S_C.ext O0.2) (g := (mkF m 0 #[.val (.ref s1)] [])) rfl (hb hby d10_0)
  refine Go.of (fun _ hr => st101 _ hr) ?_
  show Go p e s below _ _ _ _ T101 (mkF m 3 #[.val (.ref s1)] [(.int zc)])
  refine Go.of (fun _ hr => XS.ifNo X101.here hx rfl (hb hby d10_3) rfl ((if0 _ _).trans (feq hzc).1) hr) ?_
  show Go p e s below _ _ _ _ T101 (mkF m 6 #[.val (.ref s1)] [])
  refine Go.of (fun _ hr => XS.aloadN X101.here hx rfl (hb hby d10_6) rfl rfl hr) ?_
  show Go p e s below _ _ _ _ T101 (mkF m 7 #[.val (.ref s1)] [(.ref s1)])
  obtain ⟨T102, X102, e102, st102⟩ := getF X101 hx hZ hown (host := "") (Or.inl (hw _ (List.mem_of_getElem? (i := 31) rfl))) Via.refl e101 Fc1 (g := (mkF m 7 #[.val (.ref s1)] [(.ref s1)])) rfl rfl (hb hby d10_7)
  refine Go.of (fun _ hr => st102 _ hr) ?_
  show Go p e s below _ _ _ _ T102 (mkF m 10 #[.val (.ref s1)] [(.int cd)])
  refine Go.of (fun _ hr => XS.goto X102.here hx rfl (pc0 := 10) (pc' := 14) rfl (hb hby d10_10) (by decide) (by decide) hr) ?_
  show Go p e s below _ _ _ _ T102 (mkF m 14 #[.val (.ref s1)] [(.int cd)])
  exact Go.retN X102 hx hlk B0 J0 e102 (t := .byte) (z' := cd) hret (by simp) (hb hby d10_14) (nar_cd hso) (by decide) (by decide) (fun vm_ hw_ => ⟨rfl, (fun y hy => Nat.le_trans hnb (N0 y hy)), rfl⟩)

theorem d9_0 : decode jdk_42_method_54_code 0 = .ok (.aload_n 0, 1) := by decide +kernel
theorem d9_1 : decode jdk_42_method_54_code 1 = .ok (.getfield 9, 3) := by decide +kernel
theorem d9_4 : decode jdk_42_method_54_code 4 = .ok (.arraylength, 1) := by decide +kernel
theorem d9_5 : decode jdk_42_method_54_code 5 = .ok (.aload_n 0, 1) := by decide +kernel
theorem d9_6 : decode jdk_42_method_54_code 6 = .ok (.invokevirtual 335, 3) := by decide +kernel
theorem pd8 : parseMethodDescriptor "()B" = some ⟨[], some .byte⟩ := by decide +kernel
theorem d9_9 : decode jdk_42_method_54_code 9 = .ok (.ishr, 1) := by decide +kernel
theorem d9_10 : decode jdk_42_method_54_code 10 = .ok (.ireturn, 1) := by decide +kernel
set_option maxRecDepth 65536 in
set_option maxHeartbeats 40000000 in
theorem rm9 (l : Launch) (Z : State) (a0 : Array Value) (hw : ∀ d ∈ tables_1, d.before a0 Z = true) (ws : List Jvm.Cond) (s1 t1 : Addr) (k1 : ClassId) (cs : List Int32) (cd : Int32) (bb : List Int32) (zc : Int32) (ms : List Addr) (h0 : Heap) (n0 : Nat) (O0 : Old Z n0 h0) (nb : Nat) (hb0 : n0 ≤ nb) (hnb : nb ≤ h0.size) (Es1 : Exa Z h0 s1 "java/lang/String") (Fv1 : Fld Z h0 s1 "java/lang/String" "value" "[B" (.ref t1)) (Fc1 : Fld Z h0 s1 "java/lang/String" "coder" "B" (.int cd)) (hso : StrOf cs cd bb) (V1 : Arv Z h0 t1 k1 .byte (Int32.ofNat bb.length) (bb.map Value.int) (.int 0)) (hn : cs.length ≤ 5) (hr : ∀ x ∈ cs, rng16 x) (S_C : Sta Z Z.heap "java/lang/String" "COMPACT_STRINGS" "Z" (.int zc)) (hzc : ¬ zc = 0) :
    Con l Z ms (⟨"java/lang/String", "length", "()I"⟩ : MethodName) jdk_42_method_54_code 1 (some .int) ws ({ frames := 1, cells := 0, slots := 0, locals := 14 } : Room) #[(.ref s1)] h0 (fun v vm h L => v = some (.int (Int32.ofNat cs.length)) ∧ Fr nb L ∧ h = h0) := by
  rcases id hso with ⟨rfl, rfl, hl⟩ | ⟨rfl, rfl⟩
  · refine Con.mk (plainFor_of_name pn1) ?_
    intro p e s m below meth c s₁ Cc X0 e0 eb J0 B0 M0
    obtain ⟨hx, hZ, hown, hby, hml, hnm, hret, hlk⟩ := id Cc
    have N0 := Fr.nil h0.size
    have K0 := Keep.refl h0 []
    show Go p e s below _ _ _ _ s₁ (mkF m 0 #[.val (.ref s1)] [])
    refine Go.of (fun _ hr => XS.aloadN X0.here hx rfl (hb hby d9_0) rfl rfl hr) ?_
    show Go p e s below _ _ _ _ s₁ (mkF m 1 #[.val (.ref s1)] [(.ref s1)])
    obtain ⟨T101, X101, e101, st101⟩ := getF X0 hx hZ hown (host := "") (Or.inl (hw _ (List.mem_of_getElem? (i := 33) rfl))) Via.refl e0 Fv1 (g := (mkF m 1 #[.val (.ref s1)] [(.ref s1)])) rfl rfl (hb hby d9_1)
    refine Go.of (fun _ hr => st101 _ hr) ?_
    show Go p e s below _ _ _ _ T101 (mkF m 4 #[.val (.ref s1)] [(.ref t1)])
    obtain ⟨cl102, Ar102, q102, S102, N102_, H102, G102⟩ := id V1
    refine Go.of (fun _ hr => X101.arraylength hx (by rw [e101]; exact Ar102.1) (State.isArrayOf_alike hZ.alike Ar102.2.1) (g := (mkF m 4 #[.val (.ref s1)] [(.ref t1)])) rfl rfl (hb hby d9_4) _ hr) ?_
    rw [len_of S102 N102_]
    show Go p e s below _ _ _ _ T101 (mkF m 5 #[.val (.ref s1)] [(.int (Int32.ofNat (cs.map lo8).length))])
    refine Go.of (fun _ hr => XS.aloadN X101.here hx rfl (hb hby d9_5) rfl rfl hr) ?_
    show Go p e s below _ _ _ _ T101 (mkF m 6 #[.val (.ref s1)] [(.ref s1), (.int (Int32.ofNat (cs.map lo8).length))])
    obtain ⟨_, b103, T103, h103, L103, e103, Cc103, X103, B103, J103, g103, hQ103, st103⟩ := own_callV Cc B0 J0 X101 (hw _ (List.mem_of_getElem? (i := 47) rfl)) (hw _ (List.mem_of_getElem? (i := 48) rfl)) (notFace_of_selects (args := #[]) (mvT hZ (hw _ (List.mem_of_getElem? (i := 50) rfl)))) (hw _ (List.mem_of_getElem? (i := 50) rfl)) (hw _ (List.mem_of_getElem? (i := 49) rfl)) (hw _ (List.mem_of_getElem? (i := 8) rfl)) (hw _ (List.mem_of_getElem? (i := 51) rfl)) (by decide) Es1 (rm10 l Z a0 hw [] s1 cs (0 : Int32) (cs.map lo8) zc _ h0 n0 O0 h0.size (own_ole O0) K0.1 Fc1 hso S_C hzc) e101 (g := (mkF m 6 #[.val (.ref s1)] [(.ref s1), (.int (Int32.ofNat (cs.map lo8).length))])) rfl (by rw [hml]; rfl) (argsL := []) (rest := [(.int (Int32.ofNat (cs.map lo8).length))]) (lenOf pd8 rfl) rfl (W := 1) (by show 2 * 0 + _ ≤ _; exact Nat.le_of_eq rfl) (hb hby d9_6) (by decide) (by decide) (by decide) (by decide)
    obtain ⟨rfl, Nq103, hh103⟩ := hQ103
    have N103 := Fr.app N0 Nq103
    obtain ⟨hx, hZ, hown, hby, hml, hnm, hret, hlk⟩ := id Cc103
    rw [hh103] at e103 B103 J103
    refine Go.of st103 ?_
    show Go p e s below _ _ _ _ T103 (mkF m 9 #[.val (.ref s1)] [(.int (0 : Int32)), (.int (Int32.ofNat (cs.map lo8).length))])
    refine Go.of (fun _ hr => XS.ishr X103.here hx rfl (hb hby d9_9) rfl hr) ?_
    show Go p e s below _ _ _ _ T103 (mkF m 10 #[.val (.ref s1)] [(.int ((Int32.ofNat (cs.map lo8).length) >>> ((0 : Int32) &&& 31)))])
    rw [own_sh0, List.length_map]
    show Go p e s below _ _ _ _ T103 (mkF m 10 #[.val (.ref s1)] [(.int (Int32.ofNat cs.length))])
    exact Go.retI X103 hx hlk B103 J103 e103 hret (hb hby d9_10) (by decide) (by decide) (fun vm_ hw_ => ⟨rfl, (fun y hy => Nat.le_trans hnb (N103 y hy)), rfl⟩)
  · refine Con.mk (plainFor_of_name pn1) ?_
    intro p e s m below meth c s₁ Cc X0 e0 eb J0 B0 M0
    obtain ⟨hx, hZ, hown, hby, hml, hnm, hret, hlk⟩ := id Cc
    have N0 := Fr.nil h0.size
    have K0 := Keep.refl h0 []
    show Go p e s below _ _ _ _ s₁ (mkF m 0 #[.val (.ref s1)] [])
    refine Go.of (fun _ hr => XS.aloadN X0.here hx rfl (hb hby d9_0) rfl rfl hr) ?_
    show Go p e s below _ _ _ _ s₁ (mkF m 1 #[.val (.ref s1)] [(.ref s1)])
    obtain ⟨T101, X101, e101, st101⟩ := getF X0 hx hZ hown (host := "") (Or.inl (hw _ (List.mem_of_getElem? (i := 33) rfl))) Via.refl e0 Fv1 (g := (mkF m 1 #[.val (.ref s1)] [(.ref s1)])) rfl rfl (hb hby d9_1)
    refine Go.of (fun _ hr => st101 _ hr) ?_
    show Go p e s below _ _ _ _ T101 (mkF m 4 #[.val (.ref s1)] [(.ref t1)])
    obtain ⟨cl102, Ar102, q102, S102, N102_, H102, G102⟩ := id V1
    refine Go.of (fun _ hr => X101.arraylength hx (by rw [e101]; exact Ar102.1) (State.isArrayOf_alike hZ.alike Ar102.2.1) (g := (mkF m 4 #[.val (.ref s1)] [(.ref t1)])) rfl rfl (hb hby d9_4) _ hr) ?_
    rw [len_of S102 N102_]
    show Go p e s below _ _ _ _ T101 (mkF m 5 #[.val (.ref s1)] [(.int (Int32.ofNat (utf cs).length))])
    refine Go.of (fun _ hr => XS.aloadN X101.here hx rfl (hb hby d9_5) rfl rfl hr) ?_
    show Go p e s below _ _ _ _ T101 (mkF m 6 #[.val (.ref s1)] [(.ref s1), (.int (Int32.ofNat (utf cs).length))])
    obtain ⟨_, b103, T103, h103, L103, e103, Cc103, X103, B103, J103, g103, hQ103, st103⟩ := own_callV Cc B0 J0 X101 (hw _ (List.mem_of_getElem? (i := 47) rfl)) (hw _ (List.mem_of_getElem? (i := 48) rfl)) (notFace_of_selects (args := #[]) (mvT hZ (hw _ (List.mem_of_getElem? (i := 50) rfl)))) (hw _ (List.mem_of_getElem? (i := 50) rfl)) (hw _ (List.mem_of_getElem? (i := 49) rfl)) (hw _ (List.mem_of_getElem? (i := 8) rfl)) (hw _ (List.mem_of_getElem? (i := 51) rfl)) (by decide) Es1 (rm10 l Z a0 hw [] s1 cs (1 : Int32) (utf cs) zc _ h0 n0 O0 h0.size (own_ole O0) K0.1 Fc1 hso S_C hzc) e101 (g := (mkF m 6 #[.val (.ref s1)] [(.ref s1), (.int (Int32.ofNat (utf cs).length))])) rfl (by rw [hml]; rfl) (argsL := []) (rest := [(.int (Int32.ofNat (utf cs).length))]) (lenOf pd8 rfl) rfl (W := 1) (by show 2 * 0 + _ ≤ _; exact Nat.le_of_eq rfl) (hb hby d9_6) (by decide) (by decide) (by decide) (by decide)
    obtain ⟨rfl, Nq103, hh103⟩ := hQ103
    have N103 := Fr.app N0 Nq103
    obtain ⟨hx, hZ, hown, hby, hml, hnm, hret, hlk⟩ := id Cc103
    rw [hh103] at e103 B103 J103
    refine Go.of st103 ?_
    show Go p e s below _ _ _ _ T103 (mkF m 9 #[.val (.ref s1)] [(.int (1 : Int32)), (.int (Int32.ofNat (utf cs).length))])
    refine Go.of (fun _ hr => XS.ishr X103.here hx rfl (hb hby d9_9) rfl hr) ?_
    show Go p e s below _ _ _ _ T103 (mkF m 10 #[.val (.ref s1)] [(.int ((Int32.ofNat (utf cs).length) >>> ((1 : Int32) &&& 31)))])
    rw [utf_len, oi_shr1 (by omega)]
    show Go p e s below _ _ _ _ T103 (mkF m 10 #[.val (.ref s1)] [(.int (Int32.ofNat cs.length))])
    exact Go.retI X103 hx hlk B103 J103 e103 hret (hb hby d9_10) (by decide) (by decide) (fun vm_ hw_ => ⟨rfl, (fun y hy => Nat.le_trans hnb (N103 y hy)), rfl⟩)

theorem d14_0 : decode jdk_42_method_154_code 0 = .ok (.getstatic 38, 3) := by decide +kernel
theorem d14_3 : decode jdk_42_method_154_code 3 = .ok (.ifCond .eq 14, 3) := by decide +kernel
theorem d14_6 : decode jdk_42_method_154_code 6 = .ok (.aload_n 0, 1) := by decide +kernel
theorem d14_7 : decode jdk_42_method_154_code 7 = .ok (.getfield 15, 3) := by decide +kernel
theorem d14_10 : decode jdk_42_method_154_code 10 = .ok (.ifCond .ne 7, 3) := by decide +kernel
theorem d14_13 : decode jdk_42_method_154_code 13 = .ok (.iconst 1, 1) := by decide +kernel
theorem d14_14 : decode jdk_42_method_154_code 14 = .ok (.goto 4, 3) := by decide +kernel
theorem d14_18 : decode jdk_42_method_154_code 18 = .ok (.ireturn, 1) := by decide +kernel
set_option maxRecDepth 65536 in
set_option maxHeartbeats 40000000 in
theorem rm14 (l : Launch) (Z : State) (a0 : Array Value) (hw : ∀ d ∈ tables_1, d.before a0 Z = true) (ws : List Jvm.Cond) (s1 : Addr) (zc : Int32) (ms : List Addr) (h0 : Heap) (n0 : Nat) (O0 : Old Z n0 h0) (nb : Nat) (hb0 : n0 ≤ nb) (hnb : nb ≤ h0.size) (Fc1 : Fld Z h0 s1 "java/lang/String" "coder" "B" (.int 0)) (S_C : Sta Z Z.heap "java/lang/String" "COMPACT_STRINGS" "Z" (.int zc)) (hzc : ¬ zc = 0) :
    Con l Z ms (⟨"java/lang/String", "isLatin1", "()Z"⟩ : MethodName) jdk_42_method_154_code 1 (some .boolean) ws ({ frames := 0, cells := 0, slots := 0, locals := 0 } : Room) #[(.ref s1)] h0 (fun v vm h L => v = some (.int 1) ∧ Fr nb L ∧ h = h0) := by
  refine Con.mk (plainFor_of_name pn1) ?_
  intro p e s m below meth c s₁ Cc X0 e0 eb J0 B0 M0
  obtain ⟨hx, hZ, hown, hby, hml, hnm, hret, hlk⟩ := id Cc
  have N0 := Fr.nil h0.size
  have K0 := Keep.refl h0 []
  show Go p e s below _ _ _ _ s₁ (mkF m 0 #[.val (.ref s1)] [])
  obtain ⟨T101, X101, e101, st101⟩ := getS2 X0 hx hZ hown (host := "") (Or.inl (hw _ (List.mem_of_getElem? (i := 19) rfl))) Via.refl e0 (S_C.ext O0.2) (g := (mkF m 0 #[.val (.ref s1)] [])) rfl (hb hby d14_0)
  refine Go.of (fun _ hr => st101 _ hr) ?_
  show Go p e s below _ _ _ _ T101 (mkF m 3 #[.val (.ref s1)] [(.int zc)])
  refine Go.of (fun _ hr => XS.ifNo X101.here hx rfl (hb hby d14_3) rfl ((if0 _ _).trans (feq hzc).1) hr) ?_
  show Go p e s below _ _ _ _ T101 (mkF m 6 #[.val (.ref s1)] [])
  refine Go.of (fun _ hr => XS.aloadN X101.here hx rfl (hb hby d14_6) rfl rfl hr) ?_
  show Go p e s below _ _ _ _ T101 (mkF m 7 #[.val (.ref s1)] [(.ref s1)])
  obtain ⟨T102, X102, e102, st102⟩ := getF X101 hx hZ hown (host := "") (Or.inl (hw _ (List.mem_of_getElem? (i := 31) rfl))) Via.refl e101 Fc1 (g := (mkF m 7 #[.val (.ref s1)] [(.ref s1)])) rfl rfl (hb hby d14_7)
  refine Go.of (fun _ hr => st102 _ hr) ?_
  show Go p e s below _ _ _ _ T102 (mkF m 10 #[.val (.ref s1)] [(.int (0 : Int32))])
  refine Go.of (fun _ hr => XS.ifNo X102.here hx rfl (hb hby d14_10) rfl ((if0 _ _).trans (teq (by decide : ((0 : Int32) = (0 : Int32)))).2) hr) ?_
  show Go p e s below _ _ _ _ T102 (mkF m 13 #[.val (.ref s1)] [])
  refine Go.of (fun _ hr => XS.iconst X102.here hx rfl (hb hby d14_13) hr) ?_
  show Go p e s below _ _ _ _ T102 (mkF m 14 #[.val (.ref s1)] [(.int (1 : Int32))])
  refine Go.of (fun _ hr => XS.goto X102.here hx rfl (pc0 := 14) (pc' := 18) rfl (hb hby d14_14) (by decide) (by decide) hr) ?_
  show Go p e s below _ _ _ _ T102 (mkF m 18 #[.val (.ref s1)] [(.int (1 : Int32))])
  exact Go.retN X102 hx hlk B0 J0 e102 (t := .boolean) (z' := (1 : Int32)) hret (by simp) (hb hby d14_18) rfl (by decide) (by decide) (fun vm_ hw_ => ⟨rfl, (fun y hy => Nat.le_trans hnb (N0 y hy)), rfl⟩)

theorem d14_17 : decode jdk_42_method_154_code 17 = .ok (.iconst 0, 1) := by decide +kernel
set_option maxRecDepth 65536 in
set_option maxHeartbeats 40000000 in
theorem rmU14 (l : Launch) (Z : State) (a0 : Array Value) (hw : ∀ d ∈ tables_1, d.before a0 Z = true) (ws : List Jvm.Cond) (s1 : Addr) (zc : Int32) (ms : List Addr) (h0 : Heap) (n0 : Nat) (O0 : Old Z n0 h0) (nb : Nat) (hb0 : n0 ≤ nb) (hnb : nb ≤ h0.size) (Fc1 : Fld Z h0 s1 "java/lang/String" "coder" "B" (.int 1)) (S_C : Sta Z Z.heap "java/lang/String" "COMPACT_STRINGS" "Z" (.int zc)) (hzc : ¬ zc = 0) :
    Con l Z ms (⟨"java/lang/String", "isLatin1", "()Z"⟩ : MethodName) jdk_42_method_154_code 1 (some .boolean) ws ({ frames := 0, cells := 0, slots := 0, locals := 0 } : Room) #[(.ref s1)] h0 (fun v vm h L => v = some (.int 0) ∧ Fr nb L ∧ h = h0) := by
  refine Con.mk (plainFor_of_name pn1) ?_
  intro p e s m below meth c s₁ Cc X0 e0 eb J0 B0 M0
  obtain ⟨hx, hZ, hown, hby, hml, hnm, hret, hlk⟩ := id Cc
  have N0 := Fr.nil h0.size
  have K0 := Keep.refl h0 []
  show Go p e s below _ _ _ _ s₁ (mkF m 0 #[.val (.ref s1)] [])
  obtain ⟨T101, X101, e101, st101⟩ := getS2 X0 hx hZ hown (host := "") (Or.inl (hw _ (List.mem_of_getElem? (i := 19) rfl))) Via.refl e0 (S_C.ext O0.2) (g := (mkF m 0 #[.val (.ref s1)] [])) rfl (hb hby d14_0)
  refine Go.of (fun _ hr => st101 _ hr) ?_
  show Go p e s below _ _ _ _ T101 (mkF m 3 #[.val (.ref s1)] [(.int zc)])
  refine Go.of (fun _ hr => XS.ifNo X101.here hx rfl (hb hby d14_3) rfl ((if0 _ _).trans (feq hzc).1) hr) ?_
  show Go p e s below _ _ _ _ T101 (mkF m 6 #[.val (.ref s1)] [])
  refine Go.of (fun _ hr => XS.aloadN X101.here hx rfl (hb hby d14_6) rfl rfl hr) ?_
  show Go p e s below _ _ _ _ T101 (mkF m 7 #[.val (.ref s1)] [(.ref s1)])
  obtain ⟨T102, X102, e102, st102⟩ := getF X101 hx hZ hown (host := "") (Or.inl (hw _ (List.mem_of_getElem? (i := 31) rfl))) Via.refl e101 Fc1 (g := (mkF m 7 #[.val (.ref s1)] [(.ref s1)])) rfl rfl (hb hby d14_7)
  refine Go.of (fun _ hr => st102 _ hr) ?_
  show Go p e s below _ _ _ _ T102 (mkF m 10 #[.val (.ref s1)] [(.int (1 : Int32))])
  refine Go.of (fun _ hr => XS.ifYes X102.here hx rfl (pc0 := 10) (pc' := 17) rfl (hb hby d14_10) rfl ((if0 _ _).trans (feq (by decide : ¬ ((1 : Int32) = (0 : Int32)))).2) (by decide) (by decide) hr) ?_
  show Go p e s below _ _ _ _ T102 (mkF m 17 #[.val (.ref s1)] [])
  refine Go.of (fun _ hr => XS.iconst X102.here hx rfl (hb hby d14_17) hr) ?_
  show Go p e s below _ _ _ _ T102 (mkF m 18 #[.val (.ref s1)] [(.int (0 : Int32))])
  exact Go.retN X102 hx hlk B0 J0 e102 (t := .boolean) (z' := (0 : Int32)) hret (by simp) (hb hby d14_18) rfl (by decide) (by decide) (fun vm_ hw_ => ⟨rfl, (fun y hy => Nat.le_trans hnb (N0 y hy)), rfl⟩)

theorem pn2 : plainName "jdk/internal/util/Preconditions" = true := by first | (simp [plainName, overriddenIn]; done) | decide +kernel
theorem d17_0 : decode jdk_41_method_11_code 0 = .ok (.iload_n 0, 1) := by decide +kernel
theorem d17_1 : decode jdk_41_method_11_code 1 = .ok (.ifCond .lt 8, 3) := by decide +kernel
theorem d17_4 : decode jdk_41_method_11_code 4 = .ok (.iload_n 0, 1) := by decide +kernel
theorem d17_5 : decode jdk_41_method_11_code 5 = .ok (.iload_n 1, 1) := by decide +kernel
theorem d17_6 : decode jdk_41_method_11_code 6 = .ok (.if_icmp .lt 10, 3) := by decide +kernel
theorem d17_16 : decode jdk_41_method_11_code 16 = .ok (.iload_n 0, 1) := by decide +kernel
theorem d17_17 : decode jdk_41_method_11_code 17 = .ok (.ireturn, 1) := by decide +kernel
set_option maxRecDepth 65536 in
set_option maxHeartbeats 40000000 in
theorem rm17 (l : Launch) (Z : State) (a0 : Array Value) (hw : ∀ d ∈ tables_1, d.before a0 Z = true) (ws : List Jvm.Cond) (i1 j1 : Int32) (f1 : Value) (ms : List Addr) (h0 : Heap) (n0 : Nat) (O0 : Old Z n0 h0) (nb : Nat) (hb0 : n0 ≤ nb) (hnb : nb ≤ h0.size) (hfs : f1 = .null ∨ ∃ a, f1 = .ref a) (i0 : ¬ i1 < 0) (i9 : i1 < j1) :
    Con l Z ms (⟨"jdk/internal/util/Preconditions", "checkIndex", "(IILjava/util/function/BiFunction;)I"⟩ : MethodName) jdk_41_method_11_code 3 (some .int) ws ({ frames := 0, cells := 0, slots := 0, locals := 0 } : Room) #[(.int i1), (.int j1), f1] h0 (fun v vm h L => v = some (.int i1) ∧ Fr nb L ∧ h = h0) := by
  rcases hfs with rfl | ⟨fa, rfl⟩
  · refine Con.mk (plainFor_of_name pn2) ?_
    intro p e s m below meth c s₁ Cc X0 e0 eb J0 B0 M0
    obtain ⟨hx, hZ, hown, hby, hml, hnm, hret, hlk⟩ := id Cc
    have N0 := Fr.nil h0.size
    have K0 := Keep.refl h0 []
    show Go p e s below _ _ _ _ s₁ (mkF m 0 #[.val (.int i1), .val (.int j1), .val _] [])
    refine Go.of (fun _ hr => XS.iloadN X0.here hx rfl (hb hby d17_0) rfl  hr) ?_
    show Go p e s below _ _ _ _ s₁ (mkF m 1 #[.val (.int i1), .val (.int j1), .val _] [(.int i1)])
    refine Go.of (fun _ hr => XS.ifNo X0.here hx rfl (hb hby d17_1) rfl ((if0 _ _).trans (flt i0).1) hr) ?_
    show Go p e s below _ _ _ _ s₁ (mkF m 4 #[.val (.int i1), .val (.int j1), .val _] [])
    refine Go.of (fun _ hr => XS.iloadN X0.here hx rfl (hb hby d17_4) rfl  hr) ?_
    show Go p e s below _ _ _ _ s₁ (mkF m 5 #[.val (.int i1), .val (.int j1), .val _] [(.int i1)])
    refine Go.of (fun _ hr => XS.iloadN X0.here hx rfl (hb hby d17_5) rfl  hr) ?_
    show Go p e s below _ _ _ _ s₁ (mkF m 6 #[.val (.int i1), .val (.int j1), .val _] [(.int j1), (.int i1)])
    refine Go.of (fun _ hr => XS.icmpYes X0.here hx rfl (pc0 := 6) (pc' := 16) rfl (hb hby d17_6) rfl (tlt i9).1 (by decide) (by decide) hr) ?_
    show Go p e s below _ _ _ _ s₁ (mkF m 16 #[.val (.int i1), .val (.int j1), .val _] [])
    refine Go.of (fun _ hr => XS.iloadN X0.here hx rfl (hb hby d17_16) rfl  hr) ?_
    show Go p e s below _ _ _ _ s₁ (mkF m 17 #[.val (.int i1), .val (.int j1), .val _] [(.int i1)])
    exact Go.retI X0 hx hlk B0 J0 e0 hret (hb hby d17_17) (by decide) (by decide) (fun vm_ hw_ => ⟨rfl, (fun y hy => Nat.le_trans hnb (N0 y hy)), rfl⟩)
  · refine Con.mk (plainFor_of_name pn2) ?_
    intro p e s m below meth c s₁ Cc X0 e0 eb J0 B0 M0
    obtain ⟨hx, hZ, hown, hby, hml, hnm, hret, hlk⟩ := id Cc
    have N0 := Fr.nil h0.size
    have K0 := Keep.refl h0 []
    show Go p e s below _ _ _ _ s₁ (mkF m 0 #[.val (.int i1), .val (.int j1), .val _] [])
    refine Go.of (fun _ hr => XS.iloadN X0.here hx rfl (hb hby d17_0) rfl  hr) ?_
    show Go p e s below _ _ _ _ s₁ (mkF m 1 #[.val (.int i1), .val (.int j1), .val _] [(.int i1)])
    refine Go.of (fun _ hr => XS.ifNo X0.here hx rfl (hb hby d17_1) rfl ((if0 _ _).trans (flt i0).1) hr) ?_
    show Go p e s below _ _ _ _ s₁ (mkF m 4 #[.val (.int i1), .val (.int j1), .val _] [])
    refine Go.of (fun _ hr => XS.iloadN X0.here hx rfl (hb hby d17_4) rfl  hr) ?_
    show Go p e s below _ _ _ _ s₁ (mkF m 5 #[.val (.int i1), .val (.int j1), .val _] [(.int i1)])
    refine Go.of (fun _ hr => XS.iloadN X0.here hx rfl (hb hby d17_5) rfl  hr) ?_
    show Go p e s below _ _ _ _ s₁ (mkF m 6 #[.val (.int i1), .val (.int j1), .val _] [(.int j1), (.int i1)])
    refine Go.of (fun _ hr => XS.icmpYes X0.here hx rfl (pc0 := 6) (pc' := 16) rfl (hb hby d17_6) rfl (tlt i9).1 (by decide) (by decide) hr) ?_
    show Go p e s below _ _ _ _ s₁ (mkF m 16 #[.val (.int i1), .val (.int j1), .val _] [])
    refine Go.of (fun _ hr => XS.iloadN X0.here hx rfl (hb hby d17_16) rfl  hr) ?_
    show Go p e s below _ _ _ _ s₁ (mkF m 17 #[.val (.int i1), .val (.int j1), .val _] [(.int i1)])
    exact Go.retI X0 hx hlk B0 J0 e0 hret (hb hby d17_17) (by decide) (by decide) (fun vm_ hw_ => ⟨rfl, (fun y hy => Nat.le_trans hnb (N0 y hy)), rfl⟩)

theorem d16_0 : decode jdk_42_method_155_code 0 = .ok (.iload_n 0, 1) := by decide +kernel
theorem d16_1 : decode jdk_42_method_155_code 1 = .ok (.iload_n 1, 1) := by decide +kernel
theorem d16_2 : decode jdk_42_method_155_code 2 = .ok (.getstatic 1053, 3) := by decide +kernel
theorem d16_5 : decode jdk_42_method_155_code 5 = .ok (.invokestatic 1059, 3) := by decide +kernel
theorem pd9 : parseMethodDescriptor "(IILjava/util/function/BiFunction;)I" = some ⟨[.int, .int, (.object "java/util/function/BiFunction")], some .int⟩ := by decide +kernel
theorem d16_8 : decode jdk_42_method_155_code 8 = .ok (.pop, 1) := by decide +kernel
theorem d16_9 : decode jdk_42_method_155_code 9 = .ok (.return_, 1) := by decide +kernel
set_option maxRecDepth 65536 in
set_option maxHeartbeats 40000000 in
theorem rm16 (l : Launch) (Z : State) (a0 : Array Value) (hw : ∀ d ∈ tables_1, d.before a0 Z = true) (ws : List Jvm.Cond) (i1 j1 : Int32) (ms : List Addr) (h0 : Heap) (n0 : Nat) (O0 : Old Z n0 h0) (nb : Nat) (hb0 : n0 ≤ nb) (hnb : nb ≤ h0.size) (fs : Value) (hfs : fs = .null ∨ ∃ a, fs = .ref a) (S_F : Sta Z Z.heap "jdk/internal/util/Preconditions" "SIOOBE_FORMATTER" "Ljava/util/function/BiFunction;" fs) (i0 : ¬ i1 < 0) (i9 : i1 < j1) :
    Con l Z ms (⟨"java/lang/String", "checkIndex", "(II)V"⟩ : MethodName) jdk_42_method_155_code 2 none ws ({ frames := 1, cells := 0, slots := 0, locals := 14 } : Room) #[(.int i1), (.int j1)] h0 (fun v vm h L => v = none ∧ Fr nb L ∧ h = h0) := by
  refine Con.mk (plainFor_of_name pn1) ?_
  intro p e s m below meth c s₁ Cc X0 e0 eb J0 B0 M0
  obtain ⟨hx, hZ, hown, hby, hml, hnm, hret, hlk⟩ := id Cc
  have N0 := Fr.nil h0.size
  have K0 := Keep.refl h0 []
  show Go p e s below _ _ _ _ s₁ (mkF m 0 #[.val (.int i1), .val (.int j1)] [])
  refine Go.of (fun _ hr => XS.iloadN X0.here hx rfl (hb hby d16_0) rfl  hr) ?_
  show Go p e s below _ _ _ _ s₁ (mkF m 1 #[.val (.int i1), .val (.int j1)] [(.int i1)])
  refine Go.of (fun _ hr => XS.iloadN X0.here hx rfl (hb hby d16_1) rfl  hr) ?_
  show Go p e s below _ _ _ _ s₁ (mkF m 2 #[.val (.int i1), .val (.int j1)] [(.int j1), (.int i1)])
  obtain ⟨T101, X101, e101, st101⟩ := getS2 X0 hx hZ hown (host := "") (Or.inl (hw _ (List.mem_of_getElem? (i := 84) rfl))) Via.refl e0 (S_F.ext O0.2) (g := (mkF m 2 #[.val (.int i1), .val (.int j1)] [(.int j1), (.int i1)])) rfl (hb hby d16_2)
  refine Go.of (fun _ hr => st101 _ hr) ?_
  show Go p e s below _ _ _ _ T101 (mkF m 5 #[.val (.int i1), .val (.int j1)] [fs, (.int j1), (.int i1)])
  obtain ⟨_, b102, T102, h102, L102, e102, Cc102, X102, B102, J102, g102, hQ102, st102⟩ := own_callS Cc B0 J0 X101 (hw _ (List.mem_of_getElem? (i := 86) rfl)) (hw _ (List.mem_of_getElem? (i := 87) rfl)) (hw _ (List.mem_of_getElem? (i := 85) rfl)) (hw _ (List.mem_of_getElem? (i := 88) rfl)) (by decide) (rm17 l Z a0 hw [] i1 j1 fs _ h0 n0 O0 h0.size (own_ole O0) K0.1 hfs i0 i9) e101 (g := (mkF m 5 #[.val (.int i1), .val (.int j1)] [fs, (.int j1), (.int i1)])) rfl (by rw [hml]; rfl) (argsL := [(.int i1), (.int j1), fs]) (rest := []) (lenOf pd9 rfl) rfl (W := 0) (by show 2 * 0 + _ ≤ _; exact Nat.le_of_eq rfl) (hb hby d16_5) (by decide) (by decide) (by decide) (by decide)
  obtain ⟨rfl, Nq102, hh102⟩ := hQ102
  have N102 := Fr.app N0 Nq102
  obtain ⟨hx, hZ, hown, hby, hml, hnm, hret, hlk⟩ := id Cc102
  rw [hh102] at e102 B102 J102
  refine Go.of st102 ?_
  show Go p e s below _ _ _ _ T102 (mkF m 8 #[.val (.int i1), .val (.int j1)] [(.int i1)])
  refine Go.of (fun _ hr => XS.pop X102.here hx rfl (hb hby d16_8) rfl rfl hr) ?_
  show Go p e s below _ _ _ _ T102 (mkF m 9 #[.val (.int i1), .val (.int j1)] [])
  exact Go.retV X102 hx hlk B102 J102 e102 hret (hb hby d16_9) (by decide) (by decide) (fun vm_ hw_ => ⟨rfl, (fun y hy => Nat.le_trans hnb (N102 y hy)), rfl⟩)

theorem pn3 : plainName "java/lang/StringLatin1" = true := by first | (simp [plainName, overriddenIn]; done) | decide +kernel
theorem d15_0 : decode jdk_43_method_2_code 0 = .ok (.iload_n 1, 1) := by decide +kernel
theorem d15_1 : decode jdk_43_method_2_code 1 = .ok (.aload_n 0, 1) := by decide +kernel
theorem d15_2 : decode jdk_43_method_2_code 2 = .ok (.arraylength, 1) := by decide +kernel
theorem d15_3 : decode jdk_43_method_2_code 3 = .ok (.invokestatic 9, 3) := by decide +kernel
theorem pd10 : parseMethodDescriptor "(II)V" = some ⟨[.int, .int], none⟩ := by decide +kernel
theorem d15_6 : decode jdk_43_method_2_code 6 = .ok (.aload_n 0, 1) := by decide +kernel
theorem d15_7 : decode jdk_43_method_2_code 7 = .ok (.iload_n 1, 1) := by decide +kernel
theorem d15_8 : decode jdk_43_method_2_code 8 = .ok (.baload, 1) := by decide +kernel
theorem d15_9 : decode jdk_43_method_2_code 9 = .ok (.sipush 255, 3) := by decide +kernel
theorem d15_12 : decode jdk_43_method_2_code 12 = .ok (.iand, 1) := by decide +kernel
theorem d15_13 : decode jdk_43_method_2_code 13 = .ok (.i2c, 1) := by decide +kernel
theorem d15_14 : decode jdk_43_method_2_code 14 = .ok (.ireturn, 1) := by decide +kernel
set_option maxRecDepth 65536 in
set_option maxHeartbeats 40000000 in
theorem rm15 (l : Launch) (Z : State) (a0 : Array Value) (hw : ∀ d ∈ tables_1, d.before a0 Z = true) (ws : List Jvm.Cond) (t1 : Addr) (k1 : ClassId) (b1 : List Int32) (i1 : Int32) (ms : List Addr) (h0 : Heap) (n0 : Nat) (O0 : Old Z n0 h0) (nb : Nat) (hb0 : n0 ≤ nb) (hnb : nb ≤ h0.size) (fs : Value) (hfs : fs = .null ∨ ∃ a, fs = .ref a) (S_F : Sta Z Z.heap "jdk/internal/util/Preconditions" "SIOOBE_FORMATTER" "Ljava/util/function/BiFunction;" fs) (V1 : Arv Z h0 t1 k1 .byte (Int32.ofNat b1.length) (b1.map Value.int) (.int 0)) (i0 : ¬ i1 < 0) (i9 : i1 < Int32.ofNat b1.length) :
    Con l Z ms (⟨"java/lang/StringLatin1", "charAt", "([BI)C"⟩ : MethodName) jdk_43_method_2_code 2 (some .char) ws ({ frames := 2, cells := 0, slots := 0, locals := 27 } : Room) #[(.ref t1), (.int i1)] h0 (fun v vm h L => v = some (.int (chV b1 i1)) ∧ Fr nb L ∧ h = h0) := by
  refine Con.mk (plainFor_of_name pn3) ?_
  intro p e s m below meth c s₁ Cc X0 e0 eb J0 B0 M0
  obtain ⟨hx, hZ, hown, hby, hml, hnm, hret, hlk⟩ := id Cc
  have N0 := Fr.nil h0.size
  have K0 := Keep.refl h0 []
  show Go p e s below _ _ _ _ s₁ (mkF m 0 #[.val (.ref t1), .val (.int i1)] [])
  refine Go.of (fun _ hr => XS.iloadN X0.here hx rfl (hb hby d15_0) rfl  hr) ?_
  show Go p e s below _ _ _ _ s₁ (mkF m 1 #[.val (.ref t1), .val (.int i1)] [(.int i1)])
  refine Go.of (fun _ hr => XS.aloadN X0.here hx rfl (hb hby d15_1) rfl rfl hr) ?_
  show Go p e s below _ _ _ _ s₁ (mkF m 2 #[.val (.ref t1), .val (.int i1)] [(.ref t1), (.int i1)])
  obtain ⟨cl101, Ar101, q101, S101, N101_, H101, G101⟩ := id V1
  refine Go.of (fun _ hr => X0.arraylength hx (by rw [e0]; exact Ar101.1) (State.isArrayOf_alike hZ.alike Ar101.2.1) (g := (mkF m 2 #[.val (.ref t1), .val (.int i1)] [(.ref t1), (.int i1)])) rfl rfl (hb hby d15_2) _ hr) ?_
  rw [len_of S101 N101_]
  show Go p e s below _ _ _ _ s₁ (mkF m 3 #[.val (.ref t1), .val (.int i1)] [(.int (Int32.ofNat b1.length)), (.int i1)])
  obtain ⟨_, b102, T102, h102, L102, e102, Cc102, X102, B102, J102, g102, hQ102, st102⟩ := own_callS Cc B0 J0 X0 (hw _ (List.mem_of_getElem? (i := 81) rfl)) (hw _ (List.mem_of_getElem? (i := 82) rfl)) (hw _ (List.mem_of_getElem? (i := 8) rfl)) (hw _ (List.mem_of_getElem? (i := 83) rfl)) (by decide) (rm16 l Z a0 hw [] i1 (Int32.ofNat b1.length) _ h0 n0 O0 h0.size (own_ole O0) K0.1 fs hfs S_F i0 i9) e0 (g := (mkF m 3 #[.val (.ref t1), .val (.int i1)] [(.int (Int32.ofNat b1.length)), (.int i1)])) rfl (by rw [hml]; rfl) (argsL := [(.int i1), (.int (Int32.ofNat b1.length))]) (rest := []) (lenOf pd10 rfl) rfl (W := 0) (by show 2 * 0 + _ ≤ _; exact Nat.le_of_eq rfl) (hb hby d15_3) (by decide) (by decide) (by decide) (by decide)
  obtain ⟨rfl, Nq102, hh102⟩ := hQ102
  have N102 := Fr.app N0 Nq102
  obtain ⟨hx, hZ, hown, hby, hml, hnm, hret, hlk⟩ := id Cc102
  rw [hh102] at e102 B102 J102
  refine Go.of st102 ?_
  show Go p e s below _ _ _ _ T102 (mkF m 6 #[.val (.ref t1), .val (.int i1)] [])
  refine Go.of (fun _ hr => XS.aloadN X102.here hx rfl (hb hby d15_6) rfl rfl hr) ?_
  show Go p e s below _ _ _ _ T102 (mkF m 7 #[.val (.ref t1), .val (.int i1)] [(.ref t1)])
  refine Go.of (fun _ hr => XS.iloadN X102.here hx rfl (hb hby d15_7) rfl  hr) ?_
  show Go p e s below _ _ _ _ T102 (mkF m 8 #[.val (.ref t1), .val (.int i1)] [(.int i1), (.ref t1)])
  obtain ⟨cl103, Ar103, q103, S103, N103_, H103, G103⟩ := id V1
  have hin103 : ¬ (i1 < 0 ∨ cl103.slots.size ≤ (i1).toNatClampNeg) := inb_of S103 ⟨i0, i9⟩
  refine Go.of (fun _ hr => X102.baloadBytes hx (j := i1) (v := (.int (b1.getD i1.toNatClampNeg 0))) (by rw [e102]; exact Ar103.1) (State.isArrayOf_alike hZ.alike Ar103.2.1) Ar103.2.2 hin103 (H103.at hin103 (getD_int b1 _)) (g := (mkF m 8 #[.val (.ref t1), .val (.int i1)] [(.int i1), (.ref t1)])) rfl rfl (hb hby d15_8) _ hr) ?_
  show Go p e s below _ _ _ _ T102 (mkF m 9 #[.val (.ref t1), .val (.int i1)] [(.int (b1.getD i1.toNatClampNeg 0))])
  refine Go.of (fun _ hr => XS.sipush X102.here hx rfl (hb hby d15_9) hr) ?_
  show Go p e s below _ _ _ _ T102 (mkF m 12 #[.val (.ref t1), .val (.int i1)] [(.int (255 : Int32)), (.int (b1.getD i1.toNatClampNeg 0))])
  refine Go.of (fun _ hr => XS.iand X102.here hx rfl (hb hby d15_12) rfl hr) ?_
  show Go p e s below _ _ _ _ T102 (mkF m 13 #[.val (.ref t1), .val (.int i1)] [(.int ((b1.getD i1.toNatClampNeg 0) &&& (255 : Int32)))])
  refine Go.of (fun _ hr => XS.i2c X102.here hx rfl (hb hby d15_13) rfl hr) ?_
  show Go p e s below _ _ _ _ T102 (mkF m 14 #[.val (.ref t1), .val (.int i1)] [(.int (((b1.getD i1.toNatClampNeg 0) &&& (255 : Int32)).toUInt32.toUInt16.toUInt32.toInt32))])
  exact Go.retN X102 hx hlk B102 J102 e102 (t := .char) (z' := (((b1.getD i1.toNatClampNeg 0) &&& (255 : Int32)).toUInt32.toUInt16.toUInt32.toInt32)) hret (by simp) (hb hby d15_14) (own_c2 _) (by decide) (by decide) (fun vm_ hw_ => ⟨rfl, (fun y hy => Nat.le_trans hnb (N102 y hy)), rfl⟩)

theorem d36_0 : decode jdk_52_method_6_code 0 = .ok (.aload_n 0, 1) := by decide +kernel
theorem d36_1 : decode jdk_52_method_6_code 1 = .ok (.arraylength, 1) := by decide +kernel
theorem d36_2 : decode jdk_52_method_6_code 2 = .ok (.iconst 1, 1) := by decide +kernel
theorem d36_3 : decode jdk_52_method_6_code 3 = .ok (.ishr, 1) := by decide +kernel
theorem d36_4 : decode jdk_52_method_6_code 4 = .ok (.ireturn, 1) := by decide +kernel
set_option maxRecDepth 65536 in
set_option maxHeartbeats 40000000 in
theorem rm36 (l : Launch) (Z : State) (a0 : Array Value) (hw : ∀ d ∈ tables_1, d.before a0 Z = true) (ws : List Jvm.Cond) (t1 : Addr) (k1 : ClassId) (us : List Int32) (q : Nat) (ms : List Addr) (h0 : Heap) (n0 : Nat) (O0 : Old Z n0 h0) (nb : Nat) (hb0 : n0 ≤ nb) (hnb : nb ≤ h0.size) (hq : q ≤ 1000) (V1 : Arv Z h0 t1 k1 .byte (Int32.ofNat (2 * q)) (us.map Value.int) (.int 0)) :
    Con l Z ms (⟨"java/lang/StringUTF16", "length", "([B)I"⟩ : MethodName) jdk_52_method_6_code 1 (some .int) ws ({ frames := 0, cells := 0, slots := 0, locals := 0 } : Room) #[(.ref t1)] h0 (fun v vm h L => v = some (.int (Int32.ofNat q)) ∧ Fr nb L ∧ h = h0) := by
  refine Con.mk (plainFor_of_name pn0) ?_
  intro p e s m below meth c s₁ Cc X0 e0 eb J0 B0 M0
  obtain ⟨hx, hZ, hown, hby, hml, hnm, hret, hlk⟩ := id Cc
  have N0 := Fr.nil h0.size
  have K0 := Keep.refl h0 []
  show Go p e s below _ _ _ _ s₁ (mkF m 0 #[.val (.ref t1)] [])
  refine Go.of (fun _ hr => XS.aloadN X0.here hx rfl (hb hby d36_0) rfl rfl hr) ?_
  show Go p e s below _ _ _ _ s₁ (mkF m 1 #[.val (.ref t1)] [(.ref t1)])
  obtain ⟨cl101, Ar101, q101, S101, N101_, H101, G101⟩ := id V1
  refine Go.of (fun _ hr => X0.arraylength hx (by rw [e0]; exact Ar101.1) (State.isArrayOf_alike hZ.alike Ar101.2.1) (g := (mkF m 1 #[.val (.ref t1)] [(.ref t1)])) rfl rfl (hb hby d36_1) _ hr) ?_
  rw [len_of S101 N101_]
  show Go p e s below _ _ _ _ s₁ (mkF m 2 #[.val (.ref t1)] [(.int (Int32.ofNat (2 * q)))])
  refine Go.of (fun _ hr => XS.iconst X0.here hx rfl (hb hby d36_2) hr) ?_
  show Go p e s below _ _ _ _ s₁ (mkF m 3 #[.val (.ref t1)] [(.int (1 : Int32)), (.int (Int32.ofNat (2 * q)))])
  refine Go.of (fun _ hr => XS.ishr X0.here hx rfl (hb hby d36_3) rfl hr) ?_
  show Go p e s below _ _ _ _ s₁ (mkF m 4 #[.val (.ref t1)] [(.int ((Int32.ofNat (2 * q)) >>> ((1 : Int32) &&& 31)))])
  rw [oi_shr1 (by omega)]
  show Go p e s below _ _ _ _ s₁ (mkF m 4 #[.val (.ref t1)] [(.int (Int32.ofNat q))])
  exact Go.retI X0 hx hlk B0 J0 e0 hret (hb hby d36_4) (by decide) (by decide) (fun vm_ hw_ => ⟨rfl, (fun y hy => Nat.le_trans hnb (N0 y hy)), rfl⟩)

theorem d35_0 : decode jdk_52_method_91_code 0 = .ok (.iload_n 0, 1) := by decide +kernel
theorem d35_1 : decode jdk_52_method_91_code 1 = .ok (.aload_n 1, 1) := by decide +kernel
theorem d35_2 : decode jdk_52_method_91_code 2 = .ok (.invokestatic 48, 3) := by decide +kernel
theorem pd11 : parseMethodDescriptor "([B)I" = some ⟨[(.array .byte)], some .int⟩ := by decide +kernel
theorem d35_5 : decode jdk_52_method_91_code 5 = .ok (.invokestatic 414, 3) := by decide +kernel
theorem d35_8 : decode jdk_52_method_91_code 8 = .ok (.return_, 1) := by decide +kernel
set_option maxRecDepth 65536 in
set_option maxHeartbeats 40000000 in
theorem rm35 (l : Launch) (Z : State) (a0 : Array Value) (hw : ∀ d ∈ tables_1, d.before a0 Z = true) (ws : List Jvm.Cond) (t1 : Addr) (k1 : ClassId) (us : List Int32) (q i : Nat) (ms : List Addr) (h0 : Heap) (n0 : Nat) (O0 : Old Z n0 h0) (nb : Nat) (hb0 : n0 ≤ nb) (hnb : nb ≤ h0.size) (fs : Value) (hfs : fs = .null ∨ ∃ a, fs = .ref a) (S_F : Sta Z Z.heap "jdk/internal/util/Preconditions" "SIOOBE_FORMATTER" "Ljava/util/function/BiFunction;" fs) (hq : q ≤ 1000) (hi : i < q) (V1 : Arv Z h0 t1 k1 .byte (Int32.ofNat (2 * q)) (us.map Value.int) (.int 0)) :
    Con l Z ms (⟨"java/lang/StringUTF16", "checkIndex", "(I[B)V"⟩ : MethodName) jdk_52_method_91_code 2 none ws ({ frames := 2, cells := 0, slots := 0, locals := 27 } : Room) #[(.int (Int32.ofNat i)), (.ref t1)] h0 (fun v vm h L => v = none ∧ Fr nb L ∧ h = h0) := by
  refine Con.mk (plainFor_of_name pn0) ?_
  intro p e s m below meth c s₁ Cc X0 e0 eb J0 B0 M0
  obtain ⟨hx, hZ, hown, hby, hml, hnm, hret, hlk⟩ := id Cc
  have N0 := Fr.nil h0.size
  have K0 := Keep.refl h0 []
  show Go p e s below _ _ _ _ s₁ (mkF m 0 #[.val (.int (Int32.ofNat i)), .val (.ref t1)] [])
  refine Go.of (fun _ hr => XS.iloadN X0.here hx rfl (hb hby d35_0) rfl  hr) ?_
  show Go p e s below _ _ _ _ s₁ (mkF m 1 #[.val (.int (Int32.ofNat i)), .val (.ref t1)] [(.int (Int32.ofNat i))])
  refine Go.of (fun _ hr => XS.aloadN X0.here hx rfl (hb hby d35_1) rfl rfl hr) ?_
  show Go p e s below _ _ _ _ s₁ (mkF m 2 #[.val (.int (Int32.ofNat i)), .val (.ref t1)] [(.ref t1), (.int (Int32.ofNat i))])
  obtain ⟨_, b101, T101, h101, L101, e101, Cc101, X101, B101, J101, g101, hQ101, st101⟩ := own_callS Cc B0 J0 X0 (hw _ (List.mem_of_getElem? (i := 166) rfl)) (hw _ (List.mem_of_getElem? (i := 167) rfl)) (hw _ (List.mem_of_getElem? (i := 22) rfl)) (hw _ (List.mem_of_getElem? (i := 168) rfl)) (by decide) (rm36 l Z a0 hw [] t1 _ us q _ h0 n0 O0 h0.size (own_ole O0) K0.1 hq V1) e0 (g := (mkF m 2 #[.val (.int (Int32.ofNat i)), .val (.ref t1)] [(.ref t1), (.int (Int32.ofNat i))])) rfl (by rw [hml]; rfl) (argsL := [(.ref t1)]) (rest := [(.int (Int32.ofNat i))]) (lenOf pd11 rfl) rfl (W := 1) (by show 2 * 0 + _ ≤ _; exact Nat.le_of_eq rfl) (hb hby d35_2) (by decide) (by decide) (by decide) (by decide)
  obtain ⟨rfl, Nq101, hh101⟩ := hQ101
  have N101 := Fr.app N0 Nq101
  obtain ⟨hx, hZ, hown, hby, hml, hnm, hret, hlk⟩ := id Cc101
  rw [hh101] at e101 B101 J101
  refine Go.of st101 ?_
  show Go p e s below _ _ _ _ T101 (mkF m 5 #[.val (.int (Int32.ofNat i)), .val (.ref t1)] [(.int (Int32.ofNat q)), (.int (Int32.ofNat i))])
  obtain ⟨_, b102, T102, h102, L102, e102, Cc102, X102, B102, J102, g102, hQ102, st102⟩ := own_callS Cc101 B101 J101 X101 (hw _ (List.mem_of_getElem? (i := 169) rfl)) (hw _ (List.mem_of_getElem? (i := 82) rfl)) (hw _ (List.mem_of_getElem? (i := 8) rfl)) (hw _ (List.mem_of_getElem? (i := 83) rfl)) (by decide) (rm16 l Z a0 hw [] (Int32.ofNat i) (Int32.ofNat q) _ h0 n0 O0 h0.size (own_ole O0) K0.1 fs hfs S_F (oi_nn (by omega)) (oi_lt (by omega) (by omega) hi)) e101 (g := (mkF m 5 #[.val (.int (Int32.ofNat i)), .val (.ref t1)] [(.int (Int32.ofNat q)), (.int (Int32.ofNat i))])) rfl (by rw [hml]; rfl) (argsL := [(.int (Int32.ofNat i)), (.int (Int32.ofNat q))]) (rest := []) (lenOf pd10 rfl) rfl (W := 0) (by show 2 * 0 + _ ≤ _; exact Nat.le_of_eq rfl) (hb hby d35_5) (by decide) (by decide) (by decide) (by decide)
  obtain ⟨rfl, Nq102, hh102⟩ := hQ102
  have N102 := Fr.app N101 Nq102
  obtain ⟨hx, hZ, hown, hby, hml, hnm, hret, hlk⟩ := id Cc102
  rw [hh102] at e102 B102 J102
  refine Go.of st102 ?_
  show Go p e s below _ _ _ _ T102 (mkF m 8 #[.val (.int (Int32.ofNat i)), .val (.ref t1)] [])
  exact Go.retV X102 hx hlk B102 J102 e102 hret (hb hby d35_8) (by decide) (by decide) (fun vm_ hw_ => ⟨rfl, (fun y hy => Nat.le_trans hnb (N102 y hy)), rfl⟩)

theorem d34_0 : decode jdk_52_method_83_code 0 = .ok (.iload_n 1, 1) := by decide +kernel
theorem d34_1 : decode jdk_52_method_83_code 1 = .ok (.aload_n 0, 1) := by decide +kernel
theorem d34_2 : decode jdk_52_method_83_code 2 = .ok (.invokestatic 67, 3) := by decide +kernel
theorem pd12 : parseMethodDescriptor "(I[B)V" = some ⟨[.int, (.array .byte)], none⟩ := by decide +kernel
theorem d34_5 : decode jdk_52_method_83_code 5 = .ok (.aload_n 0, 1) := by decide +kernel
theorem d34_6 : decode jdk_52_method_83_code 6 = .ok (.iload_n 1, 1) := by decide +kernel
theorem d34_7 : decode jdk_52_method_83_code 7 = .ok (.invokestatic 71, 3) := by decide +kernel
theorem d34_10 : decode jdk_52_method_83_code 10 = .ok (.ireturn, 1) := by decide +kernel
set_option maxRecDepth 65536 in
set_option maxHeartbeats 40000000 in
theorem rm34 (l : Launch) (Z : State) (a0 : Array Value) (hw : ∀ d ∈ tables_1, d.before a0 Z = true) (ws : List Jvm.Cond) (t1 : Addr) (k1 : ClassId) (us : List Int32) (q i : Nat) (ms : List Addr) (h0 : Heap) (n0 : Nat) (O0 : Old Z n0 h0) (nb : Nat) (hb0 : n0 ≤ nb) (hnb : nb ≤ h0.size) (fs : Value) (hfs : fs = .null ∨ ∃ a, fs = .ref a) (S_F : Sta Z Z.heap "jdk/internal/util/Preconditions" "SIOOBE_FORMATTER" "Ljava/util/function/BiFunction;" fs) (S_D : Sta Z Z.heap "java/lang/StringUTF16" "$assertionsDisabled" "Z" (.int 1)) (S_H : Sta Z Z.heap "java/lang/StringUTF16" "HI_BYTE_SHIFT" "I" (.int 0)) (S_L : Sta Z Z.heap "java/lang/StringUTF16" "LO_BYTE_SHIFT" "I" (.int 8)) (hq : q ≤ 1000) (hi : i < q) (V1 : Arv Z h0 t1 k1 .byte (Int32.ofNat (2 * q)) (us.map Value.int) (.int 0)) :
    Con l Z ms (⟨"java/lang/StringUTF16", "charAt", "([BI)C"⟩ : MethodName) jdk_52_method_83_code 2 (some .char) ws ({ frames := 3, cells := 0, slots := 0, locals := 40 } : Room) #[(.ref t1), (.int (Int32.ofNat i))] h0 (fun v vm h L => v = some (.int (ch16 (us.getD (2 * i) 0) (us.getD (2 * i + 1) 0))) ∧ Fr nb L ∧ h = h0) := by
  refine Con.mk (plainFor_of_name pn0) ?_
  intro p e s m below meth c s₁ Cc X0 e0 eb J0 B0 M0
  obtain ⟨hx, hZ, hown, hby, hml, hnm, hret, hlk⟩ := id Cc
  have N0 := Fr.nil h0.size
  have K0 := Keep.refl h0 []
  show Go p e s below _ _ _ _ s₁ (mkF m 0 #[.val (.ref t1), .val (.int (Int32.ofNat i))] [])
  refine Go.of (fun _ hr => XS.iloadN X0.here hx rfl (hb hby d34_0) rfl  hr) ?_
  show Go p e s below _ _ _ _ s₁ (mkF m 1 #[.val (.ref t1), .val (.int (Int32.ofNat i))] [(.int (Int32.ofNat i))])
  refine Go.of (fun _ hr => XS.aloadN X0.here hx rfl (hb hby d34_1) rfl rfl hr) ?_
  show Go p e s below _ _ _ _ s₁ (mkF m 2 #[.val (.ref t1), .val (.int (Int32.ofNat i))] [(.ref t1), (.int (Int32.ofNat i))])
  obtain ⟨_, b101, T101, h101, L101, e101, Cc101, X101, B101, J101, g101, hQ101, st101⟩ := own_callS Cc B0 J0 X0 (hw _ (List.mem_of_getElem? (i := 163) rfl)) (hw _ (List.mem_of_getElem? (i := 164) rfl)) (hw _ (List.mem_of_getElem? (i := 22) rfl)) (hw _ (List.mem_of_getElem? (i := 165) rfl)) (by decide) (rm35 l Z a0 hw [] t1 _ us q i _ h0 n0 O0 h0.size (own_ole O0) K0.1 fs hfs S_F hq hi V1) e0 (g := (mkF m 2 #[.val (.ref t1), .val (.int (Int32.ofNat i))] [(.ref t1), (.int (Int32.ofNat i))])) rfl (by rw [hml]; rfl) (argsL := [(.int (Int32.ofNat i)), (.ref t1)]) (rest := []) (lenOf pd12 rfl) rfl (W := 0) (by show 2 * 0 + _ ≤ _; exact Nat.le_of_eq rfl) (hb hby d34_2) (by decide) (by decide) (by decide) (by decide)
  obtain ⟨rfl, Nq101, hh101⟩ := hQ101
  have N101 := Fr.app N0 Nq101
  obtain ⟨hx, hZ, hown, hby, hml, hnm, hret, hlk⟩ := id Cc101
  rw [hh101] at e101 B101 J101
  refine Go.of st101 ?_
  show Go p e s below _ _ _ _ T101 (mkF m 5 #[.val (.ref t1), .val (.int (Int32.ofNat i))] [])
  refine Go.of (fun _ hr => XS.aloadN X101.here hx rfl (hb hby d34_5) rfl rfl hr) ?_
  show Go p e s below _ _ _ _ T101 (mkF m 6 #[.val (.ref t1), .val (.int (Int32.ofNat i))] [(.ref t1)])
  refine Go.of (fun _ hr => XS.iloadN X101.here hx rfl (hb hby d34_6) rfl  hr) ?_
  show Go p e s below _ _ _ _ T101 (mkF m 7 #[.val (.ref t1), .val (.int (Int32.ofNat i))] [(.int (Int32.ofNat i)), (.ref t1)])
  obtain ⟨_, b102, T102, h102, L102, e102, Cc102, X102, B102, J102, g102, hQ102, st102⟩ := own_callS Cc101 B101 J101 X101 (hw _ (List.mem_of_getElem? (i := 157) rfl)) (hw _ (List.mem_of_getElem? (i := 158) rfl)) (hw _ (List.mem_of_getElem? (i := 22) rfl)) (hw _ (List.mem_of_getElem? (i := 159) rfl)) (by decide) (rm33 l Z a0 hw [] t1 _ us q i _ h0 n0 O0 h0.size (own_ole O0) K0.1 S_D S_H S_L hq hi V1) e101 (g := (mkF m 7 #[.val (.ref t1), .val (.int (Int32.ofNat i))] [(.int (Int32.ofNat i)), (.ref t1)])) rfl (by rw [hml]; rfl) (argsL := [(.ref t1), (.int (Int32.ofNat i))]) (rest := []) (lenOf pd5 rfl) rfl (W := 0) (by show 2 * 0 + _ ≤ _; exact Nat.le_of_eq rfl) (hb hby d34_7) (by decide) (by decide) (by decide) (by decide)
  obtain ⟨rfl, Nq102, hh102⟩ := hQ102
  have N102 := Fr.app N101 Nq102
  obtain ⟨hx, hZ, hown, hby, hml, hnm, hret, hlk⟩ := id Cc102
  rw [hh102] at e102 B102 J102
  refine Go.of st102 ?_
  show Go p e s below _ _ _ _ T102 (mkF m 10 #[.val (.ref t1), .val (.int (Int32.ofNat i))] [(.int (ch16 (us.getD (2 * i) 0) (us.getD (2 * i + 1) 0)))])
  exact Go.retN X102 hx hlk B102 J102 e102 (t := .char) (z' := (ch16 (us.getD (2 * i) 0) (us.getD (2 * i + 1) 0))) hret (by simp) (hb hby d34_10) (own_c16 _) (by decide) (by decide) (fun vm_ hw_ => ⟨rfl, (fun y hy => Nat.le_trans hnb (N102 y hy)), rfl⟩)

theorem d13_0 : decode jdk_42_method_56_code 0 = .ok (.aload_n 0, 1) := by decide +kernel
theorem d13_1 : decode jdk_42_method_56_code 1 = .ok (.invokevirtual 492, 3) := by decide +kernel
theorem pd13 : parseMethodDescriptor "()Z" = some ⟨[], some .boolean⟩ := by decide +kernel
theorem d13_4 : decode jdk_42_method_56_code 4 = .ok (.ifCond .eq 12, 3) := by decide +kernel
theorem d13_7 : decode jdk_42_method_56_code 7 = .ok (.aload_n 0, 1) := by decide +kernel
theorem d13_8 : decode jdk_42_method_56_code 8 = .ok (.getfield 9, 3) := by decide +kernel
theorem d13_11 : decode jdk_42_method_56_code 11 = .ok (.iload_n 1, 1) := by decide +kernel
theorem d13_12 : decode jdk_42_method_56_code 12 = .ok (.invokestatic 495, 3) := by decide +kernel
theorem d13_15 : decode jdk_42_method_56_code 15 = .ok (.ireturn, 1) := by decide +kernel
theorem d13_16 : decode jdk_42_method_56_code 16 = .ok (.aload_n 0, 1) := by decide +kernel
theorem d13_17 : decode jdk_42_method_56_code 17 = .ok (.getfield 9, 3) := by decide +kernel
theorem d13_20 : decode jdk_42_method_56_code 20 = .ok (.iload_n 1, 1) := by decide +kernel
theorem d13_21 : decode jdk_42_method_56_code 21 = .ok (.invokestatic 498, 3) := by decide +kernel
theorem d13_24 : decode jdk_42_method_56_code 24 = .ok (.ireturn, 1) := by decide +kernel
set_option maxRecDepth 65536 in
set_option maxHeartbeats 40000000 in
theorem rm13 (l : Launch) (Z : State) (a0 : Array Value) (hw : ∀ d ∈ tables_1, d.before a0 Z = true) (ws : List Jvm.Cond) (s1 t1 : Addr) (k1 : ClassId) (cs : List Int32) (cd : Int32) (bb : List Int32) (i : Nat) (zc : Int32) (ms : List Addr) (h0 : Heap) (n0 : Nat) (O0 : Old Z n0 h0) (nb : Nat) (hb0 : n0 ≤ nb) (hnb : nb ≤ h0.size) (fs : Value) (hfs : fs = .null ∨ ∃ a, fs = .ref a) (S_F : Sta Z Z.heap "jdk/internal/util/Preconditions" "SIOOBE_FORMATTER" "Ljava/util/function/BiFunction;" fs) (S_D : Sta Z Z.heap "java/lang/StringUTF16" "$assertionsDisabled" "Z" (.int 1)) (S_H : Sta Z Z.heap "java/lang/StringUTF16" "HI_BYTE_SHIFT" "I" (.int 0)) (S_L : Sta Z Z.heap "java/lang/StringUTF16" "LO_BYTE_SHIFT" "I" (.int 8)) (Es1 : Exa Z h0 s1 "java/lang/String") (Fv1 : Fld Z h0 s1 "java/lang/String" "value" "[B" (.ref t1)) (Fc1 : Fld Z h0 s1 "java/lang/String" "coder" "B" (.int cd)) (hso : StrOf cs cd bb) (V1 : Arv Z h0 t1 k1 .byte (Int32.ofNat bb.length) (bb.map Value.int) (.int 0)) (hn : cs.length ≤ 5) (hr : ∀ x ∈ cs, rng16 x) (hi : i < cs.length) (S_C : Sta Z Z.heap "java/lang/String" "COMPACT_STRINGS" "Z" (.int zc)) (hzc : ¬ zc = 0) :
    Con l Z ms (⟨"java/lang/String", "charAt", "(I)C"⟩ : MethodName) jdk_42_method_56_code 2 (some .char) ws ({ frames := 4, cells := 0, slots := 0, locals := 53 } : Room) #[(.ref s1), (.int (Int32.ofNat i))] h0 (fun v vm h L => v = some (.int (cs.getD i 0)) ∧ Fr nb L ∧ h = h0) := by
  rcases id hso with ⟨rfl, rfl, hl⟩ | ⟨rfl, rfl⟩
  · refine Con.mk (plainFor_of_name pn1) ?_
    intro p e s m below meth c s₁ Cc X0 e0 eb J0 B0 M0
    obtain ⟨hx, hZ, hown, hby, hml, hnm, hret, hlk⟩ := id Cc
    have N0 := Fr.nil h0.size
    have K0 := Keep.refl h0 []
    show Go p e s below _ _ _ _ s₁ (mkF m 0 #[.val (.ref s1), .val (.int (Int32.ofNat i))] [])
    refine Go.of (fun _ hr => XS.aloadN X0.here hx rfl (hb hby d13_0) rfl rfl hr) ?_
    show Go p e s below _ _ _ _ s₁ (mkF m 1 #[.val (.ref s1), .val (.int (Int32.ofNat i))] [(.ref s1)])
    obtain ⟨_, b101, T101, h101, L101, e101, Cc101, X101, B101, J101, g101, hQ101, st101⟩ := own_callV Cc B0 J0 X0 (hw _ (List.mem_of_getElem? (i := 72) rfl)) (hw _ (List.mem_of_getElem? (i := 73) rfl)) (notFace_of_selects (args := #[]) (mvT hZ (hw _ (List.mem_of_getElem? (i := 75) rfl)))) (hw _ (List.mem_of_getElem? (i := 75) rfl)) (hw _ (List.mem_of_getElem? (i := 74) rfl)) (hw _ (List.mem_of_getElem? (i := 8) rfl)) (hw _ (List.mem_of_getElem? (i := 76) rfl)) (by decide) Es1 (rm14 l Z a0 hw [] s1 zc _ h0 n0 O0 h0.size (own_ole O0) K0.1 Fc1 S_C hzc) e0 (g := (mkF m 1 #[.val (.ref s1), .val (.int (Int32.ofNat i))] [(.ref s1)])) rfl (by rw [hml]; rfl) (argsL := []) (rest := []) (lenOf pd13 rfl) rfl (W := 0) (by show 2 * 0 + _ ≤ _; exact Nat.le_of_eq rfl) (hb hby d13_1) (by decide) (by decide) (by decide) (by decide)
    obtain ⟨rfl, Nq101, hh101⟩ := hQ101
    have N101 := Fr.app N0 Nq101
    obtain ⟨hx, hZ, hown, hby, hml, hnm, hret, hlk⟩ := id Cc101
    rw [hh101] at e101 B101 J101
    refine Go.of st101 ?_
    show Go p e s below _ _ _ _ T101 (mkF m 4 #[.val (.ref s1), .val (.int (Int32.ofNat i))] [(.int (1 : Int32))])
    refine Go.of (fun _ hr => XS.ifNo X101.here hx rfl (hb hby d13_4) rfl ((if0 _ _).trans (feq (by decide : ¬ ((1 : Int32) = (0 : Int32)))).1) hr) ?_
    show Go p e s below _ _ _ _ T101 (mkF m 7 #[.val (.ref s1), .val (.int (Int32.ofNat i))] [])
    refine Go.of (fun _ hr => XS.aloadN X101.here hx rfl (hb hby d13_7) rfl rfl hr) ?_
    show Go p e s below _ _ _ _ T101 (mkF m 8 #[.val (.ref s1), .val (.int (Int32.ofNat i))] [(.ref s1)])
    obtain ⟨T102, X102, e102, st102⟩ := getF X101 hx hZ hown (host := "") (Or.inl (hw _ (List.mem_of_getElem? (i := 33) rfl))) Via.refl e101 Fv1 (g := (mkF m 8 #[.val (.ref s1), .val (.int (Int32.ofNat i))] [(.ref s1)])) rfl rfl (hb hby d13_8)
    refine Go.of (fun _ hr => st102 _ hr) ?_
    show Go p e s below _ _ _ _ T102 (mkF m 11 #[.val (.ref s1), .val (.int (Int32.ofNat i))] [(.ref t1)])
    refine Go.of (fun _ hr => XS.iloadN X102.here hx rfl (hb hby d13_11) rfl  hr) ?_
    show Go p e s below _ _ _ _ T102 (mkF m 12 #[.val (.ref s1), .val (.int (Int32.ofNat i))] [(.int (Int32.ofNat i)), (.ref t1)])
    obtain ⟨_, b103, T103, h103, L103, e103, Cc103, X103, B103, J103, g103, hQ103, st103⟩ := own_callS Cc101 B101 J101 X102 (hw _ (List.mem_of_getElem? (i := 77) rfl)) (hw _ (List.mem_of_getElem? (i := 78) rfl)) (hw _ (List.mem_of_getElem? (i := 79) rfl)) (hw _ (List.mem_of_getElem? (i := 80) rfl)) (by decide) (rm15 l Z a0 hw [] t1 _ (cs.map lo8) (Int32.ofNat i) _ h0 n0 O0 h0.size (own_ole O0) K0.1 fs hfs S_F V1 (oi_nn (by omega)) (by rw [List.length_map]; exact oi_lt (by omega) (by omega) hi)) e102 (g := (mkF m 12 #[.val (.ref s1), .val (.int (Int32.ofNat i))] [(.int (Int32.ofNat i)), (.ref t1)])) rfl (by rw [hml]; rfl) (argsL := [(.ref t1), (.int (Int32.ofNat i))]) (rest := []) (lenOf pd5 rfl) rfl (W := 0) (by show 2 * 0 + _ ≤ _; exact Nat.le_of_eq rfl) (hb hby d13_12) (by decide) (by decide) (by decide) (by decide)
    obtain ⟨rfl, Nq103, hh103⟩ := hQ103
    have N103 := Fr.app N101 Nq103
    obtain ⟨hx, hZ, hown, hby, hml, hnm, hret, hlk⟩ := id Cc103
    rw [hh103] at e103 B103 J103
    refine Go.of st103 ?_
    show Go p e s below _ _ _ _ T103 (mkF m 15 #[.val (.ref s1), .val (.int (Int32.ofNat i))] [(.int (chV (cs.map lo8) (Int32.ofNat i)))])
    exact Go.retN X103 hx hlk B103 J103 e103 (t := .char) (z' := (cs.getD i 0)) hret (by simp) (hb hby d13_15) (nar_l hl hr hi (by omega)) (by decide) (by decide) (fun vm_ hw_ => ⟨rfl, (fun y hy => Nat.le_trans hnb (N103 y hy)), rfl⟩)
  · refine Con.mk (plainFor_of_name pn1) ?_
    intro p e s m below meth c s₁ Cc X0 e0 eb J0 B0 M0
    obtain ⟨hx, hZ, hown, hby, hml, hnm, hret, hlk⟩ := id Cc
    have N0 := Fr.nil h0.size
    have K0 := Keep.refl h0 []
    show Go p e s below _ _ _ _ s₁ (mkF m 0 #[.val (.ref s1), .val (.int (Int32.ofNat i))] [])
    refine Go.of (fun _ hr => XS.aloadN X0.here hx rfl (hb hby d13_0) rfl rfl hr) ?_
    show Go p e s below _ _ _ _ s₁ (mkF m 1 #[.val (.ref s1), .val (.int (Int32.ofNat i))] [(.ref s1)])
    obtain ⟨_, b101, T101, h101, L101, e101, Cc101, X101, B101, J101, g101, hQ101, st101⟩ := own_callV Cc B0 J0 X0 (hw _ (List.mem_of_getElem? (i := 72) rfl)) (hw _ (List.mem_of_getElem? (i := 73) rfl)) (notFace_of_selects (args := #[]) (mvT hZ (hw _ (List.mem_of_getElem? (i := 75) rfl)))) (hw _ (List.mem_of_getElem? (i := 75) rfl)) (hw _ (List.mem_of_getElem? (i := 74) rfl)) (hw _ (List.mem_of_getElem? (i := 8) rfl)) (hw _ (List.mem_of_getElem? (i := 76) rfl)) (by decide) Es1 (rmU14 l Z a0 hw [] s1 zc _ h0 n0 O0 h0.size (own_ole O0) K0.1 Fc1 S_C hzc) e0 (g := (mkF m 1 #[.val (.ref s1), .val (.int (Int32.ofNat i))] [(.ref s1)])) rfl (by rw [hml]; rfl) (argsL := []) (rest := []) (lenOf pd13 rfl) rfl (W := 0) (by show 2 * 0 + _ ≤ _; exact Nat.le_of_eq rfl) (hb hby d13_1) (by decide) (by decide) (by decide) (by decide)
    obtain ⟨rfl, Nq101, hh101⟩ := hQ101
    have N101 := Fr.app N0 Nq101
    obtain ⟨hx, hZ, hown, hby, hml, hnm, hret, hlk⟩ := id Cc101
    rw [hh101] at e101 B101 J101
    refine Go.of st101 ?_
    show Go p e s below _ _ _ _ T101 (mkF m 4 #[.val (.ref s1), .val (.int (Int32.ofNat i))] [(.int (0 : Int32))])
    refine Go.of (fun _ hr => XS.ifYes X101.here hx rfl (pc0 := 4) (pc' := 16) rfl (hb hby d13_4) rfl ((if0 _ _).trans (teq (by decide : ((0 : Int32) = (0 : Int32)))).1) (by decide) (by decide) hr) ?_
    show Go p e s below _ _ _ _ T101 (mkF m 16 #[.val (.ref s1), .val (.int (Int32.ofNat i))] [])
    refine Go.of (fun _ hr => XS.aloadN X101.here hx rfl (hb hby d13_16) rfl rfl hr) ?_
    show Go p e s below _ _ _ _ T101 (mkF m 17 #[.val (.ref s1), .val (.int (Int32.ofNat i))] [(.ref s1)])
    obtain ⟨T102, X102, e102, st102⟩ := getF X101 hx hZ hown (host := "") (Or.inl (hw _ (List.mem_of_getElem? (i := 33) rfl))) Via.refl e101 Fv1 (g := (mkF m 17 #[.val (.ref s1), .val (.int (Int32.ofNat i))] [(.ref s1)])) rfl rfl (hb hby d13_17)
    refine Go.of (fun _ hr => st102 _ hr) ?_
    show Go p e s below _ _ _ _ T102 (mkF m 20 #[.val (.ref s1), .val (.int (Int32.ofNat i))] [(.ref t1)])
    refine Go.of (fun _ hr => XS.iloadN X102.here hx rfl (hb hby d13_20) rfl  hr) ?_
    show Go p e s below _ _ _ _ T102 (mkF m 21 #[.val (.ref s1), .val (.int (Int32.ofNat i))] [(.int (Int32.ofNat i)), (.ref t1)])
    obtain ⟨_, b103, T103, h103, L103, e103, Cc103, X103, B103, J103, g103, hQ103, st103⟩ := own_callS Cc101 B101 J101 X102 (hw _ (List.mem_of_getElem? (i := 160) rfl)) (hw _ (List.mem_of_getElem? (i := 161) rfl)) (hw _ (List.mem_of_getElem? (i := 22) rfl)) (hw _ (List.mem_of_getElem? (i := 162) rfl)) (by decide) (rm34 l Z a0 hw [] t1 _ (utf cs) cs.length i _ h0 n0 O0 h0.size (own_ole O0) K0.1 fs hfs S_F S_D S_H S_L (by omega) hi (by have q := V1; rw [utf_len] at q; exact q)) e102 (g := (mkF m 21 #[.val (.ref s1), .val (.int (Int32.ofNat i))] [(.int (Int32.ofNat i)), (.ref t1)])) rfl (by rw [hml]; rfl) (argsL := [(.ref t1), (.int (Int32.ofNat i))]) (rest := []) (lenOf pd5 rfl) rfl (W := 0) (by show 2 * 0 + _ ≤ _; exact Nat.le_of_eq rfl) (hb hby d13_21) (by decide) (by decide) (by decide) (by decide)
    obtain ⟨rfl, Nq103, hh103⟩ := hQ103
    have N103 := Fr.app N101 Nq103
    obtain ⟨hx, hZ, hown, hby, hml, hnm, hret, hlk⟩ := id Cc103
    rw [hh103] at e103 B103 J103
    refine Go.of st103 ?_
    show Go p e s below _ _ _ _ T103 (mkF m 24 #[.val (.ref s1), .val (.int (Int32.ofNat i))] [(.int (ch16 ((utf cs).getD (2 * i) 0) ((utf cs).getD (2 * i + 1) 0)))])
    exact Go.retN X103 hx hlk B103 J103 e103 (t := .char) (z' := (cs.getD i 0)) hret (by simp) (hb hby d13_24) (nar_u hr hi) (by decide) (by decide) (fun vm_ hw_ => ⟨rfl, (fun y hy => Nat.le_trans hnb (N103 y hy)), rfl⟩)

theorem pn4 : plainName "java/lang/AbstractStringBuilder" = true := by first | (simp [plainName, overriddenIn]; done) | decide +kernel
theorem d12_0 : decode jdk_68_method_2_code 0 = .ok (.aload_n 0, 1) := by decide +kernel
theorem d12_1 : decode jdk_68_method_2_code 1 = .ok (.invokespecial 3, 3) := by decide +kernel
theorem d12_4 : decode jdk_68_method_2_code 4 = .ok (.getstatic 18, 3) := by decide +kernel
theorem d12_7 : decode jdk_68_method_2_code 7 = .ok (.ifCond .eq 18, 3) := by decide +kernel
theorem d12_10 : decode jdk_68_method_2_code 10 = .ok (.aload_n 0, 1) := by decide +kernel
theorem d12_11 : decode jdk_68_method_2_code 11 = .ok (.iload_n 1, 1) := by decide +kernel
theorem d12_12 : decode jdk_68_method_2_code 12 = .ok (.newarray .byte, 2) := by decide +kernel
theorem d12_14 : decode jdk_68_method_2_code 14 = .ok (.putfield 15, 3) := by decide +kernel
theorem d12_17 : decode jdk_68_method_2_code 17 = .ok (.aload_n 0, 1) := by decide +kernel
theorem d12_18 : decode jdk_68_method_2_code 18 = .ok (.iconst 0, 1) := by decide +kernel
theorem d12_19 : decode jdk_68_method_2_code 19 = .ok (.putfield 22, 3) := by decide +kernel
theorem d12_22 : decode jdk_68_method_2_code 22 = .ok (.goto 16, 3) := by decide +kernel
theorem d12_38 : decode jdk_68_method_2_code 38 = .ok (.return_, 1) := by decide +kernel
set_option maxRecDepth 65536 in
set_option maxHeartbeats 40000000 in
theorem rm12 (l : Launch) (Z : State) (a0 : Array Value) (hw : ∀ d ∈ tables_1, d.before a0 Z = true) (ws : List Jvm.Cond) (a1 : Addr) (u1 u2 : Value) (nc : Nat) (zc : Int32) (ms : List Addr) (h0 : Heap) (n0 : Nat) (O0 : Old Z n0 h0) (nb : Nat) (hb0 : n0 ≤ nb) (hnb : nb ≤ h0.size) (fr_a1 : nb ≤ a1) (hm_a1 : a1 ∈ ms) (hc : nc ≤ 5) (Ea1 : Exa Z h0 a1 "java/lang/StringBuilder") (G1 : Fld Z h0 a1 "java/lang/AbstractStringBuilder" "value" "[B" u1) (G2 : Fld Z h0 a1 "java/lang/AbstractStringBuilder" "coder" "B" u2) (G3 : Fld Z h0 a1 "java/lang/AbstractStringBuilder" "count" "I" (.int 0)) (S_C : Sta Z Z.heap "java/lang/String" "COMPACT_STRINGS" "Z" (.int zc)) (hzc : ¬ zc = 0) :
    Con l Z ms (⟨"java/lang/AbstractStringBuilder", "<init>", "(I)V"⟩ : MethodName) jdk_68_method_2_code 2 none ws ({ frames := 1, cells := 1, slots := 5, locals := 13 } : Room) #[(.ref a1), (.int (Int32.ofNat nc))] h0 (fun v vm h L => v = none ∧ Fr nb L ∧ Keep h0 h [a1] ∧ ∃ v1 kv, h0.size ≤ v1 ∧ Fld Z h a1 "java/lang/AbstractStringBuilder" "value" "[B" (.ref v1) ∧ Fld Z h a1 "java/lang/AbstractStringBuilder" "coder" "B" (.int 0) ∧ Fld Z h a1 "java/lang/AbstractStringBuilder" "count" "I" (.int 0) ∧ Arv Z h v1 kv .byte (Int32.ofNat nc) [] (.int 0) ∧ Exa Z h v1 "[B" ∧ Hd Z (v1 :: ms) vm h) := by
  refine Con.mk (plainFor_of_name pn4) ?_
  intro p e s m below meth c s₁ Cc X0 e0 eb J0 B0 M0
  obtain ⟨hx, hZ, hown, hby, hml, hnm, hret, hlk⟩ := id Cc
  have N0 := Fr.nil nb
  have K0 := Keep.refl h0 [a1]
  show Go p e s below _ _ _ _ s₁ (mkF m 0 #[.val (.ref a1), .val (.int (Int32.ofNat nc))] [])
  refine Go.of (fun _ hr => XS.aloadN X0.here hx rfl (hb hby d12_0) rfl rfl hr) ?_
  show Go p e s below _ _ _ _ s₁ (mkF m 1 #[.val (.ref a1), .val (.int (Int32.ofNat nc))] [(.ref a1)])
  obtain ⟨T101, X101, e101, st101⟩ := initO X0 hx hZ hown (hw _ (List.mem_of_getElem? (i := 61) rfl)) (hw _ (List.mem_of_getElem? (i := 17) rfl)) (hw _ (List.mem_of_getElem? (i := 18) rfl)) e0 (g := (mkF m 1 #[.val (.ref a1), .val (.int (Int32.ofNat nc))] [(.ref a1)])) rfl (by rw [hml]; rfl) rfl (hb hby d12_1) (by decide) (W := 0) (by show 2 * 0 + _ ≤ _; exact Nat.le_of_eq rfl) (by decide)
  refine Go.of (fun _ hr => st101 _ hr) ?_
  show Go p e s below _ _ _ _ T101 (mkF m 4 #[.val (.ref a1), .val (.int (Int32.ofNat nc))] [])
  obtain ⟨T102, X102, e102, st102⟩ := getS2 X101 hx hZ hown (host := "") (Or.inl (hw _ (List.mem_of_getElem? (i := 62) rfl))) Via.refl e101 (S_C.ext O0.2) (g := (mkF m 4 #[.val (.ref a1), .val (.int (Int32.ofNat nc))] [])) rfl (hb hby d12_4)
  refine Go.of (fun _ hr => st102 _ hr) ?_
  show Go p e s below _ _ _ _ T102 (mkF m 7 #[.val (.ref a1), .val (.int (Int32.ofNat nc))] [(.int zc)])
  refine Go.of (fun _ hr => XS.ifNo X102.here hx rfl (hb hby d12_7) rfl ((if0 _ _).trans (feq hzc).1) hr) ?_
  show Go p e s below _ _ _ _ T102 (mkF m 10 #[.val (.ref a1), .val (.int (Int32.ofNat nc))] [])
  refine Go.of (fun _ hr => XS.aloadN X102.here hx rfl (hb hby d12_10) rfl rfl hr) ?_
  show Go p e s below _ _ _ _ T102 (mkF m 11 #[.val (.ref a1), .val (.int (Int32.ofNat nc))] [(.ref a1)])
  refine Go.of (fun _ hr => XS.iloadN X102.here hx rfl (hb hby d12_11) rfl  hr) ?_
  show Go p e s below _ _ _ _ T102 (mkF m 12 #[.val (.ref a1), .val (.int (Int32.ofNat nc))] [(.int (Int32.ofNat nc)), (.ref a1)])
  obtain ⟨T103, h103, k103, X103, e103, E103, A103, Ex103, st103⟩ := newPE X102 hx hZ (hw _ (List.mem_of_getElem? (i := 24) rfl)) e102 (g := (mkF m 12 #[.val (.ref a1), .val (.int (Int32.ofNat nc))] [(.int (Int32.ofNat nc)), (.ref a1)])) rfl (hb hby d12_12) rfl (oi_nn (by omega)) (cap := 5) (by rw [oi_nat (by omega)]; exact hc) (by decide) (by decide) (by decide) (ad := "[B") (by decide)
  obtain ⟨o103, g103⟩ : ∃ z, z = h0.size := ⟨_, rfl⟩
  rw [← g103] at A103 Ex103 st103
  have ne_a1_o103 : a1 ≠ o103 := Nat.ne_of_lt (Nat.lt_of_lt_of_le Ea1.lt (Nat.le_of_eq g103.symm))
  have V103 := Arv.new A103 (oi_nn (by omega))
  have lt103 : o103 < h103.size := A103.lt
  have J103 := J0.add E103 g103 lt103
  have B103 := B0.mono E103.1
  have O103 := O0.ext E103
  have sz103 : h0.size ≤ o103 := Nat.le_trans K0.1 (Nat.le_of_eq g103.symm)
  have fr103 : nb ≤ o103 := Nat.le_trans hnb sz103
  have K103 := K0.ext E103
  refine Go.of (fun _ hr => st103 _ hr) ?_
  show Go p e s below _ _ _ _ T103 (mkF m 14 #[.val (.ref a1), .val (.int (Int32.ofNat nc))] [(.ref o103), (.ref a1)])
  have f105 := (G1.ext E103)
  have f106 := (Ea1.ext E103)
  obtain ⟨T104, h104, X104, e104, W104, st104⟩ := putF X103 hx hZ hown (host := "") (Or.inl (hw _ (List.mem_of_getElem? (i := 63) rfl))) Via.refl e103 f105 f106 (Or.inl (hw _ (List.mem_of_getElem? (i := 64) rfl))) (hw _ (List.mem_of_getElem? (i := 40) rfl)) (ty := (.array .byte)) (by decide) rfl rfl (g := (mkF m 14 #[.val (.ref a1), .val (.int (Int32.ofNat nc))] [(.ref o103), (.ref a1)])) rfl rfl (hb hby d12_14)
  have N104 := Fr.snoc X104 N0 fr_a1
  have J104 := J103.wr W104 (List.mem_cons_of_mem _ hm_a1)
  have B104 := B103.mono (Nat.le_of_eq W104.size.symm)
  have O104 := O103.wr W104 (Nat.le_trans hb0 fr_a1)
  have K104 := K103.wr W104 (Or.inl (List.mem_of_getElem? (i := 0) rfl))
  have Fw104 := f105.same W104
  refine Go.of (fun _ hr => st104 _ hr) ?_
  show Go p e s below _ _ _ _ T104 (mkF m 17 #[.val (.ref a1), .val (.int (Int32.ofNat nc))] [])
  refine Go.of (fun _ hr => XS.aloadN X104.here hx rfl (hb hby d12_17) rfl rfl hr) ?_
  show Go p e s below _ _ _ _ T104 (mkF m 18 #[.val (.ref a1), .val (.int (Int32.ofNat nc))] [(.ref a1)])
  refine Go.of (fun _ hr => XS.iconst X104.here hx rfl (hb hby d12_18) hr) ?_
  show Go p e s below _ _ _ _ T104 (mkF m 19 #[.val (.ref a1), .val (.int (Int32.ofNat nc))] [(.int (0 : Int32)), (.ref a1)])
  have f108 := ((G2.ext E103).other W104 (Or.inr (slot_ne (Or.inl (hw _ (List.mem_of_getElem? (i := 66) rfl))) (Or.inl (hw _ (List.mem_of_getElem? (i := 64) rfl))) (by decide) (t := .byte) (t' := (.array .byte)) (by decide) (by decide))))
  have f109 := (f106.wr W104)
  obtain ⟨T107, h107, X107, e107, W107, st107⟩ := putFN X104 hx hZ hown (hw _ (List.mem_of_getElem? (i := 65) rfl)) Via.refl e104 f108 f109 (Or.inl (hw _ (List.mem_of_getElem? (i := 66) rfl))) (hw _ (List.mem_of_getElem? (i := 40) rfl)) (ty := .byte) (v := (.int (0 : Int32))) (v' := (.int (0 : Int32))) (by decide) rfl rfl (g := (mkF m 19 #[.val (.ref a1), .val (.int (Int32.ofNat nc))] [(.int (0 : Int32)), (.ref a1)])) rfl rfl (hb hby d12_19)
  have N107 := Fr.snoc X107 N104 fr_a1
  have J107 := J104.wr W107 (List.mem_cons_of_mem _ hm_a1)
  have B107 := B104.mono (Nat.le_of_eq W107.size.symm)
  have O107 := O104.wr W107 (Nat.le_trans hb0 fr_a1)
  have K107 := K104.wr W107 (Or.inl (List.mem_of_getElem? (i := 0) rfl))
  have Fw107 := f108.same W107
  refine Go.of (fun _ hr => st107 _ hr) ?_
  show Go p e s below _ _ _ _ T107 (mkF m 22 #[.val (.ref a1), .val (.int (Int32.ofNat nc))] [])
  refine Go.of (fun _ hr => XS.goto X107.here hx rfl (pc0 := 22) (pc' := 38) rfl (hb hby d12_22) (by decide) (by decide) hr) ?_
  show Go p e s below _ _ _ _ T107 (mkF m 38 #[.val (.ref a1), .val (.int (Int32.ofNat nc))] [])
  have f110 := (Fw104.other W107 (Or.inr (slot_ne (Or.inl (hw _ (List.mem_of_getElem? (i := 64) rfl))) (Or.inl (hw _ (List.mem_of_getElem? (i := 66) rfl))) (by decide) (t := (.array .byte)) (t' := .byte) (by decide) (by decide))))
  have f111 := (((G3.ext E103).other W104 (Or.inr (slot_ne (Or.inl (hw _ (List.mem_of_getElem? (i := 116) rfl))) (Or.inl (hw _ (List.mem_of_getElem? (i := 64) rfl))) (by decide) (t := .int) (t' := (.array .byte)) (by decide) (by decide)))).other W107 (Or.inr (slot_ne (Or.inl (hw _ (List.mem_of_getElem? (i := 116) rfl))) (Or.inl (hw _ (List.mem_of_getElem? (i := 66) rfl))) (by decide) (t := .int) (t' := .byte) (by decide) (by decide))))
  have f112 := ((V103.other W104 (Ne.symm ne_a1_o103)).other W107 (Ne.symm ne_a1_o103))
  have f113 := ((Ex103.wr W104).wr W107)
  exact Go.retV X107 hx hlk B107 (J107.sub fun x hx => (List.mem_cons_of_mem _ hx)) e107 hret (hb hby d12_38) (by decide) (by decide) (fun vm_ hw_ => ⟨rfl, N107, K107, _, _, sz103, f110, Fw107, f111, f112, f113, J107.warm hw_⟩)

theorem pn5 : plainName "java/lang/StringBuilder" = true := by first | (simp [plainName, overriddenIn]; done) | decide +kernel
theorem d11_0 : decode jdk_67_method_2_code 0 = .ok (.aload_n 0, 1) := by decide +kernel
theorem d11_1 : decode jdk_67_method_2_code 1 = .ok (.iload_n 1, 1) := by decide +kernel
theorem d11_2 : decode jdk_67_method_2_code 2 = .ok (.invokespecial 1, 3) := by decide +kernel
theorem pd14 : parseMethodDescriptor "(I)V" = some ⟨[.int], none⟩ := by decide +kernel
theorem d11_5 : decode jdk_67_method_2_code 5 = .ok (.return_, 1) := by decide +kernel
set_option maxRecDepth 65536 in
set_option maxHeartbeats 40000000 in
theorem rm11 (l : Launch) (Z : State) (a0 : Array Value) (hw : ∀ d ∈ tables_1, d.before a0 Z = true) (ws : List Jvm.Cond) (a1 : Addr) (u1 u2 : Value) (nc : Nat) (zc : Int32) (ms : List Addr) (h0 : Heap) (n0 : Nat) (O0 : Old Z n0 h0) (nb : Nat) (hb0 : n0 ≤ nb) (hnb : nb ≤ h0.size) (fr_a1 : nb ≤ a1) (hm_a1 : a1 ∈ ms) (hc : nc ≤ 5) (Ea1 : Exa Z h0 a1 "java/lang/StringBuilder") (G1 : Fld Z h0 a1 "java/lang/AbstractStringBuilder" "value" "[B" u1) (G2 : Fld Z h0 a1 "java/lang/AbstractStringBuilder" "coder" "B" u2) (G3 : Fld Z h0 a1 "java/lang/AbstractStringBuilder" "count" "I" (.int 0)) (S_C : Sta Z Z.heap "java/lang/String" "COMPACT_STRINGS" "Z" (.int zc)) (hzc : ¬ zc = 0) :
    Con l Z ms (⟨"java/lang/StringBuilder", "<init>", "(I)V"⟩ : MethodName) jdk_67_method_2_code 2 none ws ({ frames := 2, cells := 1, slots := 5, locals := 26 } : Room) #[(.ref a1), (.int (Int32.ofNat nc))] h0 (fun v vm h L => v = none ∧ Fr nb L ∧ Keep h0 h [a1] ∧ ∃ v1 kv, h0.size ≤ v1 ∧ Fld Z h a1 "java/lang/AbstractStringBuilder" "value" "[B" (.ref v1) ∧ Fld Z h a1 "java/lang/AbstractStringBuilder" "coder" "B" (.int 0) ∧ Fld Z h a1 "java/lang/AbstractStringBuilder" "count" "I" (.int 0) ∧ Arv Z h v1 kv .byte (Int32.ofNat nc) [] (.int 0) ∧ Exa Z h v1 "[B" ∧ Hd Z (v1 :: ms) vm h) := by
  refine Con.mk (plainFor_of_name pn5) ?_
  intro p e s m below meth c s₁ Cc X0 e0 eb J0 B0 M0
  obtain ⟨hx, hZ, hown, hby, hml, hnm, hret, hlk⟩ := id Cc
  have N0 := Fr.nil nb
  have K0 := Keep.refl h0 [a1]
  show Go p e s below _ _ _ _ s₁ (mkF m 0 #[.val (.ref a1), .val (.int (Int32.ofNat nc))] [])
  refine Go.of (fun _ hr => XS.aloadN X0.here hx rfl (hb hby d11_0) rfl rfl hr) ?_
  show Go p e s below _ _ _ _ s₁ (mkF m 1 #[.val (.ref a1), .val (.int (Int32.ofNat nc))] [(.ref a1)])
  refine Go.of (fun _ hr => XS.iloadN X0.here hx rfl (hb hby d11_1) rfl  hr) ?_
  show Go p e s below _ _ _ _ s₁ (mkF m 2 #[.val (.ref a1), .val (.int (Int32.ofNat nc))] [(.int (Int32.ofNat nc)), (.ref a1)])
  obtain ⟨_, b101, T101, h101, L101, e101, Cc101, X101, B101, J101, g101, hQ101, st101⟩ := own_callI Cc B0 J0 X0 rfl (hw _ (List.mem_of_getElem? (i := 55) rfl)) (hw _ (List.mem_of_getElem? (i := 56) rfl)) (hw _ (List.mem_of_getElem? (i := 59) rfl)) (hw _ (List.mem_of_getElem? (i := 60) rfl)) (by decide) (rm12 l Z a0 hw [] a1 _ _ nc zc _ h0 n0 O0 nb hb0 (Nat.le_trans hnb K0.1) fr_a1 hm_a1 hc Ea1 G1 G2 G3 S_C hzc) e0 (g := (mkF m 2 #[.val (.ref a1), .val (.int (Int32.ofNat nc))] [(.int (Int32.ofNat nc)), (.ref a1)])) rfl (by rw [hml]; rfl) (argsL := [(.int (Int32.ofNat nc))]) (rest := []) (lenOf pd14 rfl) rfl (W := 0) (by show 2 * 0 + _ ≤ _; exact Nat.le_of_eq rfl) (hb hby d11_2) (by decide) (by decide) (by decide) (by decide)
  obtain ⟨rfl, Nq101, Kq101, v101, kv101, R_v101, Gv101, Gc101, Gn101, W101_, Ev101, Jv101⟩ := hQ101
  have N101 := Fr.app N0 Nq101
  obtain ⟨hx, hZ, hown, hby, hml, hnm, hret, hlk⟩ := id Cc101
  have sz_v101 : h0.size ≤ v101 := Nat.le_trans K0.1 R_v101
  have fr_v101 : nb ≤ v101 := Nat.le_trans hnb sz_v101
  have ne_a1_v101 : a1 ≠ v101 := Nat.ne_of_lt (Nat.lt_of_lt_of_le Ea1.lt R_v101)
  have K101 := K0.trans Kq101 (allS (Or.inl (List.mem_of_getElem? (i := 0) rfl)) all0)
  have O101 := O0.keep Kq101 (allS (Nat.le_trans hb0 fr_a1) all0)
  refine Go.of st101 ?_
  show Go p e s below _ _ _ _ T101 (mkF m 5 #[.val (.ref a1), .val (.int (Int32.ofNat nc))] [])
  exact Go.retV X101 hx hlk B101 (Jv101.sub fun x hx => (List.mem_cons_of_mem _ hx)) e101 hret (hb hby d11_5) (by decide) (by decide) (fun vm_ hw_ => ⟨rfl, N101, K101, _, _, sz_v101, Gv101, Gc101, Gn101, W101_, Ev101, Jv101.warm hw_⟩)

theorem d39_0 : decode jdk_68_method_9_code 0 = .ok (.aload_n 0, 1) := by decide +kernel
theorem d39_1 : decode jdk_68_method_9_code 1 = .ok (.getfield 15, 3) := by decide +kernel
theorem d39_4 : decode jdk_68_method_9_code 4 = .ok (.arraylength, 1) := by decide +kernel
theorem d39_5 : decode jdk_68_method_9_code 5 = .ok (.aload_n 0, 1) := by decide +kernel
theorem d39_6 : decode jdk_68_method_9_code 6 = .ok (.getfield 22, 3) := by decide +kernel
theorem d39_9 : decode jdk_68_method_9_code 9 = .ok (.ishr, 1) := by decide +kernel
theorem d39_10 : decode jdk_68_method_9_code 10 = .ok (.istore_n 2, 1) := by decide +kernel
theorem d39_11 : decode jdk_68_method_9_code 11 = .ok (.iload_n 1, 1) := by decide +kernel
theorem d39_12 : decode jdk_68_method_9_code 12 = .ok (.iload_n 2, 1) := by decide +kernel
theorem d39_13 : decode jdk_68_method_9_code 13 = .ok (.isub, 1) := by decide +kernel
theorem d39_14 : decode jdk_68_method_9_code 14 = .ok (.ifCond .le 24, 3) := by decide +kernel
theorem d39_38 : decode jdk_68_method_9_code 38 = .ok (.return_, 1) := by decide +kernel
set_option maxRecDepth 65536 in
set_option maxHeartbeats 40000000 in
theorem rm39 (l : Launch) (Z : State) (a0 : Array Value) (hw : ∀ d ∈ tables_1, d.before a0 Z = true) (ws : List Jvm.Cond) (a1 v1 : Addr) (kv : ClassId) (bs : List Int32) (nc : Nat) (j : Nat) (ms : List Addr) (h0 : Heap) (n0 : Nat) (O0 : Old Z n0 h0) (nb : Nat) (hb0 : n0 ≤ nb) (hnb : nb ≤ h0.size) (Ea1 : Exa Z h0 a1 "java/lang/StringBuilder") (Gv : Fld Z h0 a1 "java/lang/AbstractStringBuilder" "value" "[B" (.ref v1)) (Gc : Fld Z h0 a1 "java/lang/AbstractStringBuilder" "coder" "B" (.int 0)) (Gn : Fld Z h0 a1 "java/lang/AbstractStringBuilder" "count" "I" (.int (Int32.ofNat bs.length))) (W1 : Arv Z h0 v1 kv .byte (Int32.ofNat nc) (bs.map Value.int) (.int 0)) (Ev : Exa Z h0 v1 "[B") (hc : nc ≤ 5) (hbl : bs.length ≤ nc) (hj : j ≤ nc) :
    Con l Z ms (⟨"java/lang/AbstractStringBuilder", "ensureCapacityInternal", "(I)V"⟩ : MethodName) jdk_68_method_9_code 3 none ws ({ frames := 0, cells := 0, slots := 0, locals := 0 } : Room) #[(.ref a1), (.int (Int32.ofNat j))] h0 (fun v vm h L => v = none ∧ Fr nb L ∧ h = h0) := by
  refine Con.mk (plainFor_of_name pn4) ?_
  intro p e s m below meth c s₁ Cc X0 e0 eb J0 B0 M0
  obtain ⟨hx, hZ, hown, hby, hml, hnm, hret, hlk⟩ := id Cc
  have N0 := Fr.nil h0.size
  have K0 := Keep.refl h0 []
  show Go p e s below _ _ _ _ s₁ (mkF m 0 #[.val (.ref a1), .val (.int (Int32.ofNat j)), .unset] [])
  refine Go.of (fun _ hr => XS.aloadN X0.here hx rfl (hb hby d39_0) rfl rfl hr) ?_
  show Go p e s below _ _ _ _ s₁ (mkF m 1 #[.val (.ref a1), .val (.int (Int32.ofNat j)), .unset] [(.ref a1)])
  obtain ⟨T101, X101, e101, st101⟩ := getF X0 hx hZ hown (host := "") (Or.inl (hw _ (List.mem_of_getElem? (i := 63) rfl))) Via.refl e0 Gv (g := (mkF m 1 #[.val (.ref a1), .val (.int (Int32.ofNat j)), .unset] [(.ref a1)])) rfl rfl (hb hby d39_1)
  refine Go.of (fun _ hr => st101 _ hr) ?_
  show Go p e s below _ _ _ _ T101 (mkF m 4 #[.val (.ref a1), .val (.int (Int32.ofNat j)), .unset] [(.ref v1)])
  obtain ⟨cl102, Ar102, q102, S102, N102_, H102, G102⟩ := id W1
  refine Go.of (fun _ hr => X101.arraylength hx (by rw [e101]; exact Ar102.1) (State.isArrayOf_alike hZ.alike Ar102.2.1) (g := (mkF m 4 #[.val (.ref a1), .val (.int (Int32.ofNat j)), .unset] [(.ref v1)])) rfl rfl (hb hby d39_4) _ hr) ?_
  rw [len_of S102 N102_]
  show Go p e s below _ _ _ _ T101 (mkF m 5 #[.val (.ref a1), .val (.int (Int32.ofNat j)), .unset] [(.int (Int32.ofNat nc))])
  refine Go.of (fun _ hr => XS.aloadN X101.here hx rfl (hb hby d39_5) rfl rfl hr) ?_
  show Go p e s below _ _ _ _ T101 (mkF m 6 #[.val (.ref a1), .val (.int (Int32.ofNat j)), .unset] [(.ref a1), (.int (Int32.ofNat nc))])
  obtain ⟨T103, X103, e103, st103⟩ := getF X101 hx hZ hown (host := "") (Or.inl (hw _ (List.mem_of_getElem? (i := 65) rfl))) Via.refl e101 Gc (g := (mkF m 6 #[.val (.ref a1), .val (.int (Int32.ofNat j)), .unset] [(.ref a1), (.int (Int32.ofNat nc))])) rfl rfl (hb hby d39_6)
  refine Go.of (fun _ hr => st103 _ hr) ?_
  show Go p e s below _ _ _ _ T103 (mkF m 9 #[.val (.ref a1), .val (.int (Int32.ofNat j)), .unset] [(.int (0 : Int32)), (.int (Int32.ofNat nc))])
  refine Go.of (fun _ hr => XS.ishr X103.here hx rfl (hb hby d39_9) rfl hr) ?_
  show Go p e s below _ _ _ _ T103 (mkF m 10 #[.val (.ref a1), .val (.int (Int32.ofNat j)), .unset] [(.int ((Int32.ofNat nc) >>> ((0 : Int32) &&& 31)))])
  rw [own_sh0]
  show Go p e s below _ _ _ _ T103 (mkF m 10 #[.val (.ref a1), .val (.int (Int32.ofNat j)), .unset] [(.int (Int32.ofNat nc))])
  refine Go.of (fun _ hr => XS.istoreN X103.here hx rfl (hb hby d39_10) rfl (l' := #[.val (.ref a1), .val (.int (Int32.ofNat j)), .val (.int (Int32.ofNat nc))]) rfl hr) ?_
  show Go p e s below _ _ _ _ T103 (mkF m 11 #[.val (.ref a1), .val (.int (Int32.ofNat j)), .val (.int (Int32.ofNat nc))] [])
  refine Go.of (fun _ hr => XS.iloadN X103.here hx rfl (hb hby d39_11) rfl  hr) ?_
  show Go p e s below _ _ _ _ T103 (mkF m 12 #[.val (.ref a1), .val (.int (Int32.ofNat j)), .val (.int (Int32.ofNat nc))] [(.int (Int32.ofNat j))])
  refine Go.of (fun _ hr => XS.iloadN X103.here hx rfl (hb hby d39_12) rfl  hr) ?_
  show Go p e s below _ _ _ _ T103 (mkF m 13 #[.val (.ref a1), .val (.int (Int32.ofNat j)), .val (.int (Int32.ofNat nc))] [(.int (Int32.ofNat nc)), (.int (Int32.ofNat j))])
  refine Go.of (fun _ hr => XS.isub X103.here hx rfl (hb hby d39_13) rfl hr) ?_
  show Go p e s below _ _ _ _ T103 (mkF m 14 #[.val (.ref a1), .val (.int (Int32.ofNat j)), .val (.int (Int32.ofNat nc))] [(.int ((Int32.ofNat j) - (Int32.ofNat nc)))])
  refine Go.of (fun _ hr => XS.ifYes X103.here hx rfl (pc0 := 14) (pc' := 38) rfl (hb hby d39_14) rfl ((if0 _ _).trans (flt (own_ensN hj (by omega))).2.2.2) (by decide) (by decide) hr) ?_
  show Go p e s below _ _ _ _ T103 (mkF m 38 #[.val (.ref a1), .val (.int (Int32.ofNat j)), .val (.int (Int32.ofNat nc))] [])
  exact Go.retV X103 hx hlk B0 J0 e103 hret (hb hby d39_38) (by decide) (by decide) (fun vm_ hw_ => ⟨rfl, (fun y hy => Nat.le_trans hnb (N0 y hy)), rfl⟩)

theorem d24_0 : decode jdk_68_method_68_code 0 = .ok (.getstatic 18, 3) := by decide +kernel
theorem d24_3 : decode jdk_68_method_68_code 3 = .ok (.ifCond .eq 14, 3) := by decide +kernel
theorem d24_6 : decode jdk_68_method_68_code 6 = .ok (.aload_n 0, 1) := by decide +kernel
theorem d24_7 : decode jdk_68_method_68_code 7 = .ok (.getfield 22, 3) := by decide +kernel
theorem d24_10 : decode jdk_68_method_68_code 10 = .ok (.ifCond .ne 7, 3) := by decide +kernel
theorem d24_13 : decode jdk_68_method_68_code 13 = .ok (.iconst 1, 1) := by decide +kernel
theorem d24_14 : decode jdk_68_method_68_code 14 = .ok (.goto 4, 3) := by decide +kernel
theorem d24_18 : decode jdk_68_method_68_code 18 = .ok (.ireturn, 1) := by decide +kernel
set_option maxRecDepth 65536 in
set_option maxHeartbeats 40000000 in
theorem rm24 (l : Launch) (Z : State) (a0 : Array Value) (hw : ∀ d ∈ tables_1, d.before a0 Z = true) (ws : List Jvm.Cond) (a1 v1 : Addr) (kv : ClassId) (bs : List Int32) (nc : Nat) (zc : Int32) (ms : List Addr) (h0 : Heap) (n0 : Nat) (O0 : Old Z n0 h0) (nb : Nat) (hb0 : n0 ≤ nb) (hnb : nb ≤ h0.size) (Ea1 : Exa Z h0 a1 "java/lang/StringBuilder") (Gv : Fld Z h0 a1 "java/lang/AbstractStringBuilder" "value" "[B" (.ref v1)) (Gc : Fld Z h0 a1 "java/lang/AbstractStringBuilder" "coder" "B" (.int 0)) (Gn : Fld Z h0 a1 "java/lang/AbstractStringBuilder" "count" "I" (.int (Int32.ofNat bs.length))) (W1 : Arv Z h0 v1 kv .byte (Int32.ofNat nc) (bs.map Value.int) (.int 0)) (Ev : Exa Z h0 v1 "[B") (hc : nc ≤ 5) (hbl : bs.length ≤ nc) (S_C : Sta Z Z.heap "java/lang/String" "COMPACT_STRINGS" "Z" (.int zc)) (hzc : ¬ zc = 0) :
    Con l Z ms (⟨"java/lang/AbstractStringBuilder", "isLatin1", "()Z"⟩ : MethodName) jdk_68_method_68_code 1 (some .boolean) ws ({ frames := 0, cells := 0, slots := 0, locals := 0 } : Room) #[(.ref a1)] h0 (fun v vm h L => v = some (.int 1) ∧ Fr nb L ∧ h = h0) := by
  refine Con.mk (plainFor_of_name pn4) ?_
  intro p e s m below meth c s₁ Cc X0 e0 eb J0 B0 M0
  obtain ⟨hx, hZ, hown, hby, hml, hnm, hret, hlk⟩ := id Cc
  have N0 := Fr.nil h0.size
  have K0 := Keep.refl h0 []
  show Go p e s below _ _ _ _ s₁ (mkF m 0 #[.val (.ref a1)] [])
  obtain ⟨T101, X101, e101, st101⟩ := getS2 X0 hx hZ hown (host := "") (Or.inl (hw _ (List.mem_of_getElem? (i := 62) rfl))) Via.refl e0 (S_C.ext O0.2) (g := (mkF m 0 #[.val (.ref a1)] [])) rfl (hb hby d24_0)
  refine Go.of (fun _ hr => st101 _ hr) ?_
  show Go p e s below _ _ _ _ T101 (mkF m 3 #[.val (.ref a1)] [(.int zc)])
  refine Go.of (fun _ hr => XS.ifNo X101.here hx rfl (hb hby d24_3) rfl ((if0 _ _).trans (feq hzc).1) hr) ?_
  show Go p e s below _ _ _ _ T101 (mkF m 6 #[.val (.ref a1)] [])
  refine Go.of (fun _ hr => XS.aloadN X101.here hx rfl (hb hby d24_6) rfl rfl hr) ?_
  show Go p e s below _ _ _ _ T101 (mkF m 7 #[.val (.ref a1)] [(.ref a1)])
  obtain ⟨T102, X102, e102, st102⟩ := getF X101 hx hZ hown (host := "") (Or.inl (hw _ (List.mem_of_getElem? (i := 65) rfl))) Via.refl e101 Gc (g := (mkF m 7 #[.val (.ref a1)] [(.ref a1)])) rfl rfl (hb hby d24_7)
  refine Go.of (fun _ hr => st102 _ hr) ?_
  show Go p e s below _ _ _ _ T102 (mkF m 10 #[.val (.ref a1)] [(.int (0 : Int32))])
  refine Go.of (fun _ hr => XS.ifNo X102.here hx rfl (hb hby d24_10) rfl ((if0 _ _).trans (teq (by decide : ((0 : Int32) = (0 : Int32)))).2) hr) ?_
  show Go p e s below _ _ _ _ T102 (mkF m 13 #[.val (.ref a1)] [])
  refine Go.of (fun _ hr => XS.iconst X102.here hx rfl (hb hby d24_13) hr) ?_
  show Go p e s below _ _ _ _ T102 (mkF m 14 #[.val (.ref a1)] [(.int (1 : Int32))])
  refine Go.of (fun _ hr => XS.goto X102.here hx rfl (pc0 := 14) (pc' := 18) rfl (hb hby d24_14) (by decide) (by decide) hr) ?_
  show Go p e s below _ _ _ _ T102 (mkF m 18 #[.val (.ref a1)] [(.int (1 : Int32))])
  exact Go.retN X102 hx hlk B0 J0 e102 (t := .boolean) (z' := (1 : Int32)) hret (by simp) (hb hby d24_18) rfl (by decide) (by decide) (fun vm_ hw_ => ⟨rfl, (fun y hy => Nat.le_trans hnb (N0 y hy)), rfl⟩)

theorem d40_0 : decode jdk_43_method_3_code 0 = .ok (.iload_n 0, 1) := by decide +kernel
theorem d40_1 : decode jdk_43_method_3_code 1 = .ok (.sipush 255, 3) := by decide +kernel
theorem d40_4 : decode jdk_43_method_3_code 4 = .ok (.if_icmp .gt 7, 3) := by decide +kernel
theorem d40_7 : decode jdk_43_method_3_code 7 = .ok (.iconst 1, 1) := by decide +kernel
theorem d40_8 : decode jdk_43_method_3_code 8 = .ok (.goto 4, 3) := by decide +kernel
theorem d40_12 : decode jdk_43_method_3_code 12 = .ok (.ireturn, 1) := by decide +kernel
set_option maxRecDepth 65536 in
set_option maxHeartbeats 40000000 in
theorem rm40 (l : Launch) (Z : State) (a0 : Array Value) (hw : ∀ d ∈ tables_1, d.before a0 Z = true) (ws : List Jvm.Cond) (c1 : Int32) (ms : List Addr) (h0 : Heap) (n0 : Nat) (O0 : Old Z n0 h0) (nb : Nat) (hb0 : n0 ≤ nb) (hnb : nb ≤ h0.size) (q1 : ¬ 255 < c1) :
    Con l Z ms (⟨"java/lang/StringLatin1", "canEncode", "(C)Z"⟩ : MethodName) jdk_43_method_3_code 1 (some .boolean) ws ({ frames := 0, cells := 0, slots := 0, locals := 0 } : Room) #[(.int c1)] h0 (fun v vm h L => v = some (.int 1) ∧ Fr nb L ∧ h = h0) := by
  refine Con.mk (plainFor_of_name pn3) ?_
  intro p e s m below meth c s₁ Cc X0 e0 eb J0 B0 M0
  obtain ⟨hx, hZ, hown, hby, hml, hnm, hret, hlk⟩ := id Cc
  have N0 := Fr.nil h0.size
  have K0 := Keep.refl h0 []
  show Go p e s below _ _ _ _ s₁ (mkF m 0 #[.val (.int c1)] [])
  refine Go.of (fun _ hr => XS.iloadN X0.here hx rfl (hb hby d40_0) rfl  hr) ?_
  show Go p e s below _ _ _ _ s₁ (mkF m 1 #[.val (.int c1)] [(.int c1)])
  refine Go.of (fun _ hr => XS.sipush X0.here hx rfl (hb hby d40_1) hr) ?_
  show Go p e s below _ _ _ _ s₁ (mkF m 4 #[.val (.int c1)] [(.int (255 : Int32)), (.int c1)])
  refine Go.of (fun _ hr => XS.icmpNo X0.here hx rfl (hb hby d40_4) rfl (flt q1).2.2.1 hr) ?_
  show Go p e s below _ _ _ _ s₁ (mkF m 7 #[.val (.int c1)] [])
  refine Go.of (fun _ hr => XS.iconst X0.here hx rfl (hb hby d40_7) hr) ?_
  show Go p e s below _ _ _ _ s₁ (mkF m 8 #[.val (.int c1)] [(.int (1 : Int32))])
  refine Go.of (fun _ hr => XS.goto X0.here hx rfl (pc0 := 8) (pc' := 12) rfl (hb hby d40_8) (by decide) (by decide) hr) ?_
  show Go p e s below _ _ _ _ s₁ (mkF m 12 #[.val (.int c1)] [(.int (1 : Int32))])
  exact Go.retN X0 hx hlk B0 J0 e0 (t := .boolean) (z' := (1 : Int32)) hret (by simp) (hb hby d40_12) rfl (by decide) (by decide) (fun vm_ hw_ => ⟨rfl, (fun y hy => Nat.le_trans hnb (N0 y hy)), rfl⟩)

theorem d38_0 : decode jdk_68_method_31_code 0 = .ok (.aload_n 0, 1) := by decide +kernel
theorem d38_1 : decode jdk_68_method_31_code 1 = .ok (.aload_n 0, 1) := by decide +kernel
theorem d38_2 : decode jdk_68_method_31_code 2 = .ok (.getfield 79, 3) := by decide +kernel
theorem d38_5 : decode jdk_68_method_31_code 5 = .ok (.iconst 1, 1) := by decide +kernel
theorem d38_6 : decode jdk_68_method_31_code 6 = .ok (.iadd, 1) := by decide +kernel
theorem d38_7 : decode jdk_68_method_31_code 7 = .ok (.invokevirtual 100, 3) := by decide +kernel
theorem d38_10 : decode jdk_68_method_31_code 10 = .ok (.aload_n 0, 1) := by decide +kernel
theorem d38_11 : decode jdk_68_method_31_code 11 = .ok (.invokevirtual 83, 3) := by decide +kernel
theorem d38_14 : decode jdk_68_method_31_code 14 = .ok (.ifCond .eq 31, 3) := by decide +kernel
theorem d38_17 : decode jdk_68_method_31_code 17 = .ok (.iload_n 1, 1) := by decide +kernel
theorem d38_18 : decode jdk_68_method_31_code 18 = .ok (.invokestatic 191, 3) := by decide +kernel
theorem pd15 : parseMethodDescriptor "(C)Z" = some ⟨[.char], some .boolean⟩ := by decide +kernel
theorem d38_21 : decode jdk_68_method_31_code 21 = .ok (.ifCond .eq 24, 3) := by decide +kernel
theorem d38_24 : decode jdk_68_method_31_code 24 = .ok (.aload_n 0, 1) := by decide +kernel
theorem d38_25 : decode jdk_68_method_31_code 25 = .ok (.getfield 15, 3) := by decide +kernel
theorem d38_28 : decode jdk_68_method_31_code 28 = .ok (.aload_n 0, 1) := by decide +kernel
theorem d38_29 : decode jdk_68_method_31_code 29 = .ok (.dup, 1) := by decide +kernel
theorem d38_30 : decode jdk_68_method_31_code 30 = .ok (.getfield 79, 3) := by decide +kernel
theorem d38_33 : decode jdk_68_method_31_code 33 = .ok (.dup_x1, 1) := by decide +kernel
theorem d38_34 : decode jdk_68_method_31_code 34 = .ok (.iconst 1, 1) := by decide +kernel
theorem d38_35 : decode jdk_68_method_31_code 35 = .ok (.iadd, 1) := by decide +kernel
theorem d38_36 : decode jdk_68_method_31_code 36 = .ok (.putfield 79, 3) := by decide +kernel
theorem d38_39 : decode jdk_68_method_31_code 39 = .ok (.iload_n 1, 1) := by decide +kernel
theorem d38_40 : decode jdk_68_method_31_code 40 = .ok (.i2b, 1) := by decide +kernel
theorem d38_41 : decode jdk_68_method_31_code 41 = .ok (.bastore, 1) := by decide +kernel
theorem d38_42 : decode jdk_68_method_31_code 42 = .ok (.goto 33, 3) := by decide +kernel
theorem d38_75 : decode jdk_68_method_31_code 75 = .ok (.aload_n 0, 1) := by decide +kernel
theorem d38_76 : decode jdk_68_method_31_code 76 = .ok (.areturn, 1) := by decide +kernel
set_option maxRecDepth 65536 in
set_option maxHeartbeats 40000000 in
theorem rm38 (l : Launch) (Z : State) (a0 : Array Value) (hw : ∀ d ∈ tables_1, d.before a0 Z = true) (ws : List Jvm.Cond) (a1 v1 : Addr) (kv : ClassId) (bs : List Int32) (nc : Nat) (c1 : Int32) (zc : Int32) (ms : List Addr) (h0 : Heap) (n0 : Nat) (O0 : Old Z n0 h0) (nb : Nat) (hb0 : n0 ≤ nb) (hnb : nb ≤ h0.size) (fr_a1 : nb ≤ a1) (hm_a1 : a1 ∈ ms) (fr_v1 : nb ≤ v1) (hm_v1 : v1 ∈ ms) (Ea1 : Exa Z h0 a1 "java/lang/StringBuilder") (Gv : Fld Z h0 a1 "java/lang/AbstractStringBuilder" "value" "[B" (.ref v1)) (Gc : Fld Z h0 a1 "java/lang/AbstractStringBuilder" "coder" "B" (.int 0)) (Gn : Fld Z h0 a1 "java/lang/AbstractStringBuilder" "count" "I" (.int (Int32.ofNat bs.length))) (W1 : Arv Z h0 v1 kv .byte (Int32.ofNat nc) (bs.map Value.int) (.int 0)) (Ev : Exa Z h0 v1 "[B") (hc : nc ≤ 5) (hbl : bs.length ≤ nc) (hlt : bs.length < nc) (q1 : ¬ 255 < c1) (nea : a1 ≠ v1) (S_C : Sta Z Z.heap "java/lang/String" "COMPACT_STRINGS" "Z" (.int zc)) (hzc : ¬ zc = 0) :
    Con l Z ms (⟨"java/lang/AbstractStringBuilder", "append", "(C)Ljava/lang/AbstractStringBuilder;"⟩ : MethodName) jdk_68_method_31_code 2 (some (.object "java/lang/AbstractStringBuilder")) ws ({ frames := 1, cells := 0, slots := 0, locals := 14 } : Room) #[(.ref a1), (.int c1)] h0 (fun v vm h L => v = some (.ref a1) ∧ Fr nb L ∧ Keep h0 h [a1, v1] ∧ Fld Z h a1 "java/lang/AbstractStringBuilder" "value" "[B" (.ref v1) ∧ Fld Z h a1 "java/lang/AbstractStringBuilder" "coder" "B" (.int 0) ∧ Fld Z h a1 "java/lang/AbstractStringBuilder" "count" "I" (.int (Int32.ofNat (bs ++ [lo8 c1]).length)) ∧ Arv Z h v1 kv .byte (Int32.ofNat nc) ((bs ++ [lo8 c1]).map Value.int) (.int 0)) := by
  refine Con.mk (plainFor_of_name pn4) ?_
  intro p e s m below meth c s₁ Cc X0 e0 eb J0 B0 M0
  obtain ⟨hx, hZ, hown, hby, hml, hnm, hret, hlk⟩ := id Cc
  have N0 := Fr.nil nb
  have K0 := Keep.refl h0 [a1, v1]
  show Go p e s below _ _ _ _ s₁ (mkF m 0 #[.val (.ref a1), .val (.int c1)] [])
  refine Go.of (fun _ hr => XS.aloadN X0.here hx rfl (hb hby d38_0) rfl rfl hr) ?_
  show Go p e s below _ _ _ _ s₁ (mkF m 1 #[.val (.ref a1), .val (.int c1)] [(.ref a1)])
  refine Go.of (fun _ hr => XS.aloadN X0.here hx rfl (hb hby d38_1) rfl rfl hr) ?_
  show Go p e s below _ _ _ _ s₁ (mkF m 2 #[.val (.ref a1), .val (.int c1)] [(.ref a1), (.ref a1)])
  obtain ⟨T101, X101, e101, st101⟩ := getF X0 hx hZ hown (host := "") (Or.inl (hw _ (List.mem_of_getElem? (i := 115) rfl))) Via.refl e0 Gn (g := (mkF m 2 #[.val (.ref a1), .val (.int c1)] [(.ref a1), (.ref a1)])) rfl rfl (hb hby d38_2)
  refine Go.of (fun _ hr => st101 _ hr) ?_
  show Go p e s below _ _ _ _ T101 (mkF m 5 #[.val (.ref a1), .val (.int c1)] [(.int (Int32.ofNat bs.length)), (.ref a1)])
  refine Go.of (fun _ hr => XS.iconst X101.here hx rfl (hb hby d38_5) hr) ?_
  show Go p e s below _ _ _ _ T101 (mkF m 6 #[.val (.ref a1), .val (.int c1)] [(.int (1 : Int32)), (.int (Int32.ofNat bs.length)), (.ref a1)])
  refine Go.of (fun _ hr => XS.iadd X101.here hx rfl (hb hby d38_6) rfl hr) ?_
  show Go p e s below _ _ _ _ T101 (mkF m 7 #[.val (.ref a1), .val (.int c1)] [(.int ((Int32.ofNat bs.length) + (1 : Int32))), (.ref a1)])
  rw [oi_succ (show bs.length + 1 < 2147483648 by omega)]
  show Go p e s below _ _ _ _ T101 (mkF m 7 #[.val (.ref a1), .val (.int c1)] [(.int (Int32.ofNat (bs.length + 1))), (.ref a1)])
  obtain ⟨_, b102, T102, h102, L102, e102, Cc102, X102, B102, J102, g102, hQ102, st102⟩ := own_callV Cc B0 J0 X101 (hw _ (List.mem_of_getElem? (i := 191) rfl)) (own_decl (hw _ (List.mem_of_getElem? (i := 192) rfl)) (hw _ (List.mem_of_getElem? (i := 195) rfl))) (notFace_of_selects (args := #[]) (mvT hZ (hw _ (List.mem_of_getElem? (i := 194) rfl)))) (hw _ (List.mem_of_getElem? (i := 194) rfl)) (hw _ (List.mem_of_getElem? (i := 192) rfl)) (hw _ (List.mem_of_getElem? (i := 59) rfl)) (hw _ (List.mem_of_getElem? (i := 195) rfl)) (by decide) Ea1 (rm39 l Z a0 hw [] a1 v1 _ bs nc (bs.length + 1) _ h0 n0 O0 h0.size (own_ole O0) K0.1 Ea1 Gv Gc Gn W1 Ev hc hbl hlt) e101 (g := (mkF m 7 #[.val (.ref a1), .val (.int c1)] [(.int (Int32.ofNat (bs.length + 1))), (.ref a1)])) rfl (by rw [hml]; rfl) (argsL := [(.int (Int32.ofNat (bs.length + 1)))]) (rest := []) (lenOf pd14 rfl) rfl (W := 0) (by show 2 * 0 + _ ≤ _; exact Nat.le_of_eq rfl) (hb hby d38_7) (by decide) (by decide) (by decide) (by decide)
  obtain ⟨rfl, Nq102, hh102⟩ := hQ102
  have N102 := Fr.app N0 (show Fr nb _ from fun y hy => Nat.le_trans hnb (Nq102 y hy))
  have NS102 := Fr.app (Fr.nil _) Nq102
  obtain ⟨hx, hZ, hown, hby, hml, hnm, hret, hlk⟩ := id Cc102
  rw [hh102] at e102 B102 J102
  refine Go.of st102 ?_
  show Go p e s below _ _ _ _ T102 (mkF m 10 #[.val (.ref a1), .val (.int c1)] [])
  refine Go.of (fun _ hr => XS.aloadN X102.here hx rfl (hb hby d38_10) rfl rfl hr) ?_
  show Go p e s below _ _ _ _ T102 (mkF m 11 #[.val (.ref a1), .val (.int c1)] [(.ref a1)])
  obtain ⟨_, b103, T103, h103, L103, e103, Cc103, X103, B103, J103, g103, hQ103, st103⟩ := own_callV Cc102 B102 J102 X102 (hw _ (List.mem_of_getElem? (i := 196) rfl)) (hw _ (List.mem_of_getElem? (i := 118) rfl)) (notFace_of_selects (args := #[]) (mvT hZ (hw _ (List.mem_of_getElem? (i := 120) rfl)))) (hw _ (List.mem_of_getElem? (i := 120) rfl)) (hw _ (List.mem_of_getElem? (i := 119) rfl)) (hw _ (List.mem_of_getElem? (i := 59) rfl)) (hw _ (List.mem_of_getElem? (i := 121) rfl)) (by decide) Ea1 (rm24 l Z a0 hw [] a1 v1 _ bs nc zc _ h0 n0 O0 h0.size (own_ole O0) K0.1 Ea1 Gv Gc Gn W1 Ev hc hbl S_C hzc) e102 (g := (mkF m 11 #[.val (.ref a1), .val (.int c1)] [(.ref a1)])) rfl (by rw [hml]; rfl) (argsL := []) (rest := []) (lenOf pd13 rfl) rfl (W := 0) (by show 2 * 0 + _ ≤ _; exact Nat.le_of_eq rfl) (hb hby d38_11) (by decide) (by decide) (by decide) (by decide)
  obtain ⟨rfl, Nq103, hh103⟩ := hQ103
  have N103 := Fr.app N102 (show Fr nb _ from fun y hy => Nat.le_trans hnb (Nq103 y hy))
  have NS103 := Fr.app NS102 Nq103
  obtain ⟨hx, hZ, hown, hby, hml, hnm, hret, hlk⟩ := id Cc103
  rw [hh103] at e103 B103 J103
  refine Go.of st103 ?_
  show Go p e s below _ _ _ _ T103 (mkF m 14 #[.val (.ref a1), .val (.int c1)] [(.int (1 : Int32))])
  refine Go.of (fun _ hr => XS.ifNo X103.here hx rfl (hb hby d38_14) rfl ((if0 _ _).trans (feq (by decide : ¬ ((1 : Int32) = (0 : Int32)))).1) hr) ?_
  show Go p e s below _ _ _ _ T103 (mkF m 17 #[.val (.ref a1), .val (.int c1)] [])
  refine Go.of (fun _ hr => XS.iloadN X103.here hx rfl (hb hby d38_17) rfl  hr) ?_
  show Go p e s below _ _ _ _ T103 (mkF m 18 #[.val (.ref a1), .val (.int c1)] [(.int c1)])
  obtain ⟨_, b104, T104, h104, L104, e104, Cc104, X104, B104, J104, g104, hQ104, st104⟩ := own_callS Cc103 B103 J103 X103 (hw _ (List.mem_of_getElem? (i := 197) rfl)) (hw _ (List.mem_of_getElem? (i := 198) rfl)) (hw _ (List.mem_of_getElem? (i := 79) rfl)) (hw _ (List.mem_of_getElem? (i := 199) rfl)) (by decide) (rm40 l Z a0 hw [] c1 _ h0 n0 O0 h0.size (own_ole O0) K0.1 q1) e103 (g := (mkF m 18 #[.val (.ref a1), .val (.int c1)] [(.int c1)])) rfl (by rw [hml]; rfl) (argsL := [(.int c1)]) (rest := []) (lenOf pd15 rfl) rfl (W := 0) (by show 2 * 0 + _ ≤ _; exact Nat.le_of_eq rfl) (hb hby d38_18) (by decide) (by decide) (by decide) (by decide)
  obtain ⟨rfl, Nq104, hh104⟩ := hQ104
  have N104 := Fr.app N103 (show Fr nb _ from fun y hy => Nat.le_trans hnb (Nq104 y hy))
  have NS104 := Fr.app NS103 Nq104
  obtain ⟨hx, hZ, hown, hby, hml, hnm, hret, hlk⟩ := id Cc104
  rw [hh104] at e104 B104 J104
  refine Go.of st104 ?_
  show Go p e s below _ _ _ _ T104 (mkF m 21 #[.val (.ref a1), .val (.int c1)] [(.int (1 : Int32))])
  refine Go.of (fun _ hr => XS.ifNo X104.here hx rfl (hb hby d38_21) rfl ((if0 _ _).trans (feq (by decide : ¬ ((1 : Int32) = (0 : Int32)))).1) hr) ?_
  show Go p e s below _ _ _ _ T104 (mkF m 24 #[.val (.ref a1), .val (.int c1)] [])
  refine Go.of (fun _ hr => XS.aloadN X104.here hx rfl (hb hby d38_24) rfl rfl hr) ?_
  show Go p e s below _ _ _ _ T104 (mkF m 25 #[.val (.ref a1), .val (.int c1)] [(.ref a1)])
  obtain ⟨T105, X105, e105, st105⟩ := getF X104 hx hZ hown (host := "") (Or.inl (hw _ (List.mem_of_getElem? (i := 63) rfl))) Via.refl e104 Gv (g := (mkF m 25 #[.val (.ref a1), .val (.int c1)] [(.ref a1)])) rfl rfl (hb hby d38_25)
  refine Go.of (fun _ hr => st105 _ hr) ?_
  show Go p e s below _ _ _ _ T105 (mkF m 28 #[.val (.ref a1), .val (.int c1)] [(.ref v1)])
  refine Go.of (fun _ hr => XS.aloadN X105.here hx rfl (hb hby d38_28) rfl rfl hr) ?_
  show Go p e s below _ _ _ _ T105 (mkF m 29 #[.val (.ref a1), .val (.int c1)] [(.ref a1), (.ref v1)])
  refine Go.of (fun _ hr => XS.dup X105.here hx rfl (hb hby d38_29) rfl rfl hr) ?_
  show Go p e s below _ _ _ _ T105 (mkF m 30 #[.val (.ref a1), .val (.int c1)] [(.ref a1), (.ref a1), (.ref v1)])
  obtain ⟨T106, X106, e106, st106⟩ := getF X105 hx hZ hown (host := "") (Or.inl (hw _ (List.mem_of_getElem? (i := 115) rfl))) Via.refl e105 Gn (g := (mkF m 30 #[.val (.ref a1), .val (.int c1)] [(.ref a1), (.ref a1), (.ref v1)])) rfl rfl (hb hby d38_30)
  refine Go.of (fun _ hr => st106 _ hr) ?_
  show Go p e s below _ _ _ _ T106 (mkF m 33 #[.val (.ref a1), .val (.int c1)] [(.int (Int32.ofNat bs.length)), (.ref a1), (.ref v1)])
  refine Go.of (fun _ hr => XS.dupX1 X106.here hx rfl (hb hby d38_33) rfl rfl rfl hr) ?_
  show Go p e s below _ _ _ _ T106 (mkF m 34 #[.val (.ref a1), .val (.int c1)] [(.int (Int32.ofNat bs.length)), (.ref a1), (.int (Int32.ofNat bs.length)), (.ref v1)])
  refine Go.of (fun _ hr => XS.iconst X106.here hx rfl (hb hby d38_34) hr) ?_
  show Go p e s below _ _ _ _ T106 (mkF m 35 #[.val (.ref a1), .val (.int c1)] [(.int (1 : Int32)), (.int (Int32.ofNat bs.length)), (.ref a1), (.int (Int32.ofNat bs.length)), (.ref v1)])
  refine Go.of (fun _ hr => XS.iadd X106.here hx rfl (hb hby d38_35) rfl hr) ?_
  show Go p e s below _ _ _ _ T106 (mkF m 36 #[.val (.ref a1), .val (.int c1)] [(.int ((Int32.ofNat bs.length) + (1 : Int32))), (.ref a1), (.int (Int32.ofNat bs.length)), (.ref v1)])
  rw [oi_succ (show bs.length + 1 < 2147483648 by omega)]
  show Go p e s below _ _ _ _ T106 (mkF m 36 #[.val (.ref a1), .val (.int c1)] [(.int (Int32.ofNat (bs.length + 1))), (.ref a1), (.int (Int32.ofNat bs.length)), (.ref v1)])
  obtain ⟨T107, h107, X107, e107, W107, st107⟩ := putF X106 hx hZ hown (host := "") (Or.inl (hw _ (List.mem_of_getElem? (i := 115) rfl))) Via.refl e106 Gn Ea1 (Or.inl (hw _ (List.mem_of_getElem? (i := 116) rfl))) (hw _ (List.mem_of_getElem? (i := 40) rfl)) (ty := .int) (by decide) rfl rfl (g := (mkF m 36 #[.val (.ref a1), .val (.int c1)] [(.int (Int32.ofNat (bs.length + 1))), (.ref a1), (.int (Int32.ofNat bs.length)), (.ref v1)])) rfl rfl (hb hby d38_36)
  have N107 := Fr.snoc X107 N104 fr_a1
  have J107 := J104.wr W107 hm_a1
  have B107 := B104.mono (Nat.le_of_eq W107.size.symm)
  have O107 := O0.wr W107 (Nat.le_trans hb0 fr_a1)
  have K107 := K0.wr W107 (Or.inl (List.mem_of_getElem? (i := 0) rfl))
  have Fw107 := Gn.same W107
  refine Go.of (fun _ hr => st107 _ hr) ?_
  show Go p e s below _ _ _ _ T107 (mkF m 39 #[.val (.ref a1), .val (.int c1)] [(.int (Int32.ofNat bs.length)), (.ref v1)])
  refine Go.of (fun _ hr => XS.iloadN X107.here hx rfl (hb hby d38_39) rfl  hr) ?_
  show Go p e s below _ _ _ _ T107 (mkF m 40 #[.val (.ref a1), .val (.int c1)] [(.int c1), (.int (Int32.ofNat bs.length)), (.ref v1)])
  refine Go.of (fun _ hr => XS.i2b X107.here hx rfl (hb hby d38_40) rfl hr) ?_
  show Go p e s below _ _ _ _ T107 (mkF m 41 #[.val (.ref a1), .val (.int c1)] [(.int (c1.toInt8.toInt32)), (.int (Int32.ofNat bs.length)), (.ref v1)])
  have f109 := (W1.other W107 (Ne.symm nea))
  obtain ⟨cl108, Ar108, q108, S108, N108_, H108, G108⟩ := id f109
  have hin108 : ¬ ((Int32.ofNat bs.length) < 0 ∨ cl108.slots.size ≤ ((Int32.ofNat bs.length)).toNatClampNeg) := inb_of S108 ⟨oi_nn (by omega), oi_lt (by omega) (by omega) (by omega)⟩
  obtain ⟨T108, h108, X108, e108, W108, st108⟩ := stB X107 hx hZ e107 Ar108 (j := (Int32.ofNat bs.length)) hin108 (g := (mkF m 41 #[.val (.ref a1), .val (.int c1)] [(.int (c1.toInt8.toInt32)), (.int (Int32.ofNat bs.length)), (.ref v1)])) rfl rfl (hb hby d38_41)
  rw [nar_b] at W108
  have V108 : Arv Z h108 v1 kv .byte (Int32.ofNat nc) ((bs ++ [lo8 c1]).map Value.int) (.int 0) := by have q := own_push f109 W108 (by rw [oi_nat (by omega)]; rw [List.length_map]) (fits_b c1); rw [push1] at q; exact q
  have N108 := Fr.snoc X108 N107 fr_v1
  have J108 := J107.wr W108 hm_v1
  have B108 := B107.mono (Nat.le_of_eq W108.size.symm)
  have O108 := O107.wr W108 (Nat.le_trans hb0 fr_v1)
  have K108 := K107.wr W108 (Or.inl (List.mem_of_getElem? (i := 1) rfl))
  refine Go.of (fun _ hr => st108 _ hr) ?_
  show Go p e s below _ _ _ _ T108 (mkF m 42 #[.val (.ref a1), .val (.int c1)] [])
  refine Go.of (fun _ hr => XS.goto X108.here hx rfl (pc0 := 42) (pc' := 75) rfl (hb hby d38_42) (by decide) (by decide) hr) ?_
  show Go p e s below _ _ _ _ T108 (mkF m 75 #[.val (.ref a1), .val (.int c1)] [])
  refine Go.of (fun _ hr => XS.aloadN X108.here hx rfl (hb hby d38_75) rfl rfl hr) ?_
  show Go p e s below _ _ _ _ T108 (mkF m 76 #[.val (.ref a1), .val (.int c1)] [(.ref a1)])
  have f110 := ((Gv.other W107 (Or.inr (slot_ne (Or.inl (hw _ (List.mem_of_getElem? (i := 64) rfl))) (Or.inl (hw _ (List.mem_of_getElem? (i := 116) rfl))) (by decide) (t := (.array .byte)) (t' := .int) (by decide) (by decide)))).other W108 (Or.inl nea))
  have f111 := ((Gc.other W107 (Or.inr (slot_ne (Or.inl (hw _ (List.mem_of_getElem? (i := 66) rfl))) (Or.inl (hw _ (List.mem_of_getElem? (i := 116) rfl))) (by decide) (t := .byte) (t' := .int) (by decide) (by decide)))).other W108 (Or.inl nea))
  have f112 := (Fw107.other W108 (Or.inl nea))
  exact Go.retA X108 hx hlk B108 J108 e108 hret rfl rfl (hb hby d38_76) (by decide) (by decide) (fun vm_ hw_ => ⟨rfl, N108, K108, f110, f111, (by rw [List.length_append]; exact f112), V108⟩)

theorem d37_0 : decode jdk_67_method_14_code 0 = .ok (.aload_n 0, 1) := by decide +kernel
theorem d37_1 : decode jdk_67_method_14_code 1 = .ok (.iload_n 1, 1) := by decide +kernel
theorem d37_2 : decode jdk_67_method_14_code 2 = .ok (.invokespecial 50, 3) := by decide +kernel
theorem pd16 : parseMethodDescriptor "(C)Ljava/lang/AbstractStringBuilder;" = some ⟨[.char], some (.object "java/lang/AbstractStringBuilder")⟩ := by decide +kernel
theorem d37_5 : decode jdk_67_method_14_code 5 = .ok (.pop, 1) := by decide +kernel
theorem d37_6 : decode jdk_67_method_14_code 6 = .ok (.aload_n 0, 1) := by decide +kernel
theorem d37_7 : decode jdk_67_method_14_code 7 = .ok (.areturn, 1) := by decide +kernel
set_option maxRecDepth 65536 in
set_option maxHeartbeats 40000000 in
theorem rm37 (l : Launch) (Z : State) (a0 : Array Value) (hw : ∀ d ∈ tables_1, d.before a0 Z = true) (ws : List Jvm.Cond) (a1 v1 : Addr) (kv : ClassId) (bs : List Int32) (nc : Nat) (c1 : Int32) (zc : Int32) (ms : List Addr) (h0 : Heap) (n0 : Nat) (O0 : Old Z n0 h0) (nb : Nat) (hb0 : n0 ≤ nb) (hnb : nb ≤ h0.size) (fr_a1 : nb ≤ a1) (hm_a1 : a1 ∈ ms) (fr_v1 : nb ≤ v1) (hm_v1 : v1 ∈ ms) (Ea1 : Exa Z h0 a1 "java/lang/StringBuilder") (Gv : Fld Z h0 a1 "java/lang/AbstractStringBuilder" "value" "[B" (.ref v1)) (Gc : Fld Z h0 a1 "java/lang/AbstractStringBuilder" "coder" "B" (.int 0)) (Gn : Fld Z h0 a1 "java/lang/AbstractStringBuilder" "count" "I" (.int (Int32.ofNat bs.length))) (W1 : Arv Z h0 v1 kv .byte (Int32.ofNat nc) (bs.map Value.int) (.int 0)) (Ev : Exa Z h0 v1 "[B") (hc : nc ≤ 5) (hbl : bs.length ≤ nc) (hlt : bs.length < nc) (q1 : ¬ 255 < c1) (nea : a1 ≠ v1) (S_C : Sta Z Z.heap "java/lang/String" "COMPACT_STRINGS" "Z" (.int zc)) (hzc : ¬ zc = 0) :
    Con l Z ms (⟨"java/lang/StringBuilder", "append", "(C)Ljava/lang/StringBuilder;"⟩ : MethodName) jdk_67_method_14_code 2 (some (.object "java/lang/StringBuilder")) ws ({ frames := 2, cells := 0, slots := 0, locals := 27 } : Room) #[(.ref a1), (.int c1)] h0 (fun v vm h L => v = some (.ref a1) ∧ Fr nb L ∧ Keep h0 h [a1, v1] ∧ Fld Z h a1 "java/lang/AbstractStringBuilder" "value" "[B" (.ref v1) ∧ Fld Z h a1 "java/lang/AbstractStringBuilder" "coder" "B" (.int 0) ∧ Fld Z h a1 "java/lang/AbstractStringBuilder" "count" "I" (.int (Int32.ofNat (bs ++ [lo8 c1]).length)) ∧ Arv Z h v1 kv .byte (Int32.ofNat nc) ((bs ++ [lo8 c1]).map Value.int) (.int 0)) := by
  refine Con.mk (plainFor_of_name pn5) ?_
  intro p e s m below meth c s₁ Cc X0 e0 eb J0 B0 M0
  obtain ⟨hx, hZ, hown, hby, hml, hnm, hret, hlk⟩ := id Cc
  have N0 := Fr.nil nb
  have K0 := Keep.refl h0 [a1, v1]
  show Go p e s below _ _ _ _ s₁ (mkF m 0 #[.val (.ref a1), .val (.int c1)] [])
  refine Go.of (fun _ hr => XS.aloadN X0.here hx rfl (hb hby d37_0) rfl rfl hr) ?_
  show Go p e s below _ _ _ _ s₁ (mkF m 1 #[.val (.ref a1), .val (.int c1)] [(.ref a1)])
  refine Go.of (fun _ hr => XS.iloadN X0.here hx rfl (hb hby d37_1) rfl  hr) ?_
  show Go p e s below _ _ _ _ s₁ (mkF m 2 #[.val (.ref a1), .val (.int c1)] [(.int c1), (.ref a1)])
  obtain ⟨_, b101, T101, h101, L101, e101, Cc101, X101, B101, J101, g101, hQ101, st101⟩ := own_callP Cc B0 J0 X0 (y := (⟨"java/lang/AbstractStringBuilder", "append", "(C)Ljava/lang/AbstractStringBuilder;"⟩ : MethodName)) (hw _ (List.mem_of_getElem? (i := 187) rfl)) (own_sm (hw _ (List.mem_of_getElem? (i := 188) rfl)) (own_nf (hw _ (List.mem_of_getElem? (i := 104) rfl)) rfl) (by decide)) (hw _ (List.mem_of_getElem? (i := 188) rfl)) (hw _ (List.mem_of_getElem? (i := 113) rfl)) (by decide) (hw _ (List.mem_of_getElem? (i := 59) rfl)) (hw _ (List.mem_of_getElem? (i := 190) rfl)) Ea1 (rm38 l Z a0 hw [] a1 v1 _ bs nc c1 zc _ h0 n0 O0 nb hb0 (Nat.le_trans hnb K0.1) fr_a1 hm_a1 fr_v1 hm_v1 Ea1 Gv Gc Gn W1 Ev hc hbl hlt q1 nea S_C hzc) e0 (g := (mkF m 2 #[.val (.ref a1), .val (.int c1)] [(.int c1), (.ref a1)])) rfl (by rw [hml]; rfl) (argsL := [(.int c1)]) (rest := []) (lenOf pd16 rfl) rfl (W := 0) (by show 2 * 0 + _ ≤ _; exact Nat.le_of_eq rfl) (hb hby d37_2) (by decide) (by decide) (by decide) (by decide)
  obtain ⟨rfl, Nq101, Kq101, Gv101, Gc101, Gn101, Wv101⟩ := hQ101
  have N101 := Fr.app N0 Nq101
  obtain ⟨hx, hZ, hown, hby, hml, hnm, hret, hlk⟩ := id Cc101
  have K101 := K0.trans Kq101 (allS (Or.inl (List.mem_of_getElem? (i := 0) rfl)) (allS (Or.inl (List.mem_of_getElem? (i := 1) rfl)) all0))
  have O101 := O0.keep Kq101 (allS (Nat.le_trans hb0 fr_a1) (allS (Nat.le_trans hb0 fr_v1) all0))
  refine Go.of st101 ?_
  show Go p e s below _ _ _ _ T101 (mkF m 5 #[.val (.ref a1), .val (.int c1)] [(.ref a1)])
  refine Go.of (fun _ hr => XS.pop X101.here hx rfl (hb hby d37_5) rfl rfl hr) ?_
  show Go p e s below _ _ _ _ T101 (mkF m 6 #[.val (.ref a1), .val (.int c1)] [])
  refine Go.of (fun _ hr => XS.aloadN X101.here hx rfl (hb hby d37_6) rfl rfl hr) ?_
  show Go p e s below _ _ _ _ T101 (mkF m 7 #[.val (.ref a1), .val (.int c1)] [(.ref a1)])
  exact Go.retA X101 hx hlk B101 J101 e101 hret rfl rfl (hb hby d37_7) (by decide) (by decide) (fun vm_ hw_ => ⟨rfl, N101, K101, Gv101, Gc101, Gn101, Wv101⟩)

theorem d21_0 : decode jdk_68_method_64_code 0 = .ok (.aload_n 0, 1) := by decide +kernel
theorem d21_1 : decode jdk_68_method_64_code 1 = .ok (.getfield 15, 3) := by decide +kernel
theorem d21_4 : decode jdk_68_method_64_code 4 = .ok (.areturn, 1) := by decide +kernel
set_option maxRecDepth 65536 in
set_option maxHeartbeats 40000000 in
theorem rm21 (l : Launch) (Z : State) (a0 : Array Value) (hw : ∀ d ∈ tables_1, d.before a0 Z = true) (ws : List Jvm.Cond) (a1 v1 : Addr) (kv : ClassId) (bs : List Int32) (nc : Nat) (ms : List Addr) (h0 : Heap) (n0 : Nat) (O0 : Old Z n0 h0) (nb : Nat) (hb0 : n0 ≤ nb) (hnb : nb ≤ h0.size) (Ea1 : Exa Z h0 a1 "java/lang/StringBuilder") (Gv : Fld Z h0 a1 "java/lang/AbstractStringBuilder" "value" "[B" (.ref v1)) (Gc : Fld Z h0 a1 "java/lang/AbstractStringBuilder" "coder" "B" (.int 0)) (Gn : Fld Z h0 a1 "java/lang/AbstractStringBuilder" "count" "I" (.int (Int32.ofNat bs.length))) (W1 : Arv Z h0 v1 kv .byte (Int32.ofNat nc) (bs.map Value.int) (.int 0)) (Ev : Exa Z h0 v1 "[B") (hc : nc ≤ 5) (hbl : bs.length ≤ nc) :
    Con l Z ms (⟨"java/lang/AbstractStringBuilder", "getValue", "()[B"⟩ : MethodName) jdk_68_method_64_code 1 (some (.array .byte)) ws ({ frames := 0, cells := 0, slots := 0, locals := 0 } : Room) #[(.ref a1)] h0 (fun v vm h L => v = some (.ref v1) ∧ Fr nb L ∧ h = h0) := by
  refine Con.mk (plainFor_of_name pn4) ?_
  intro p e s m below meth c s₁ Cc X0 e0 eb J0 B0 M0
  obtain ⟨hx, hZ, hown, hby, hml, hnm, hret, hlk⟩ := id Cc
  have N0 := Fr.nil h0.size
  have K0 := Keep.refl h0 []
  show Go p e s below _ _ _ _ s₁ (mkF m 0 #[.val (.ref a1)] [])
  refine Go.of (fun _ hr => XS.aloadN X0.here hx rfl (hb hby d21_0) rfl rfl hr) ?_
  show Go p e s below _ _ _ _ s₁ (mkF m 1 #[.val (.ref a1)] [(.ref a1)])
  obtain ⟨T101, X101, e101, st101⟩ := getF X0 hx hZ hown (host := "") (Or.inl (hw _ (List.mem_of_getElem? (i := 63) rfl))) Via.refl e0 Gv (g := (mkF m 1 #[.val (.ref a1)] [(.ref a1)])) rfl rfl (hb hby d21_1)
  refine Go.of (fun _ hr => st101 _ hr) ?_
  show Go p e s below _ _ _ _ T101 (mkF m 4 #[.val (.ref a1)] [(.ref v1)])
  exact Go.retA X101 hx hlk B0 J0 e101 hret rfl rfl (hb hby d21_4) (by decide) (by decide) (fun vm_ hw_ => ⟨rfl, (fun y hy => Nat.le_trans hnb (N0 y hy)), rfl⟩)

theorem d23_0 : decode jdk_68_method_6_code 0 = .ok (.aload_n 0, 1) := by decide +kernel
theorem d23_1 : decode jdk_68_method_6_code 1 = .ok (.getfield 79, 3) := by decide +kernel
theorem d23_4 : decode jdk_68_method_6_code 4 = .ok (.ireturn, 1) := by decide +kernel
set_option maxRecDepth 65536 in
set_option maxHeartbeats 40000000 in
theorem rm23 (l : Launch) (Z : State) (a0 : Array Value) (hw : ∀ d ∈ tables_1, d.before a0 Z = true) (ws : List Jvm.Cond) (a1 v1 : Addr) (kv : ClassId) (bs : List Int32) (nc : Nat) (ms : List Addr) (h0 : Heap) (n0 : Nat) (O0 : Old Z n0 h0) (nb : Nat) (hb0 : n0 ≤ nb) (hnb : nb ≤ h0.size) (Ea1 : Exa Z h0 a1 "java/lang/StringBuilder") (Gv : Fld Z h0 a1 "java/lang/AbstractStringBuilder" "value" "[B" (.ref v1)) (Gc : Fld Z h0 a1 "java/lang/AbstractStringBuilder" "coder" "B" (.int 0)) (Gn : Fld Z h0 a1 "java/lang/AbstractStringBuilder" "count" "I" (.int (Int32.ofNat bs.length))) (W1 : Arv Z h0 v1 kv .byte (Int32.ofNat nc) (bs.map Value.int) (.int 0)) (Ev : Exa Z h0 v1 "[B") (hc : nc ≤ 5) (hbl : bs.length ≤ nc) :
    Con l Z ms (⟨"java/lang/AbstractStringBuilder", "length", "()I"⟩ : MethodName) jdk_68_method_6_code 1 (some .int) ws ({ frames := 0, cells := 0, slots := 0, locals := 0 } : Room) #[(.ref a1)] h0 (fun v vm h L => v = some (.int (Int32.ofNat bs.length)) ∧ Fr nb L ∧ h = h0) := by
  refine Con.mk (plainFor_of_name pn4) ?_
  intro p e s m below meth c s₁ Cc X0 e0 eb J0 B0 M0
  obtain ⟨hx, hZ, hown, hby, hml, hnm, hret, hlk⟩ := id Cc
  have N0 := Fr.nil h0.size
  have K0 := Keep.refl h0 []
  show Go p e s below _ _ _ _ s₁ (mkF m 0 #[.val (.ref a1)] [])
  refine Go.of (fun _ hr => XS.aloadN X0.here hx rfl (hb hby d23_0) rfl rfl hr) ?_
  show Go p e s below _ _ _ _ s₁ (mkF m 1 #[.val (.ref a1)] [(.ref a1)])
  obtain ⟨T101, X101, e101, st101⟩ := getF X0 hx hZ hown (host := "") (Or.inl (hw _ (List.mem_of_getElem? (i := 115) rfl))) Via.refl e0 Gn (g := (mkF m 1 #[.val (.ref a1)] [(.ref a1)])) rfl rfl (hb hby d23_1)
  refine Go.of (fun _ hr => st101 _ hr) ?_
  show Go p e s below _ _ _ _ T101 (mkF m 4 #[.val (.ref a1)] [(.int (Int32.ofNat bs.length))])
  exact Go.retI X101 hx hlk B0 J0 e101 hret (hb hby d23_4) (by decide) (by decide) (fun vm_ hw_ => ⟨rfl, (fun y hy => Nat.le_trans hnb (N0 y hy)), rfl⟩)

theorem d22_0 : decode jdk_67_method_93_code 0 = .ok (.aload_n 0, 1) := by decide +kernel
theorem d22_1 : decode jdk_67_method_93_code 1 = .ok (.invokespecial 343, 3) := by decide +kernel
theorem pd17 : parseMethodDescriptor "()I" = some ⟨[], some .int⟩ := by decide +kernel
theorem d22_4 : decode jdk_67_method_93_code 4 = .ok (.ireturn, 1) := by decide +kernel
set_option maxRecDepth 65536 in
set_option maxHeartbeats 40000000 in
theorem rm22 (l : Launch) (Z : State) (a0 : Array Value) (hw : ∀ d ∈ tables_1, d.before a0 Z = true) (ws : List Jvm.Cond) (a1 v1 : Addr) (kv : ClassId) (bs : List Int32) (nc : Nat) (ms : List Addr) (h0 : Heap) (n0 : Nat) (O0 : Old Z n0 h0) (nb : Nat) (hb0 : n0 ≤ nb) (hnb : nb ≤ h0.size) (Ea1 : Exa Z h0 a1 "java/lang/StringBuilder") (Gv : Fld Z h0 a1 "java/lang/AbstractStringBuilder" "value" "[B" (.ref v1)) (Gc : Fld Z h0 a1 "java/lang/AbstractStringBuilder" "coder" "B" (.int 0)) (Gn : Fld Z h0 a1 "java/lang/AbstractStringBuilder" "count" "I" (.int (Int32.ofNat bs.length))) (W1 : Arv Z h0 v1 kv .byte (Int32.ofNat nc) (bs.map Value.int) (.int 0)) (Ev : Exa Z h0 v1 "[B") (hc : nc ≤ 5) (hbl : bs.length ≤ nc) :
    Con l Z ms (⟨"java/lang/StringBuilder", "length", "()I"⟩ : MethodName) jdk_67_method_93_code 1 (some .int) ws ({ frames := 1, cells := 0, slots := 0, locals := 12 } : Room) #[(.ref a1)] h0 (fun v vm h L => v = some (.int (Int32.ofNat bs.length)) ∧ Fr nb L ∧ h = h0) := by
  refine Con.mk (plainFor_of_name pn5) ?_
  intro p e s m below meth c s₁ Cc X0 e0 eb J0 B0 M0
  obtain ⟨hx, hZ, hown, hby, hml, hnm, hret, hlk⟩ := id Cc
  have N0 := Fr.nil h0.size
  have K0 := Keep.refl h0 []
  show Go p e s below _ _ _ _ s₁ (mkF m 0 #[.val (.ref a1)] [])
  refine Go.of (fun _ hr => XS.aloadN X0.here hx rfl (hb hby d22_0) rfl rfl hr) ?_
  show Go p e s below _ _ _ _ s₁ (mkF m 1 #[.val (.ref a1)] [(.ref a1)])
  obtain ⟨_, b101, T101, h101, L101, e101, Cc101, X101, B101, J101, g101, hQ101, st101⟩ := own_callP Cc B0 J0 X0 (y := (⟨"java/lang/AbstractStringBuilder", "length", "()I"⟩ : MethodName)) (hw _ (List.mem_of_getElem? (i := 112) rfl)) (own_sm (hw _ (List.mem_of_getElem? (i := 108) rfl)) (own_nf (hw _ (List.mem_of_getElem? (i := 104) rfl)) rfl) (by decide)) (hw _ (List.mem_of_getElem? (i := 108) rfl)) (hw _ (List.mem_of_getElem? (i := 113) rfl)) (by decide) (hw _ (List.mem_of_getElem? (i := 59) rfl)) (hw _ (List.mem_of_getElem? (i := 114) rfl)) Ea1 (rm23 l Z a0 hw [] a1 v1 _ bs nc _ h0 n0 O0 h0.size (own_ole O0) K0.1 Ea1 Gv Gc Gn W1 Ev hc hbl) e0 (g := (mkF m 1 #[.val (.ref a1)] [(.ref a1)])) rfl (by rw [hml]; rfl) (argsL := []) (rest := []) (lenOf pd17 rfl) rfl (W := 0) (by show 2 * 0 + _ ≤ _; exact Nat.le_of_eq rfl) (hb hby d22_1) (by decide) (by decide) (by decide) (by decide)
  obtain ⟨rfl, Nq101, hh101⟩ := hQ101
  have N101 := Fr.app N0 Nq101
  obtain ⟨hx, hZ, hown, hby, hml, hnm, hret, hlk⟩ := id Cc101
  rw [hh101] at e101 B101 J101
  refine Go.of st101 ?_
  show Go p e s below _ _ _ _ T101 (mkF m 4 #[.val (.ref a1)] [(.int (Int32.ofNat bs.length))])
  exact Go.retI X101 hx hlk B101 J101 e101 hret (hb hby d22_4) (by decide) (by decide) (fun vm_ hw_ => ⟨rfl, (fun y hy => Nat.le_trans hnb (N101 y hy)), rfl⟩)

theorem pn6 : plainName "java/util/Arrays" = true := by first | (simp [plainName, overriddenIn]; done) | decide +kernel
theorem d27_0 : decode jdk_65_method_131_code 0 = .ok (.iload_n 1, 1) := by decide +kernel
theorem d27_1 : decode jdk_65_method_131_code 1 = .ok (.iload_n 0, 1) := by decide +kernel
theorem d27_2 : decode jdk_65_method_131_code 2 = .ok (.if_icmp .ge 35, 3) := by decide +kernel
theorem d27_37 : decode jdk_65_method_131_code 37 = .ok (.return_, 1) := by decide +kernel
set_option maxRecDepth 65536 in
set_option maxHeartbeats 40000000 in
theorem rm27 (l : Launch) (Z : State) (a0 : Array Value) (hw : ∀ d ∈ tables_1, d.before a0 Z = true) (ws : List Jvm.Cond) (j : Nat) (ms : List Addr) (h0 : Heap) (n0 : Nat) (O0 : Old Z n0 h0) (nb : Nat) (hb0 : n0 ≤ nb) (hnb : nb ≤ h0.size) (hj : j ≤ 1000) :
    Con l Z ms (⟨"java/util/Arrays", "checkLength", "(II)V"⟩ : MethodName) jdk_65_method_131_code 2 none ws ({ frames := 0, cells := 0, slots := 0, locals := 0 } : Room) #[(.int (0 : Int32)), (.int (Int32.ofNat j))] h0 (fun v vm h L => v = none ∧ Fr nb L ∧ h = h0) := by
  refine Con.mk (plainFor_of_name pn6) ?_
  intro p e s m below meth c s₁ Cc X0 e0 eb J0 B0 M0
  obtain ⟨hx, hZ, hown, hby, hml, hnm, hret, hlk⟩ := id Cc
  have N0 := Fr.nil h0.size
  have K0 := Keep.refl h0 []
  show Go p e s below _ _ _ _ s₁ (mkF m 0 #[.val (.int (0 : Int32)), .val (.int (Int32.ofNat j))] [])
  refine Go.of (fun _ hr => XS.iloadN X0.here hx rfl (hb hby d27_0) rfl  hr) ?_
  show Go p e s below _ _ _ _ s₁ (mkF m 1 #[.val (.int (0 : Int32)), .val (.int (Int32.ofNat j))] [(.int (Int32.ofNat j))])
  refine Go.of (fun _ hr => XS.iloadN X0.here hx rfl (hb hby d27_1) rfl  hr) ?_
  show Go p e s below _ _ _ _ s₁ (mkF m 2 #[.val (.int (0 : Int32)), .val (.int (Int32.ofNat j))] [(.int (0 : Int32)), (.int (Int32.ofNat j))])
  refine Go.of (fun _ hr => XS.icmpYes X0.here hx rfl (pc0 := 2) (pc' := 37) rfl (hb hby d27_2) rfl (flt (oi_nn (by omega))).2.1 (by decide) (by decide) hr) ?_
  show Go p e s below _ _ _ _ s₁ (mkF m 37 #[.val (.int (0 : Int32)), .val (.int (Int32.ofNat j))] [])
  exact Go.retV X0 hx hlk B0 J0 e0 hret (hb hby d27_37) (by decide) (by decide) (fun vm_ hw_ => ⟨rfl, (fun y hy => Nat.le_trans hnb (N0 y hy)), rfl⟩)

theorem d28_0 : decode jdk_29_method_69_code 0 = .ok (.iload_n 0, 1) := by decide +kernel
theorem d28_1 : decode jdk_29_method_69_code 1 = .ok (.iload_n 1, 1) := by decide +kernel
theorem d28_2 : decode jdk_29_method_69_code 2 = .ok (.if_icmp .gt 7, 3) := by decide +kernel
theorem d28_9 : decode jdk_29_method_69_code 9 = .ok (.iload_n 1, 1) := by decide +kernel
theorem d28_10 : decode jdk_29_method_69_code 10 = .ok (.ireturn, 1) := by decide +kernel
set_option maxRecDepth 65536 in
set_option maxHeartbeats 40000000 in
theorem rm28 (l : Launch) (Z : State) (a0 : Array Value) (hw : ∀ d ∈ tables_1, d.before a0 Z = true) (ws : List Jvm.Cond) (q j : Nat) (ms : List Addr) (h0 : Heap) (n0 : Nat) (O0 : Old Z n0 h0) (nb : Nat) (hb0 : n0 ≤ nb) (hnb : nb ≤ h0.size) (hq : q ≤ 1000) (hj : j < q) :
    Con l Z ms (⟨"java/lang/Math", "min", "(II)I"⟩ : MethodName) jdk_29_method_69_code 2 (some .int) ws ({ frames := 0, cells := 0, slots := 0, locals := 0 } : Room) #[(.int (Int32.ofNat q)), (.int (Int32.ofNat j))] h0 (fun v vm h L => v = some (.int (Int32.ofNat j)) ∧ Fr nb L ∧ h = h0) := by
  refine Con.mk (by decide +kernel) ?_
  intro p e s m below meth c s₁ Cc X0 e0 eb J0 B0 M0
  obtain ⟨hx, hZ, hown, hby, hml, hnm, hret, hlk⟩ := id Cc
  have N0 := Fr.nil h0.size
  have K0 := Keep.refl h0 []
  show Go p e s below _ _ _ _ s₁ (mkF m 0 #[.val (.int (Int32.ofNat q)), .val (.int (Int32.ofNat j))] [])
  refine Go.of (fun _ hr => XS.iloadN X0.here hx rfl (hb hby d28_0) rfl  hr) ?_
  show Go p e s below _ _ _ _ s₁ (mkF m 1 #[.val (.int (Int32.ofNat q)), .val (.int (Int32.ofNat j))] [(.int (Int32.ofNat q))])
  refine Go.of (fun _ hr => XS.iloadN X0.here hx rfl (hb hby d28_1) rfl  hr) ?_
  show Go p e s below _ _ _ _ s₁ (mkF m 2 #[.val (.int (Int32.ofNat q)), .val (.int (Int32.ofNat j))] [(.int (Int32.ofNat j)), (.int (Int32.ofNat q))])
  refine Go.of (fun _ hr => XS.icmpYes X0.here hx rfl (pc0 := 2) (pc' := 9) rfl (hb hby d28_2) rfl (tlt (oi_lt (by omega) (by omega) hj)).2.2.1 (by decide) (by decide) hr) ?_
  show Go p e s below _ _ _ _ s₁ (mkF m 9 #[.val (.int (Int32.ofNat q)), .val (.int (Int32.ofNat j))] [])
  refine Go.of (fun _ hr => XS.iloadN X0.here hx rfl (hb hby d28_9) rfl  hr) ?_
  show Go p e s below _ _ _ _ s₁ (mkF m 10 #[.val (.int (Int32.ofNat q)), .val (.int (Int32.ofNat j))] [(.int (Int32.ofNat j))])
  exact Go.retI X0 hx hlk B0 J0 e0 hret (hb hby d28_10) (by decide) (by decide) (fun vm_ hw_ => ⟨rfl, (fun y hy => Nat.le_trans hnb (N0 y hy)), rfl⟩)

theorem d26_0 : decode jdk_65_method_133_code 0 = .ok (.iload_n 1, 1) := by decide +kernel
theorem d26_1 : decode jdk_65_method_133_code 1 = .ok (.iload_n 2, 1) := by decide +kernel
theorem d26_2 : decode jdk_65_method_133_code 2 = .ok (.invokestatic 343, 3) := by decide +kernel
theorem d26_5 : decode jdk_65_method_133_code 5 = .ok (.iload_n 2, 1) := by decide +kernel
theorem d26_6 : decode jdk_65_method_133_code 6 = .ok (.iload_n 1, 1) := by decide +kernel
theorem d26_7 : decode jdk_65_method_133_code 7 = .ok (.isub, 1) := by decide +kernel
theorem d26_8 : decode jdk_65_method_133_code 8 = .ok (.istore_n 3, 1) := by decide +kernel
theorem d26_9 : decode jdk_65_method_133_code 9 = .ok (.iload_n 3, 1) := by decide +kernel
theorem d26_10 : decode jdk_65_method_133_code 10 = .ok (.newarray .byte, 2) := by decide +kernel
theorem d26_12 : decode jdk_65_method_133_code 12 = .ok (.astore 4, 2) := by decide +kernel
theorem d26_14 : decode jdk_65_method_133_code 14 = .ok (.aload_n 0, 1) := by decide +kernel
theorem d26_15 : decode jdk_65_method_133_code 15 = .ok (.iload_n 1, 1) := by decide +kernel
theorem d26_16 : decode jdk_65_method_133_code 16 = .ok (.aload 4, 2) := by decide +kernel
theorem d26_18 : decode jdk_65_method_133_code 18 = .ok (.iconst 0, 1) := by decide +kernel
theorem d26_19 : decode jdk_65_method_133_code 19 = .ok (.aload_n 0, 1) := by decide +kernel
theorem d26_20 : decode jdk_65_method_133_code 20 = .ok (.arraylength, 1) := by decide +kernel
theorem d26_21 : decode jdk_65_method_133_code 21 = .ok (.iload_n 1, 1) := by decide +kernel
theorem d26_22 : decode jdk_65_method_133_code 22 = .ok (.isub, 1) := by decide +kernel
theorem d26_23 : decode jdk_65_method_133_code 23 = .ok (.iload_n 3, 1) := by decide +kernel
theorem d26_24 : decode jdk_65_method_133_code 24 = .ok (.invokestatic 304, 3) := by decide +kernel
theorem pd18 : parseMethodDescriptor "(II)I" = some ⟨[.int, .int], some .int⟩ := by decide +kernel
theorem d26_27 : decode jdk_65_method_133_code 27 = .ok (.invokestatic 150, 3) := by decide +kernel
theorem d26_30 : decode jdk_65_method_133_code 30 = .ok (.aload 4, 2) := by decide +kernel
theorem d26_32 : decode jdk_65_method_133_code 32 = .ok (.areturn, 1) := by decide +kernel
set_option maxRecDepth 65536 in
set_option maxHeartbeats 40000000 in
theorem rm26 (l : Launch) (Z : State) (a0 : Array Value) (hw : ∀ d ∈ tables_1, d.before a0 Z = true) (ws : List Jvm.Cond) (v1 : Addr) (kv : ClassId) (bs : List Int32) (nc : Nat) (ms : List Addr) (h0 : Heap) (n0 : Nat) (O0 : Old Z n0 h0) (nb : Nat) (hb0 : n0 ≤ nb) (hnb : nb ≤ h0.size) (W1 : Arv Z h0 v1 kv .byte (Int32.ofNat nc) (bs.map Value.int) (.int 0)) (hc : nc ≤ 5) (hj : bs.length < nc) :
    Con l Z ms (⟨"java/util/Arrays", "copyOfRangeByte", "([BII)[B"⟩ : MethodName) jdk_65_method_133_code 5 (some (.array .byte)) ws ({ frames := 1, cells := 1, slots := 5, locals := 40 } : Room) #[(.ref v1), (.int (0 : Int32)), (.int (Int32.ofNat bs.length))] h0 (fun v vm h L => ∃ r k, v = some (.ref r) ∧ Fr nb L ∧ Ext h0 h ∧ h0.size ≤ r ∧ Arv Z h r k .byte (Int32.ofNat bs.length) (bs.map Value.int) (.int 0)) := by
  refine Con.mk (plainFor_of_name pn6) ?_
  intro p e s m below meth c s₁ Cc X0 e0 eb J0 B0 M0
  obtain ⟨hx, hZ, hown, hby, hml, hnm, hret, hlk⟩ := id Cc
  have N0 := Fr.nil h0.size
  have K0 := Keep.refl h0 []
  show Go p e s below _ _ _ _ s₁ (mkF m 0 #[.val (.ref v1), .val (.int (0 : Int32)), .val (.int (Int32.ofNat bs.length)), .unset, .unset] [])
  refine Go.of (fun _ hr => XS.iloadN X0.here hx rfl (hb hby d26_0) rfl  hr) ?_
  show Go p e s below _ _ _ _ s₁ (mkF m 1 #[.val (.ref v1), .val (.int (0 : Int32)), .val (.int (Int32.ofNat bs.length)), .unset, .unset] [(.int (0 : Int32))])
  refine Go.of (fun _ hr => XS.iloadN X0.here hx rfl (hb hby d26_1) rfl  hr) ?_
  show Go p e s below _ _ _ _ s₁ (mkF m 2 #[.val (.ref v1), .val (.int (0 : Int32)), .val (.int (Int32.ofNat bs.length)), .unset, .unset] [(.int (Int32.ofNat bs.length)), (.int (0 : Int32))])
  obtain ⟨_, b101, T101, h101, L101, e101, Cc101, X101, B101, J101, g101, hQ101, st101⟩ := own_callS Cc B0 J0 X0 (hw _ (List.mem_of_getElem? (i := 129) rfl)) (hw _ (List.mem_of_getElem? (i := 130) rfl)) (hw _ (List.mem_of_getElem? (i := 124) rfl)) (hw _ (List.mem_of_getElem? (i := 131) rfl)) (by decide) (rm27 l Z a0 hw [] bs.length _ h0 n0 O0 h0.size (own_ole O0) K0.1 (by omega)) e0 (g := (mkF m 2 #[.val (.ref v1), .val (.int (0 : Int32)), .val (.int (Int32.ofNat bs.length)), .unset, .unset] [(.int (Int32.ofNat bs.length)), (.int (0 : Int32))])) rfl (by rw [hml]; rfl) (argsL := [(.int (0 : Int32)), (.int (Int32.ofNat bs.length))]) (rest := []) (lenOf pd10 rfl) rfl (W := 0) (by show 2 * 0 + _ ≤ _; exact Nat.le_of_eq rfl) (hb hby d26_2) (by decide) (by decide) (by decide) (by decide)
  obtain ⟨rfl, Nq101, hh101⟩ := hQ101
  have N101 := Fr.app N0 Nq101
  obtain ⟨hx, hZ, hown, hby, hml, hnm, hret, hlk⟩ := id Cc101
  rw [hh101] at e101 B101 J101
  refine Go.of st101 ?_
  show Go p e s below _ _ _ _ T101 (mkF m 5 #[.val (.ref v1), .val (.int (0 : Int32)), .val (.int (Int32.ofNat bs.length)), .unset, .unset] [])
  refine Go.of (fun _ hr => XS.iloadN X101.here hx rfl (hb hby d26_5) rfl  hr) ?_
  show Go p e s below _ _ _ _ T101 (mkF m 6 #[.val (.ref v1), .val (.int (0 : Int32)), .val (.int (Int32.ofNat bs.length)), .unset, .unset] [(.int (Int32.ofNat bs.length))])
  refine Go.of (fun _ hr => XS.iloadN X101.here hx rfl (hb hby d26_6) rfl  hr) ?_
  show Go p e s below _ _ _ _ T101 (mkF m 7 #[.val (.ref v1), .val (.int (0 : Int32)), .val (.int (Int32.ofNat bs.length)), .unset, .unset] [(.int (0 : Int32)), (.int (Int32.ofNat bs.length))])
  refine Go.of (fun _ hr => XS.isub X101.here hx rfl (hb hby d26_7) rfl hr) ?_
  show Go p e s below _ _ _ _ T101 (mkF m 8 #[.val (.ref v1), .val (.int (0 : Int32)), .val (.int (Int32.ofNat bs.length)), .unset, .unset] [(.int ((Int32.ofNat bs.length) - (0 : Int32)))])
  rw [Int32.sub_zero]
  show Go p e s below _ _ _ _ T101 (mkF m 8 #[.val (.ref v1), .val (.int (0 : Int32)), .val (.int (Int32.ofNat bs.length)), .unset, .unset] [(.int (Int32.ofNat bs.length))])
  refine Go.of (fun _ hr => XS.istoreN X101.here hx rfl (hb hby d26_8) rfl (l' := #[.val (.ref v1), .val (.int (0 : Int32)), .val (.int (Int32.ofNat bs.length)), .val (.int (Int32.ofNat bs.length)), .unset]) rfl hr) ?_
  show Go p e s below _ _ _ _ T101 (mkF m 9 #[.val (.ref v1), .val (.int (0 : Int32)), .val (.int (Int32.ofNat bs.length)), .val (.int (Int32.ofNat bs.length)), .unset] [])
  refine Go.of (fun _ hr => XS.iloadN X101.here hx rfl (hb hby d26_9) rfl  hr) ?_
  show Go p e s below _ _ _ _ T101 (mkF m 10 #[.val (.ref v1), .val (.int (0 : Int32)), .val (.int (Int32.ofNat bs.length)), .val (.int (Int32.ofNat bs.length)), .unset] [(.int (Int32.ofNat bs.length))])
  obtain ⟨T102, h102, k102, X102, e102, E102, A102, st102⟩ := newP X101 hx hZ (hw _ (List.mem_of_getElem? (i := 24) rfl)) e101 (g := (mkF m 10 #[.val (.ref v1), .val (.int (0 : Int32)), .val (.int (Int32.ofNat bs.length)), .val (.int (Int32.ofNat bs.length)), .unset] [(.int (Int32.ofNat bs.length))])) rfl (hb hby d26_10) rfl (oi_nn (by omega)) (cap := 5) (by rw [oi_nat (by omega)]; omega) (by decide) (by decide) (by decide)
  obtain ⟨o102, g102⟩ : ∃ z, z = h0.size := ⟨_, rfl⟩
  rw [← g102] at A102 st102
  have ne_v1_o102 : v1 ≠ o102 := Nat.ne_of_lt (Nat.lt_of_lt_of_le W1.lt (Nat.le_of_eq g102.symm))
  have V102 := Arv.new A102 (oi_nn (by omega))
  have lt102 : o102 < h102.size := A102.lt
  have J102 := J101.add E102 g102 lt102
  have B102 := B101.mono E102.1
  have O102 := O0.ext E102
  have sz102 : h0.size ≤ o102 := Nat.le_trans K0.1 (Nat.le_of_eq g102.symm)
  have fr102 : h0.size ≤ o102 := sz102
  have K102 := K0.ext E102
  refine Go.of (fun _ hr => st102 _ hr) ?_
  show Go p e s below _ _ _ _ T102 (mkF m 12 #[.val (.ref v1), .val (.int (0 : Int32)), .val (.int (Int32.ofNat bs.length)), .val (.int (Int32.ofNat bs.length)), .unset] [(.ref o102)])
  refine Go.of (fun _ hr => XS.astore X102.here hx rfl (hb hby d26_12) rfl rfl (l' := #[.val (.ref v1), .val (.int (0 : Int32)), .val (.int (Int32.ofNat bs.length)), .val (.int (Int32.ofNat bs.length)), .val (.ref o102)]) rfl hr) ?_
  show Go p e s below _ _ _ _ T102 (mkF m 14 #[.val (.ref v1), .val (.int (0 : Int32)), .val (.int (Int32.ofNat bs.length)), .val (.int (Int32.ofNat bs.length)), .val (.ref o102)] [])
  refine Go.of (fun _ hr => XS.aloadN X102.here hx rfl (hb hby d26_14) rfl rfl hr) ?_
  show Go p e s below _ _ _ _ T102 (mkF m 15 #[.val (.ref v1), .val (.int (0 : Int32)), .val (.int (Int32.ofNat bs.length)), .val (.int (Int32.ofNat bs.length)), .val (.ref o102)] [(.ref v1)])
  refine Go.of (fun _ hr => XS.iloadN X102.here hx rfl (hb hby d26_15) rfl  hr) ?_
  show Go p e s below _ _ _ _ T102 (mkF m 16 #[.val (.ref v1), .val (.int (0 : Int32)), .val (.int (Int32.ofNat bs.length)), .val (.int (Int32.ofNat bs.length)), .val (.ref o102)] [(.int (0 : Int32)), (.ref v1)])
  refine Go.of (fun _ hr => XS.aload X102.here hx rfl (hb hby d26_16) rfl rfl hr) ?_
  show Go p e s below _ _ _ _ T102 (mkF m 18 #[.val (.ref v1), .val (.int (0 : Int32)), .val (.int (Int32.ofNat bs.length)), .val (.int (Int32.ofNat bs.length)), .val (.ref o102)] [(.ref o102), (.int (0 : Int32)), (.ref v1)])
  refine Go.of (fun _ hr => XS.iconst X102.here hx rfl (hb hby d26_18) hr) ?_
  show Go p e s below _ _ _ _ T102 (mkF m 19 #[.val (.ref v1), .val (.int (0 : Int32)), .val (.int (Int32.ofNat bs.length)), .val (.int (Int32.ofNat bs.length)), .val (.ref o102)] [(.int (0 : Int32)), (.ref o102), (.int (0 : Int32)), (.ref v1)])
  refine Go.of (fun _ hr => XS.aloadN X102.here hx rfl (hb hby d26_19) rfl rfl hr) ?_
  show Go p e s below _ _ _ _ T102 (mkF m 20 #[.val (.ref v1), .val (.int (0 : Int32)), .val (.int (Int32.ofNat bs.length)), .val (.int (Int32.ofNat bs.length)), .val (.ref o102)] [(.ref v1), (.int (0 : Int32)), (.ref o102), (.int (0 : Int32)), (.ref v1)])
  have f104 := (W1.ext E102)
  obtain ⟨cl103, Ar103, q103, S103, N103_, H103, G103⟩ := id f104
  refine Go.of (fun _ hr => X102.arraylength hx (by rw [e102]; exact Ar103.1) (State.isArrayOf_alike hZ.alike Ar103.2.1) (g := (mkF m 20 #[.val (.ref v1), .val (.int (0 : Int32)), .val (.int (Int32.ofNat bs.length)), .val (.int (Int32.ofNat bs.length)), .val (.ref o102)] [(.ref v1), (.int (0 : Int32)), (.ref o102), (.int (0 : Int32)), (.ref v1)])) rfl rfl (hb hby d26_20) _ hr) ?_
  rw [len_of S103 N103_]
  show Go p e s below _ _ _ _ T102 (mkF m 21 #[.val (.ref v1), .val (.int (0 : Int32)), .val (.int (Int32.ofNat bs.length)), .val (.int (Int32.ofNat bs.length)), .val (.ref o102)] [(.int (Int32.ofNat nc)), (.int (0 : Int32)), (.ref o102), (.int (0 : Int32)), (.ref v1)])
  refine Go.of (fun _ hr => XS.iloadN X102.here hx rfl (hb hby d26_21) rfl  hr) ?_
  show Go p e s below _ _ _ _ T102 (mkF m 22 #[.val (.ref v1), .val (.int (0 : Int32)), .val (.int (Int32.ofNat bs.length)), .val (.int (Int32.ofNat bs.length)), .val (.ref o102)] [(.int (0 : Int32)), (.int (Int32.ofNat nc)), (.int (0 : Int32)), (.ref o102), (.int (0 : Int32)), (.ref v1)])
  refine Go.of (fun _ hr => XS.isub X102.here hx rfl (hb hby d26_22) rfl hr) ?_
  show Go p e s below _ _ _ _ T102 (mkF m 23 #[.val (.ref v1), .val (.int (0 : Int32)), .val (.int (Int32.ofNat bs.length)), .val (.int (Int32.ofNat bs.length)), .val (.ref o102)] [(.int ((Int32.ofNat nc) - (0 : Int32))), (.int (0 : Int32)), (.ref o102), (.int (0 : Int32)), (.ref v1)])
  rw [Int32.sub_zero]
  show Go p e s below _ _ _ _ T102 (mkF m 23 #[.val (.ref v1), .val (.int (0 : Int32)), .val (.int (Int32.ofNat bs.length)), .val (.int (Int32.ofNat bs.length)), .val (.ref o102)] [(.int (Int32.ofNat nc)), (.int (0 : Int32)), (.ref o102), (.int (0 : Int32)), (.ref v1)])
  refine Go.of (fun _ hr => XS.iloadN X102.here hx rfl (hb hby d26_23) rfl  hr) ?_
  show Go p e s below _ _ _ _ T102 (mkF m 24 #[.val (.ref v1), .val (.int (0 : Int32)), .val (.int (Int32.ofNat bs.length)), .val (.int (Int32.ofNat bs.length)), .val (.ref o102)] [(.int (Int32.ofNat bs.length)), (.int (Int32.ofNat nc)), (.int (0 : Int32)), (.ref o102), (.int (0 : Int32)), (.ref v1)])
  obtain ⟨_, b105, T105, h105, L105, e105, Cc105, X105, B105, J105, g105, hQ105, st105⟩ := own_callS Cc101 B102 J102 X102 (hw _ (List.mem_of_getElem? (i := 132) rfl)) (hw _ (List.mem_of_getElem? (i := 133) rfl)) (hw _ (List.mem_of_getElem? (i := 134) rfl)) (hw _ (List.mem_of_getElem? (i := 135) rfl)) (by decide) (rm28 l Z a0 hw [] nc bs.length _ h102 n0 O102 h0.size (own_ole O0) K102.1 (by omega) hj) e102 (g := (mkF m 24 #[.val (.ref v1), .val (.int (0 : Int32)), .val (.int (Int32.ofNat bs.length)), .val (.int (Int32.ofNat bs.length)), .val (.ref o102)] [(.int (Int32.ofNat bs.length)), (.int (Int32.ofNat nc)), (.int (0 : Int32)), (.ref o102), (.int (0 : Int32)), (.ref v1)])) rfl (by rw [hml]; rfl) (argsL := [(.int (Int32.ofNat nc)), (.int (Int32.ofNat bs.length))]) (rest := [(.int (0 : Int32)), (.ref o102), (.int (0 : Int32)), (.ref v1)]) (lenOf pd18 rfl) rfl (W := 4) (by show 2 * 0 + _ ≤ _; exact Nat.le_of_eq rfl) (hb hby d26_24) (by decide) (by decide) (by decide) (by decide)
  obtain ⟨rfl, Nq105, hh105⟩ := hQ105
  have N105 := Fr.app N101 Nq105
  obtain ⟨hx, hZ, hown, hby, hml, hnm, hret, hlk⟩ := id Cc105
  rw [hh105] at e105 B105 J105
  refine Go.of st105 ?_
  show Go p e s below _ _ _ _ T105 (mkF m 27 #[.val (.ref v1), .val (.int (0 : Int32)), .val (.int (Int32.ofNat bs.length)), .val (.int (Int32.ofNat bs.length)), .val (.ref o102)] [(.int (Int32.ofNat bs.length)), (.int (0 : Int32)), (.ref o102), (.int (0 : Int32)), (.ref v1)])
  obtain ⟨T106, h106, L106, X106, e106, N106, Kq106, V106, st106⟩ := cpA X105 hx hZ hown (hw _ (List.mem_of_getElem? (i := 136) rfl)) (hw _ (List.mem_of_getElem? (i := 139) rfl)) (hw _ (List.mem_of_getElem? (i := 137) rfl)) (hw _ (List.mem_of_getElem? (i := 138) rfl)) e105 f104 (V102.pad (pad_rep _ _ bs.length)) (us := bs.map Value.int) (Or.inl ⟨rfl, rfl⟩) (by decide) (by decide) (oi_nn (by omega)) (cp4 (by omega) (by rw [oi_nat (by omega)]; omega)) (cp4 (by omega) (by rw [oi_nat (by omega)]; exact Nat.le_refl _)) (cpu bs (by omega)) (cpl [] bs (by decide) (by omega)) N105 fr102 (g := (mkF m 27 #[.val (.ref v1), .val (.int (0 : Int32)), .val (.int (Int32.ofNat bs.length)), .val (.int (Int32.ofNat bs.length)), .val (.ref o102)] [(.int (Int32.ofNat bs.length)), (.int (0 : Int32)), (.ref o102), (.int (0 : Int32)), (.ref v1)])) rfl (by rw [hml]; rfl) rfl (hb hby d26_27) (by decide) (W := 0) (by show 2 * 0 + _ ≤ _; exact Nat.le_of_eq rfl) (by decide)
  have K106 := K102.trans Kq106 (allS (Or.inr sz102) all0)
  have O106 := O102.keep Kq106 (allS (Nat.le_trans (own_ole O0) fr102) all0)
  have B106 := B105.mono Kq106.1
  have J106 := Hd.keep J105 Kq106 (allS (List.mem_cons_self ..) all0)
  have Vc106 : Arv Z h106 o102 k102 .byte (Int32.ofNat bs.length) (bs.map Value.int) (.int (0 : Int32)) := by have q := V106; exact cp_res [] bs (by decide) (by omega) ▸ q
  refine Go.of (fun _ hr => st106 _ hr) ?_
  show Go p e s below _ _ _ _ T106 (mkF m 30 #[.val (.ref v1), .val (.int (0 : Int32)), .val (.int (Int32.ofNat bs.length)), .val (.int (Int32.ofNat bs.length)), .val (.ref o102)] [])
  refine Go.of (fun _ hr => XS.aload X106.here hx rfl (hb hby d26_30) rfl rfl hr) ?_
  show Go p e s below _ _ _ _ T106 (mkF m 32 #[.val (.ref v1), .val (.int (0 : Int32)), .val (.int (Int32.ofNat bs.length)), .val (.int (Int32.ofNat bs.length)), .val (.ref o102)] [(.ref o102)])
  exact Go.retA X106 hx hlk B106 (J106.sub fun x hx => (List.mem_cons_of_mem _ hx)) e106 hret rfl rfl (hb hby d26_32) (by decide) (by decide) (fun vm_ hw_ => ⟨_, _, rfl, (fun y hy => Nat.le_trans hnb (N106 y hy)), keep_ext K106, sz102, Vc106⟩)

theorem d25_0 : decode jdk_65_method_132_code 0 = .ok (.iload_n 1, 1) := by decide +kernel
theorem d25_1 : decode jdk_65_method_132_code 1 = .ok (.ifCond .ne 9, 3) := by decide +kernel
theorem d25_4 : decode jdk_65_method_132_code 4 = .ok (.iload_n 2, 1) := by decide +kernel
theorem d25_5 : decode jdk_65_method_132_code 5 = .ok (.aload_n 0, 1) := by decide +kernel
theorem d25_6 : decode jdk_65_method_132_code 6 = .ok (.arraylength, 1) := by decide +kernel
theorem d25_7 : decode jdk_65_method_132_code 7 = .ok (.if_icmp .eq 10, 3) := by decide +kernel
theorem d25_10 : decode jdk_65_method_132_code 10 = .ok (.aload_n 0, 1) := by decide +kernel
theorem d25_11 : decode jdk_65_method_132_code 11 = .ok (.iload_n 1, 1) := by decide +kernel
theorem d25_12 : decode jdk_65_method_132_code 12 = .ok (.iload_n 2, 1) := by decide +kernel
theorem d25_13 : decode jdk_65_method_132_code 13 = .ok (.invokestatic 339, 3) := by decide +kernel
theorem pd19 : parseMethodDescriptor "([BII)[B" = some ⟨[(.array .byte), .int, .int], some (.array .byte)⟩ := by decide +kernel
theorem d25_16 : decode jdk_65_method_132_code 16 = .ok (.areturn, 1) := by decide +kernel
theorem d25_17 : decode jdk_65_method_132_code 17 = .ok (.aload_n 0, 1) := by decide +kernel
theorem d25_18 : decode jdk_65_method_132_code 18 = .ok (.invokevirtual 310, 3) := by decide +kernel
theorem d25_21 : decode jdk_65_method_132_code 21 = .ok (.checkcast 311, 3) := by decide +kernel
theorem d25_24 : decode jdk_65_method_132_code 24 = .ok (.areturn, 1) := by decide +kernel
set_option maxRecDepth 65536 in
set_option maxHeartbeats 40000000 in
theorem rm25 (l : Launch) (Z : State) (a0 : Array Value) (hw : ∀ d ∈ tables_1, d.before a0 Z = true) (ws : List Jvm.Cond) (v1 : Addr) (kv : ClassId) (bs : List Int32) (nc : Nat) (ms : List Addr) (h0 : Heap) (n0 : Nat) (O0 : Old Z n0 h0) (nb : Nat) (hb0 : n0 ≤ nb) (hnb : nb ≤ h0.size) (W1 : Arv Z h0 v1 kv .byte (Int32.ofNat nc) (bs.map Value.int) (.int 0)) (hc : nc ≤ 5) (Ev : Exa Z h0 v1 "[B") (hbl : bs.length ≤ nc) :
    Con l Z ms (⟨"java/util/Arrays", "copyOfRange", "([BII)[B"⟩ : MethodName) jdk_65_method_132_code 3 (some (.array .byte)) ws ({ frames := 2, cells := 1, slots := 5, locals := 56 } : Room) #[(.ref v1), (.int (0 : Int32)), (.int (Int32.ofNat bs.length))] h0 (fun v vm h L => ∃ r k, v = some (.ref r) ∧ Fr nb L ∧ Ext h0 h ∧ h0.size ≤ r ∧ Arv Z h r k .byte (Int32.ofNat bs.length) (bs.map Value.int) (.int 0)) := by
  rcases Nat.lt_or_eq_of_le hbl with hj | hj
  · refine Con.mk (plainFor_of_name pn6) ?_
    intro p e s m below meth c s₁ Cc X0 e0 eb J0 B0 M0
    obtain ⟨hx, hZ, hown, hby, hml, hnm, hret, hlk⟩ := id Cc
    have N0 := Fr.nil h0.size
    have K0 := Keep.refl h0 []
    show Go p e s below _ _ _ _ s₁ (mkF m 0 #[.val (.ref v1), .val (.int (0 : Int32)), .val (.int (Int32.ofNat bs.length))] [])
    refine Go.of (fun _ hr => XS.iloadN X0.here hx rfl (hb hby d25_0) rfl  hr) ?_
    show Go p e s below _ _ _ _ s₁ (mkF m 1 #[.val (.ref v1), .val (.int (0 : Int32)), .val (.int (Int32.ofNat bs.length))] [(.int (0 : Int32))])
    refine Go.of (fun _ hr => XS.ifNo X0.here hx rfl (hb hby d25_1) rfl ((if0 _ _).trans (teq (by decide : ((0 : Int32) = (0 : Int32)))).2) hr) ?_
    show Go p e s below _ _ _ _ s₁ (mkF m 4 #[.val (.ref v1), .val (.int (0 : Int32)), .val (.int (Int32.ofNat bs.length))] [])
    refine Go.of (fun _ hr => XS.iloadN X0.here hx rfl (hb hby d25_4) rfl  hr) ?_
    show Go p e s below _ _ _ _ s₁ (mkF m 5 #[.val (.ref v1), .val (.int (0 : Int32)), .val (.int (Int32.ofNat bs.length))] [(.int (Int32.ofNat bs.length))])
    refine Go.of (fun _ hr => XS.aloadN X0.here hx rfl (hb hby d25_5) rfl rfl hr) ?_
    show Go p e s below _ _ _ _ s₁ (mkF m 6 #[.val (.ref v1), .val (.int (0 : Int32)), .val (.int (Int32.ofNat bs.length))] [(.ref v1), (.int (Int32.ofNat bs.length))])
    obtain ⟨cl101, Ar101, q101, S101, N101_, H101, G101⟩ := id W1
    refine Go.of (fun _ hr => X0.arraylength hx (by rw [e0]; exact Ar101.1) (State.isArrayOf_alike hZ.alike Ar101.2.1) (g := (mkF m 6 #[.val (.ref v1), .val (.int (0 : Int32)), .val (.int (Int32.ofNat bs.length))] [(.ref v1), (.int (Int32.ofNat bs.length))])) rfl rfl (hb hby d25_6) _ hr) ?_
    rw [len_of S101 N101_]
    show Go p e s below _ _ _ _ s₁ (mkF m 7 #[.val (.ref v1), .val (.int (0 : Int32)), .val (.int (Int32.ofNat bs.length))] [(.int (Int32.ofNat nc)), (.int (Int32.ofNat bs.length))])
    refine Go.of (fun _ hr => XS.icmpNo X0.here hx rfl (hb hby d25_7) rfl (feq (fun q => absurd (oi_inj (by omega) (by omega) q) (by omega))).1 hr) ?_
    show Go p e s below _ _ _ _ s₁ (mkF m 10 #[.val (.ref v1), .val (.int (0 : Int32)), .val (.int (Int32.ofNat bs.length))] [])
    refine Go.of (fun _ hr => XS.aloadN X0.here hx rfl (hb hby d25_10) rfl rfl hr) ?_
    show Go p e s below _ _ _ _ s₁ (mkF m 11 #[.val (.ref v1), .val (.int (0 : Int32)), .val (.int (Int32.ofNat bs.length))] [(.ref v1)])
    refine Go.of (fun _ hr => XS.iloadN X0.here hx rfl (hb hby d25_11) rfl  hr) ?_
    show Go p e s below _ _ _ _ s₁ (mkF m 12 #[.val (.ref v1), .val (.int (0 : Int32)), .val (.int (Int32.ofNat bs.length))] [(.int (0 : Int32)), (.ref v1)])
    refine Go.of (fun _ hr => XS.iloadN X0.here hx rfl (hb hby d25_12) rfl  hr) ?_
    show Go p e s below _ _ _ _ s₁ (mkF m 13 #[.val (.ref v1), .val (.int (0 : Int32)), .val (.int (Int32.ofNat bs.length))] [(.int (Int32.ofNat bs.length)), (.int (0 : Int32)), (.ref v1)])
    obtain ⟨_, b102, T102, h102, L102, e102, Cc102, X102, B102, J102, g102, hQ102, st102⟩ := own_callS Cc B0 J0 X0 (hw _ (List.mem_of_getElem? (i := 126) rfl)) (hw _ (List.mem_of_getElem? (i := 127) rfl)) (hw _ (List.mem_of_getElem? (i := 124) rfl)) (hw _ (List.mem_of_getElem? (i := 128) rfl)) (by decide) (rm26 l Z a0 hw [] v1 _ bs nc _ h0 n0 O0 h0.size (own_ole O0) K0.1 W1 hc hj) e0 (g := (mkF m 13 #[.val (.ref v1), .val (.int (0 : Int32)), .val (.int (Int32.ofNat bs.length))] [(.int (Int32.ofNat bs.length)), (.int (0 : Int32)), (.ref v1)])) rfl (by rw [hml]; rfl) (argsL := [(.ref v1), (.int (0 : Int32)), (.int (Int32.ofNat bs.length))]) (rest := []) (lenOf pd19 rfl) rfl (W := 0) (by show 2 * 0 + _ ≤ _; exact Nat.le_of_eq rfl) (hb hby d25_13) (by decide) (by decide) (by decide) (by decide)
    obtain ⟨r102, kr102, rfl, Nq102, Eq102, R_r102, Vr102⟩ := hQ102
    have N102 := Fr.app N0 Nq102
    obtain ⟨hx, hZ, hown, hby, hml, hnm, hret, hlk⟩ := id Cc102
    have sz_r102 : h0.size ≤ r102 := Nat.le_trans K0.1 R_r102
    have fr_r102 : h0.size ≤ r102 := sz_r102
    have ne_v1_r102 : v1 ≠ r102 := Nat.ne_of_lt (Nat.lt_of_lt_of_le Ev.lt R_r102)
    have K102 := K0.ext Eq102
    have O102 := O0.ext Eq102
    refine Go.of st102 ?_
    show Go p e s below _ _ _ _ T102 (mkF m 16 #[.val (.ref v1), .val (.int (0 : Int32)), .val (.int (Int32.ofNat bs.length))] [(.ref r102)])
    exact Go.retA X102 hx hlk B102 J102 e102 hret rfl rfl (hb hby d25_16) (by decide) (by decide) (fun vm_ hw_ => ⟨_, _, rfl, (fun y hy => Nat.le_trans hnb (N102 y hy)), keep_ext K102, sz_r102, Vr102⟩)
  · refine Con.mk (plainFor_of_name pn6) ?_
    intro p e s m below meth c s₁ Cc X0 e0 eb J0 B0 M0
    obtain ⟨hx, hZ, hown, hby, hml, hnm, hret, hlk⟩ := id Cc
    have N0 := Fr.nil h0.size
    have K0 := Keep.refl h0 []
    show Go p e s below _ _ _ _ s₁ (mkF m 0 #[.val (.ref v1), .val (.int (0 : Int32)), .val (.int (Int32.ofNat bs.length))] [])
    refine Go.of (fun _ hr => XS.iloadN X0.here hx rfl (hb hby d25_0) rfl  hr) ?_
    show Go p e s below _ _ _ _ s₁ (mkF m 1 #[.val (.ref v1), .val (.int (0 : Int32)), .val (.int (Int32.ofNat bs.length))] [(.int (0 : Int32))])
    refine Go.of (fun _ hr => XS.ifNo X0.here hx rfl (hb hby d25_1) rfl ((if0 _ _).trans (teq (by decide : ((0 : Int32) = (0 : Int32)))).2) hr) ?_
    show Go p e s below _ _ _ _ s₁ (mkF m 4 #[.val (.ref v1), .val (.int (0 : Int32)), .val (.int (Int32.ofNat bs.length))] [])
    refine Go.of (fun _ hr => XS.iloadN X0.here hx rfl (hb hby d25_4) rfl  hr) ?_
    show Go p e s below _ _ _ _ s₁ (mkF m 5 #[.val (.ref v1), .val (.int (0 : Int32)), .val (.int (Int32.ofNat bs.length))] [(.int (Int32.ofNat bs.length))])
    refine Go.of (fun _ hr => XS.aloadN X0.here hx rfl (hb hby d25_5) rfl rfl hr) ?_
    show Go p e s below _ _ _ _ s₁ (mkF m 6 #[.val (.ref v1), .val (.int (0 : Int32)), .val (.int (Int32.ofNat bs.length))] [(.ref v1), (.int (Int32.ofNat bs.length))])
    obtain ⟨cl101, Ar101, q101, S101, N101_, H101, G101⟩ := id W1
    refine Go.of (fun _ hr => X0.arraylength hx (by rw [e0]; exact Ar101.1) (State.isArrayOf_alike hZ.alike Ar101.2.1) (g := (mkF m 6 #[.val (.ref v1), .val (.int (0 : Int32)), .val (.int (Int32.ofNat bs.length))] [(.ref v1), (.int (Int32.ofNat bs.length))])) rfl rfl (hb hby d25_6) _ hr) ?_
    rw [len_of S101 N101_]
    show Go p e s below _ _ _ _ s₁ (mkF m 7 #[.val (.ref v1), .val (.int (0 : Int32)), .val (.int (Int32.ofNat bs.length))] [(.int (Int32.ofNat nc)), (.int (Int32.ofNat bs.length))])
    refine Go.of (fun _ hr => XS.icmpYes X0.here hx rfl (pc0 := 7) (pc' := 17) rfl (hb hby d25_7) rfl (teq (by rw [hj])).1 (by decide) (by decide) hr) ?_
    show Go p e s below _ _ _ _ s₁ (mkF m 17 #[.val (.ref v1), .val (.int (0 : Int32)), .val (.int (Int32.ofNat bs.length))] [])
    refine Go.of (fun _ hr => XS.aloadN X0.here hx rfl (hb hby d25_17) rfl rfl hr) ?_
    show Go p e s below _ _ _ _ s₁ (mkF m 18 #[.val (.ref v1), .val (.int (0 : Int32)), .val (.int (Int32.ofNat bs.length))] [(.ref v1)])
    obtain ⟨T102, h102, X102, e102, E102, V102, A102, st102⟩ := cloneH X0 hx hZ hown (hw _ (List.mem_of_getElem? (i := 173) rfl)) (hw _ (List.mem_of_getElem? (i := 174) rfl)) (hw _ (List.mem_of_getElem? (i := 178) rfl)) (hw _ (List.mem_of_getElem? (i := 176) rfl)) (hw _ (List.mem_of_getElem? (i := 177) rfl)) (hw _ (List.mem_of_getElem? (i := 179) rfl)) e0 W1.arh Ev (g := (mkF m 18 #[.val (.ref v1), .val (.int (0 : Int32)), .val (.int (Int32.ofNat bs.length))] [(.ref v1)])) rfl (by rw [hml]; rfl) rfl (hb hby d25_18) (by decide) (W := 0) (cap := 5) (by show 2 * 0 + _ ≤ _; exact Nat.le_of_eq rfl) (by decide) (by rw [oi_nat (by omega)]; exact hc) (by decide) (by decide)
    obtain ⟨o102, g102⟩ : ∃ z, z = h0.size := ⟨_, rfl⟩
    rw [← g102] at A102 V102 st102
    have ne_v1_o102 : v1 ≠ o102 := Nat.ne_of_lt (Nat.lt_of_lt_of_le Ev.lt (Nat.le_of_eq g102.symm))
    have Vc102 : Arv Z h102 o102 kv .byte (Int32.ofNat nc) (bs.map Value.int) (.int 0) := V102
    have lt102 : o102 < h102.size := A102.lt
    have J102 := J0.add E102 g102 lt102
    have B102 := B0.mono E102.1
    have O102 := O0.ext E102
    have sz102 : h0.size ≤ o102 := Nat.le_trans K0.1 (Nat.le_of_eq g102.symm)
    have fr102 : h0.size ≤ o102 := sz102
    have K102 := K0.ext E102
    refine Go.of (fun _ hr => st102 _ hr) ?_
    show Go p e s below _ _ _ _ T102 (mkF m 21 #[.val (.ref v1), .val (.int (0 : Int32)), .val (.int (Int32.ofNat bs.length))] [(.ref o102)])
    obtain ⟨T103, X103, e103, st103⟩ := castY X102 hx hZ hown (hw _ (List.mem_of_getElem? (i := 180) rfl)) e102 (Ins.self A102) (g := (mkF m 21 #[.val (.ref v1), .val (.int (0 : Int32)), .val (.int (Int32.ofNat bs.length))] [(.ref o102)])) rfl rfl (hb hby d25_21)
    refine Go.of (fun _ hr => st103 _ hr) ?_
    show Go p e s below _ _ _ _ T103 (mkF m 24 #[.val (.ref v1), .val (.int (0 : Int32)), .val (.int (Int32.ofNat bs.length))] [(.ref o102)])
    exact Go.retA X103 hx hlk B102 (J102.sub fun x hx => (List.mem_cons_of_mem _ hx)) e103 hret rfl rfl (hb hby d25_24) (by decide) (by decide) (fun vm_ hw_ => ⟨_, _, rfl, (fun y hy => Nat.le_trans hnb (N0 y hy)), keep_ext K102, sz102, (by rw [hj]; exact Vc102)⟩)

theorem d20_0 : decode jdk_42_method_150_code 0 = .ok (.aload_n 0, 1) := by decide +kernel
theorem d20_1 : decode jdk_42_method_150_code 1 = .ok (.invokespecial 1, 3) := by decide +kernel
theorem d20_4 : decode jdk_42_method_150_code 4 = .ok (.aload_n 1, 1) := by decide +kernel
theorem d20_5 : decode jdk_42_method_150_code 5 = .ok (.invokevirtual 552, 3) := by decide +kernel
theorem pd20 : parseMethodDescriptor "()[B" = some ⟨[], some (.array .byte)⟩ := by decide +kernel
theorem d20_8 : decode jdk_42_method_150_code 8 = .ok (.astore_n 3, 1) := by decide +kernel
theorem d20_9 : decode jdk_42_method_150_code 9 = .ok (.aload_n 1, 1) := by decide +kernel
theorem d20_10 : decode jdk_42_method_150_code 10 = .ok (.invokevirtual 549, 3) := by decide +kernel
theorem d20_13 : decode jdk_42_method_150_code 13 = .ok (.istore 4, 2) := by decide +kernel
theorem d20_15 : decode jdk_42_method_150_code 15 = .ok (.aload_n 1, 1) := by decide +kernel
theorem d20_16 : decode jdk_42_method_150_code 16 = .ok (.invokevirtual 1047, 3) := by decide +kernel
theorem d20_19 : decode jdk_42_method_150_code 19 = .ok (.ifCond .eq 22, 3) := by decide +kernel
theorem d20_22 : decode jdk_42_method_150_code 22 = .ok (.aload_n 0, 1) := by decide +kernel
theorem d20_23 : decode jdk_42_method_150_code 23 = .ok (.iconst 0, 1) := by decide +kernel
theorem d20_24 : decode jdk_42_method_150_code 24 = .ok (.putfield 15, 3) := by decide +kernel
theorem d20_27 : decode jdk_42_method_150_code 27 = .ok (.aload_n 0, 1) := by decide +kernel
theorem d20_28 : decode jdk_42_method_150_code 28 = .ok (.aload_n 3, 1) := by decide +kernel
theorem d20_29 : decode jdk_42_method_150_code 29 = .ok (.iconst 0, 1) := by decide +kernel
theorem d20_30 : decode jdk_42_method_150_code 30 = .ok (.iload 4, 2) := by decide +kernel
theorem d20_32 : decode jdk_42_method_150_code 32 = .ok (.invokestatic 54, 3) := by decide +kernel
theorem d20_35 : decode jdk_42_method_150_code 35 = .ok (.putfield 9, 3) := by decide +kernel
theorem d20_38 : decode jdk_42_method_150_code 38 = .ok (.goto 59, 3) := by decide +kernel
theorem d20_97 : decode jdk_42_method_150_code 97 = .ok (.return_, 1) := by decide +kernel
set_option maxRecDepth 65536 in
set_option maxHeartbeats 40000000 in
theorem rm20 (l : Launch) (Z : State) (a0 : Array Value) (hw : ∀ d ∈ tables_1, d.before a0 Z = true) (ws : List Jvm.Cond) (x1 : Addr) (u1 u2 : Value) (a1 v1 : Addr) (kv : ClassId) (bs : List Int32) (nc : Nat) (zc : Int32) (ms : List Addr) (h0 : Heap) (n0 : Nat) (O0 : Old Z n0 h0) (nb : Nat) (hb0 : n0 ≤ nb) (hnb : nb ≤ h0.size) (fr_x1 : nb ≤ x1) (hm_x1 : x1 ∈ ms) (Ea1 : Exa Z h0 a1 "java/lang/StringBuilder") (Gv : Fld Z h0 a1 "java/lang/AbstractStringBuilder" "value" "[B" (.ref v1)) (Gc : Fld Z h0 a1 "java/lang/AbstractStringBuilder" "coder" "B" (.int 0)) (Gn : Fld Z h0 a1 "java/lang/AbstractStringBuilder" "count" "I" (.int (Int32.ofNat bs.length))) (W1 : Arv Z h0 v1 kv .byte (Int32.ofNat nc) (bs.map Value.int) (.int 0)) (Ev : Exa Z h0 v1 "[B") (hc : nc ≤ 5) (hbl : bs.length ≤ nc) (E1 : Exa Z h0 x1 "java/lang/String") (F1 : Fld Z h0 x1 "java/lang/String" "value" "[B" u1) (F2 : Fld Z h0 x1 "java/lang/String" "coder" "B" u2) (nex : a1 ≠ x1) (nev : v1 ≠ x1) (S_C : Sta Z Z.heap "java/lang/String" "COMPACT_STRINGS" "Z" (.int zc)) (hzc : ¬ zc = 0) :
    Con l Z ms (⟨"java/lang/String", "<init>", "(Ljava/lang/AbstractStringBuilder;Ljava/lang/Void;)V"⟩ : MethodName) jdk_42_method_150_code 5 none ws ({ frames := 3, cells := 1, slots := 5, locals := 71 } : Room) #[(.ref x1), (.ref a1), .null] h0 (fun v vm h L => v = none ∧ Fr nb L ∧ Keep h0 h [x1] ∧ ∃ t k, h0.size ≤ t ∧ Fld Z h x1 "java/lang/String" "value" "[B" (.ref t) ∧ Fld Z h x1 "java/lang/String" "coder" "B" (.int 0) ∧ Arv Z h t k .byte (Int32.ofNat bs.length) (bs.map Value.int) (.int 0)) := by
  refine Con.mk (plainFor_of_name pn1) ?_
  intro p e s m below meth c s₁ Cc X0 e0 eb J0 B0 M0
  obtain ⟨hx, hZ, hown, hby, hml, hnm, hret, hlk⟩ := id Cc
  have N0 := Fr.nil nb
  have K0 := Keep.refl h0 [x1]
  show Go p e s below _ _ _ _ s₁ (mkF m 0 #[.val (.ref x1), .val (.ref a1), .val .null, .unset, .unset] [])
  refine Go.of (fun _ hr => XS.aloadN X0.here hx rfl (hb hby d20_0) rfl rfl hr) ?_
  show Go p e s below _ _ _ _ s₁ (mkF m 1 #[.val (.ref x1), .val (.ref a1), .val .null, .unset, .unset] [(.ref x1)])
  obtain ⟨T101, X101, e101, st101⟩ := initO X0 hx hZ hown (hw _ (List.mem_of_getElem? (i := 16) rfl)) (hw _ (List.mem_of_getElem? (i := 17) rfl)) (hw _ (List.mem_of_getElem? (i := 18) rfl)) e0 (g := (mkF m 1 #[.val (.ref x1), .val (.ref a1), .val .null, .unset, .unset] [(.ref x1)])) rfl (by rw [hml]; rfl) rfl (hb hby d20_1) (by decide) (W := 0) (by show 2 * 0 + _ ≤ _; exact Nat.le_of_eq rfl) (by decide)
  refine Go.of (fun _ hr => st101 _ hr) ?_
  show Go p e s below _ _ _ _ T101 (mkF m 4 #[.val (.ref x1), .val (.ref a1), .val .null, .unset, .unset] [])
  refine Go.of (fun _ hr => XS.aloadN X101.here hx rfl (hb hby d20_4) rfl rfl hr) ?_
  show Go p e s below _ _ _ _ T101 (mkF m 5 #[.val (.ref x1), .val (.ref a1), .val .null, .unset, .unset] [(.ref a1)])
  obtain ⟨_, b102, T102, h102, L102, e102, Cc102, X102, B102, J102, g102, hQ102, st102⟩ := own_callV Cc B0 J0 X101 (hw _ (List.mem_of_getElem? (i := 101) rfl)) (hw _ (List.mem_of_getElem? (i := 102) rfl)) (notFace_of_selects (args := #[]) (mvT hZ (hw _ (List.mem_of_getElem? (i := 104) rfl)))) (hw _ (List.mem_of_getElem? (i := 104) rfl)) (hw _ (List.mem_of_getElem? (i := 103) rfl)) (hw _ (List.mem_of_getElem? (i := 59) rfl)) (hw _ (List.mem_of_getElem? (i := 105) rfl)) (by decide) Ea1 (rm21 l Z a0 hw [] a1 v1 _ bs nc _ h0 n0 O0 h0.size (own_ole O0) K0.1 Ea1 Gv Gc Gn W1 Ev hc hbl) e101 (g := (mkF m 5 #[.val (.ref x1), .val (.ref a1), .val .null, .unset, .unset] [(.ref a1)])) rfl (by rw [hml]; rfl) (argsL := []) (rest := []) (lenOf pd20 rfl) rfl (W := 0) (by show 2 * 0 + _ ≤ _; exact Nat.le_of_eq rfl) (hb hby d20_5) (by decide) (by decide) (by decide) (by decide)
  obtain ⟨rfl, Nq102, hh102⟩ := hQ102
  have N102 := Fr.app N0 (show Fr nb _ from fun y hy => Nat.le_trans hnb (Nq102 y hy))
  have NS102 := Fr.app (Fr.nil _) Nq102
  obtain ⟨hx, hZ, hown, hby, hml, hnm, hret, hlk⟩ := id Cc102
  rw [hh102] at e102 B102 J102
  refine Go.of st102 ?_
  show Go p e s below _ _ _ _ T102 (mkF m 8 #[.val (.ref x1), .val (.ref a1), .val .null, .unset, .unset] [(.ref v1)])
  refine Go.of (fun _ hr => XS.astoreN X102.here hx rfl (hb hby d20_8) rfl rfl (l' := #[.val (.ref x1), .val (.ref a1), .val .null, .val (.ref v1), .unset]) rfl hr) ?_
  show Go p e s below _ _ _ _ T102 (mkF m 9 #[.val (.ref x1), .val (.ref a1), .val .null, .val (.ref v1), .unset] [])
  refine Go.of (fun _ hr => XS.aloadN X102.here hx rfl (hb hby d20_9) rfl rfl hr) ?_
  show Go p e s below _ _ _ _ T102 (mkF m 10 #[.val (.ref x1), .val (.ref a1), .val .null, .val (.ref v1), .unset] [(.ref a1)])
  obtain ⟨_, b103, T103, h103, L103, e103, Cc103, X103, B103, J103, g103, hQ103, st103⟩ := own_callV Cc102 B102 J102 X102 (hw _ (List.mem_of_getElem? (i := 106) rfl)) (hw _ (List.mem_of_getElem? (i := 107) rfl)) (own_nf (args := #[]) (mvT hZ (hw _ (List.mem_of_getElem? (i := 104) rfl))) rfl) (hw _ (List.mem_of_getElem? (i := 109) rfl)) (hw _ (List.mem_of_getElem? (i := 110) rfl)) (hw _ (List.mem_of_getElem? (i := 41) rfl)) (hw _ (List.mem_of_getElem? (i := 111) rfl)) (by decide) Ea1 (rm22 l Z a0 hw [] a1 v1 _ bs nc _ h0 n0 O0 h0.size (own_ole O0) K0.1 Ea1 Gv Gc Gn W1 Ev hc hbl) e102 (g := (mkF m 10 #[.val (.ref x1), .val (.ref a1), .val .null, .val (.ref v1), .unset] [(.ref a1)])) rfl (by rw [hml]; rfl) (argsL := []) (rest := []) (lenOf pd17 rfl) rfl (W := 0) (by show 2 * 0 + _ ≤ _; exact Nat.le_of_eq rfl) (hb hby d20_10) (by decide) (by decide) (by decide) (by decide)
  obtain ⟨rfl, Nq103, hh103⟩ := hQ103
  have N103 := Fr.app N102 (show Fr nb _ from fun y hy => Nat.le_trans hnb (Nq103 y hy))
  have NS103 := Fr.app NS102 Nq103
  obtain ⟨hx, hZ, hown, hby, hml, hnm, hret, hlk⟩ := id Cc103
  rw [hh103] at e103 B103 J103
  refine Go.of st103 ?_
  show Go p e s below _ _ _ _ T103 (mkF m 13 #[.val (.ref x1), .val (.ref a1), .val .null, .val (.ref v1), .unset] [(.int (Int32.ofNat bs.length))])
  refine Go.of (fun _ hr => XS.istore X103.here hx rfl (hb hby d20_13) rfl (l' := #[.val (.ref x1), .val (.ref a1), .val .null, .val (.ref v1), .val (.int (Int32.ofNat bs.length))]) rfl hr) ?_
  show Go p e s below _ _ _ _ T103 (mkF m 15 #[.val (.ref x1), .val (.ref a1), .val .null, .val (.ref v1), .val (.int (Int32.ofNat bs.length))] [])
  refine Go.of (fun _ hr => XS.aloadN X103.here hx rfl (hb hby d20_15) rfl rfl hr) ?_
  show Go p e s below _ _ _ _ T103 (mkF m 16 #[.val (.ref x1), .val (.ref a1), .val .null, .val (.ref v1), .val (.int (Int32.ofNat bs.length))] [(.ref a1)])
  obtain ⟨_, b104, T104, h104, L104, e104, Cc104, X104, B104, J104, g104, hQ104, st104⟩ := own_callV Cc103 B103 J103 X103 (hw _ (List.mem_of_getElem? (i := 117) rfl)) (hw _ (List.mem_of_getElem? (i := 118) rfl)) (notFace_of_selects (args := #[]) (mvT hZ (hw _ (List.mem_of_getElem? (i := 120) rfl)))) (hw _ (List.mem_of_getElem? (i := 120) rfl)) (hw _ (List.mem_of_getElem? (i := 119) rfl)) (hw _ (List.mem_of_getElem? (i := 59) rfl)) (hw _ (List.mem_of_getElem? (i := 121) rfl)) (by decide) Ea1 (rm24 l Z a0 hw [] a1 v1 _ bs nc zc _ h0 n0 O0 h0.size (own_ole O0) K0.1 Ea1 Gv Gc Gn W1 Ev hc hbl S_C hzc) e103 (g := (mkF m 16 #[.val (.ref x1), .val (.ref a1), .val .null, .val (.ref v1), .val (.int (Int32.ofNat bs.length))] [(.ref a1)])) rfl (by rw [hml]; rfl) (argsL := []) (rest := []) (lenOf pd13 rfl) rfl (W := 0) (by show 2 * 0 + _ ≤ _; exact Nat.le_of_eq rfl) (hb hby d20_16) (by decide) (by decide) (by decide) (by decide)
  obtain ⟨rfl, Nq104, hh104⟩ := hQ104
  have N104 := Fr.app N103 (show Fr nb _ from fun y hy => Nat.le_trans hnb (Nq104 y hy))
  have NS104 := Fr.app NS103 Nq104
  obtain ⟨hx, hZ, hown, hby, hml, hnm, hret, hlk⟩ := id Cc104
  rw [hh104] at e104 B104 J104
  refine Go.of st104 ?_
  show Go p e s below _ _ _ _ T104 (mkF m 19 #[.val (.ref x1), .val (.ref a1), .val .null, .val (.ref v1), .val (.int (Int32.ofNat bs.length))] [(.int (1 : Int32))])
  refine Go.of (fun _ hr => XS.ifNo X104.here hx rfl (hb hby d20_19) rfl ((if0 _ _).trans (feq (by decide : ¬ ((1 : Int32) = (0 : Int32)))).1) hr) ?_
  show Go p e s below _ _ _ _ T104 (mkF m 22 #[.val (.ref x1), .val (.ref a1), .val .null, .val (.ref v1), .val (.int (Int32.ofNat bs.length))] [])
  refine Go.of (fun _ hr => XS.aloadN X104.here hx rfl (hb hby d20_22) rfl rfl hr) ?_
  show Go p e s below _ _ _ _ T104 (mkF m 23 #[.val (.ref x1), .val (.ref a1), .val .null, .val (.ref v1), .val (.int (Int32.ofNat bs.length))] [(.ref x1)])
  refine Go.of (fun _ hr => XS.iconst X104.here hx rfl (hb hby d20_23) hr) ?_
  show Go p e s below _ _ _ _ T104 (mkF m 24 #[.val (.ref x1), .val (.ref a1), .val .null, .val (.ref v1), .val (.int (Int32.ofNat bs.length))] [(.int (0 : Int32)), (.ref x1)])
  obtain ⟨T105, h105, X105, e105, W105, st105⟩ := putFN X104 hx hZ hown (hw _ (List.mem_of_getElem? (i := 31) rfl)) Via.refl e104 F2 E1 (Or.inr ⟨(hw _ (List.mem_of_getElem? (i := 32) rfl)), rfl, hnm⟩) (hw _ (List.mem_of_getElem? (i := 7) rfl)) (ty := .byte) (v := (.int (0 : Int32))) (v' := (.int (0 : Int32))) (by decide) rfl rfl (g := (mkF m 24 #[.val (.ref x1), .val (.ref a1), .val .null, .val (.ref v1), .val (.int (Int32.ofNat bs.length))] [(.int (0 : Int32)), (.ref x1)])) rfl rfl (hb hby d20_24)
  have N105 := Fr.snoc X105 N104 fr_x1
  have J105 := J104.wr W105 hm_x1
  have B105 := B104.mono (Nat.le_of_eq W105.size.symm)
  have O105 := O0.wr W105 (Nat.le_trans hb0 fr_x1)
  have K105 := K0.wr W105 (Or.inl (List.mem_of_getElem? (i := 0) rfl))
  have Fw105 := F2.same W105
  refine Go.of (fun _ hr => st105 _ hr) ?_
  show Go p e s below _ _ _ _ T105 (mkF m 27 #[.val (.ref x1), .val (.ref a1), .val .null, .val (.ref v1), .val (.int (Int32.ofNat bs.length))] [])
  refine Go.of (fun _ hr => XS.aloadN X105.here hx rfl (hb hby d20_27) rfl rfl hr) ?_
  show Go p e s below _ _ _ _ T105 (mkF m 28 #[.val (.ref x1), .val (.ref a1), .val .null, .val (.ref v1), .val (.int (Int32.ofNat bs.length))] [(.ref x1)])
  refine Go.of (fun _ hr => XS.aloadN X105.here hx rfl (hb hby d20_28) rfl rfl hr) ?_
  show Go p e s below _ _ _ _ T105 (mkF m 29 #[.val (.ref x1), .val (.ref a1), .val .null, .val (.ref v1), .val (.int (Int32.ofNat bs.length))] [(.ref v1), (.ref x1)])
  refine Go.of (fun _ hr => XS.iconst X105.here hx rfl (hb hby d20_29) hr) ?_
  show Go p e s below _ _ _ _ T105 (mkF m 30 #[.val (.ref x1), .val (.ref a1), .val .null, .val (.ref v1), .val (.int (Int32.ofNat bs.length))] [(.int (0 : Int32)), (.ref v1), (.ref x1)])
  refine Go.of (fun _ hr => XS.iload X105.here hx rfl (hb hby d20_30) rfl  hr) ?_
  show Go p e s below _ _ _ _ T105 (mkF m 32 #[.val (.ref x1), .val (.ref a1), .val .null, .val (.ref v1), .val (.int (Int32.ofNat bs.length))] [(.int (Int32.ofNat bs.length)), (.int (0 : Int32)), (.ref v1), (.ref x1)])
  have f107 := (W1.other W105 nev)
  have f108 := (Ev.wr W105)
  obtain ⟨_, b106, T106, h106, L106, e106, Cc106, X106, B106, J106, g106, hQ106, st106⟩ := own_callS Cc104 B105 J105 X105 (hw _ (List.mem_of_getElem? (i := 122) rfl)) (hw _ (List.mem_of_getElem? (i := 123) rfl)) (hw _ (List.mem_of_getElem? (i := 124) rfl)) (hw _ (List.mem_of_getElem? (i := 125) rfl)) (by decide) (rm25 l Z a0 hw [] v1 _ bs nc _ h105 n0 O105 h0.size (own_ole O0) K105.1 f107 hc f108 hbl) e105 (g := (mkF m 32 #[.val (.ref x1), .val (.ref a1), .val .null, .val (.ref v1), .val (.int (Int32.ofNat bs.length))] [(.int (Int32.ofNat bs.length)), (.int (0 : Int32)), (.ref v1), (.ref x1)])) rfl (by rw [hml]; rfl) (argsL := [(.ref v1), (.int (0 : Int32)), (.int (Int32.ofNat bs.length))]) (rest := [(.ref x1)]) (lenOf pd19 rfl) rfl (W := 1) (by show 2 * 0 + _ ≤ _; exact Nat.le_of_eq rfl) (hb hby d20_32) (by decide) (by decide) (by decide) (by decide)
  have f109 := (Ea1.wr W105)
  have f110 := (E1.wr W105)
  obtain ⟨r106, kr106, rfl, Nq106, Eq106, R_r106, Vr106⟩ := hQ106
  have N106 := Fr.app N105 (show Fr nb _ from fun y hy => Nat.le_trans hnb (Nq106 y hy))
  obtain ⟨hx, hZ, hown, hby, hml, hnm, hret, hlk⟩ := id Cc106
  have sz_r106 : h0.size ≤ r106 := Nat.le_trans K105.1 R_r106
  have fr_r106 : nb ≤ r106 := Nat.le_trans hnb sz_r106
  have ne_a1_r106 : a1 ≠ r106 := Nat.ne_of_lt (Nat.lt_of_lt_of_le f109.lt R_r106)
  have ne_v1_r106 : v1 ≠ r106 := Nat.ne_of_lt (Nat.lt_of_lt_of_le f107.lt R_r106)
  have ne_x1_r106 : x1 ≠ r106 := Nat.ne_of_lt (Nat.lt_of_lt_of_le f110.lt R_r106)
  have K106 := K105.ext Eq106
  have O106 := O105.ext Eq106
  refine Go.of st106 ?_
  show Go p e s below _ _ _ _ T106 (mkF m 35 #[.val (.ref x1), .val (.ref a1), .val .null, .val (.ref v1), .val (.int (Int32.ofNat bs.length))] [(.ref r106), (.ref x1)])
  have f112 := ((F1.other W105 (Or.inr (slot_ne (Or.inr (hw _ (List.mem_of_getElem? (i := 34) rfl))) (Or.inr (hw _ (List.mem_of_getElem? (i := 32) rfl))) (by decide) (t := (.array .byte)) (t' := .byte) (by decide) (by decide)))).ext Eq106)
  have f113 := (f110.ext Eq106)
  obtain ⟨T111, h111, X111, e111, W111, st111⟩ := putF X106 hx hZ hown (host := "") (Or.inl (hw _ (List.mem_of_getElem? (i := 33) rfl))) Via.refl e106 f112 f113 (Or.inr ⟨(hw _ (List.mem_of_getElem? (i := 34) rfl)), rfl, hnm⟩) (hw _ (List.mem_of_getElem? (i := 7) rfl)) (ty := (.array .byte)) (by decide) rfl rfl (g := (mkF m 35 #[.val (.ref x1), .val (.ref a1), .val .null, .val (.ref v1), .val (.int (Int32.ofNat bs.length))] [(.ref r106), (.ref x1)])) rfl rfl (hb hby d20_35)
  have N111 := Fr.snoc X111 N106 fr_x1
  have J111 := J106.wr W111 hm_x1
  have B111 := B106.mono (Nat.le_of_eq W111.size.symm)
  have O111 := O106.wr W111 (Nat.le_trans hb0 fr_x1)
  have K111 := K106.wr W111 (Or.inl (List.mem_of_getElem? (i := 0) rfl))
  have Fw111 := f112.same W111
  refine Go.of (fun _ hr => st111 _ hr) ?_
  show Go p e s below _ _ _ _ T111 (mkF m 38 #[.val (.ref x1), .val (.ref a1), .val .null, .val (.ref v1), .val (.int (Int32.ofNat bs.length))] [])
  refine Go.of (fun _ hr => XS.goto X111.here hx rfl (pc0 := 38) (pc' := 97) rfl (hb hby d20_38) (by decide) (by decide) hr) ?_
  show Go p e s below _ _ _ _ T111 (mkF m 97 #[.val (.ref x1), .val (.ref a1), .val .null, .val (.ref v1), .val (.int (Int32.ofNat bs.length))] [])
  have f114 := ((Fw105.ext Eq106).other W111 (Or.inr (slot_ne (Or.inr (hw _ (List.mem_of_getElem? (i := 32) rfl))) (Or.inr (hw _ (List.mem_of_getElem? (i := 34) rfl))) (by decide) (t := .byte) (t' := (.array .byte)) (by decide) (by decide))))
  have f115 := (Vr106.other W111 (Ne.symm ne_x1_r106))
  exact Go.retV X111 hx hlk B111 J111 e111 hret (hb hby d20_97) (by decide) (by decide) (fun vm_ hw_ => ⟨rfl, N111, K111, _, _, sz_r106, Fw111, f114, f115⟩)

theorem d19_0 : decode jdk_42_method_53_code 0 = .ok (.aload_n 0, 1) := by decide +kernel
theorem d19_1 : decode jdk_42_method_53_code 1 = .ok (.aload_n 1, 1) := by decide +kernel
theorem d19_2 : decode jdk_42_method_53_code 2 = .ok (.aconst_null, 1) := by decide +kernel
theorem d19_3 : decode jdk_42_method_53_code 3 = .ok (.invokespecial 489, 3) := by decide +kernel
theorem pd21 : parseMethodDescriptor "(Ljava/lang/AbstractStringBuilder;Ljava/lang/Void;)V" = some ⟨[(.object "java/lang/AbstractStringBuilder"), (.object "java/lang/Void")], none⟩ := by decide +kernel
theorem d19_6 : decode jdk_42_method_53_code 6 = .ok (.return_, 1) := by decide +kernel
set_option maxRecDepth 65536 in
set_option maxHeartbeats 40000000 in
theorem rm19 (l : Launch) (Z : State) (a0 : Array Value) (hw : ∀ d ∈ tables_1, d.before a0 Z = true) (ws : List Jvm.Cond) (x1 : Addr) (u1 u2 : Value) (a1 v1 : Addr) (kv : ClassId) (bs : List Int32) (nc : Nat) (zc : Int32) (ms : List Addr) (h0 : Heap) (n0 : Nat) (O0 : Old Z n0 h0) (nb : Nat) (hb0 : n0 ≤ nb) (hnb : nb ≤ h0.size) (fr_x1 : nb ≤ x1) (hm_x1 : x1 ∈ ms) (Ea1 : Exa Z h0 a1 "java/lang/StringBuilder") (Gv : Fld Z h0 a1 "java/lang/AbstractStringBuilder" "value" "[B" (.ref v1)) (Gc : Fld Z h0 a1 "java/lang/AbstractStringBuilder" "coder" "B" (.int 0)) (Gn : Fld Z h0 a1 "java/lang/AbstractStringBuilder" "count" "I" (.int (Int32.ofNat bs.length))) (W1 : Arv Z h0 v1 kv .byte (Int32.ofNat nc) (bs.map Value.int) (.int 0)) (Ev : Exa Z h0 v1 "[B") (hc : nc ≤ 5) (hbl : bs.length ≤ nc) (E1 : Exa Z h0 x1 "java/lang/String") (F1 : Fld Z h0 x1 "java/lang/String" "value" "[B" u1) (F2 : Fld Z h0 x1 "java/lang/String" "coder" "B" u2) (nex : a1 ≠ x1) (nev : v1 ≠ x1) (S_C : Sta Z Z.heap "java/lang/String" "COMPACT_STRINGS" "Z" (.int zc)) (hzc : ¬ zc = 0) :
    Con l Z ms (⟨"java/lang/String", "<init>", "(Ljava/lang/StringBuilder;)V"⟩ : MethodName) jdk_42_method_53_code 2 none ws ({ frames := 4, cells := 1, slots := 5, locals := 87 } : Room) #[(.ref x1), (.ref a1)] h0 (fun v vm h L => v = none ∧ Fr nb L ∧ Keep h0 h [x1] ∧ ∃ t k, h0.size ≤ t ∧ Fld Z h x1 "java/lang/String" "value" "[B" (.ref t) ∧ Fld Z h x1 "java/lang/String" "coder" "B" (.int 0) ∧ Arv Z h t k .byte (Int32.ofNat bs.length) (bs.map Value.int) (.int 0)) := by
  refine Con.mk (plainFor_of_name pn1) ?_
  intro p e s m below meth c s₁ Cc X0 e0 eb J0 B0 M0
  obtain ⟨hx, hZ, hown, hby, hml, hnm, hret, hlk⟩ := id Cc
  have N0 := Fr.nil nb
  have K0 := Keep.refl h0 [x1]
  show Go p e s below _ _ _ _ s₁ (mkF m 0 #[.val (.ref x1), .val (.ref a1)] [])
  refine Go.of (fun _ hr => XS.aloadN X0.here hx rfl (hb hby d19_0) rfl rfl hr) ?_
  show Go p e s below _ _ _ _ s₁ (mkF m 1 #[.val (.ref x1), .val (.ref a1)] [(.ref x1)])
  refine Go.of (fun _ hr => XS.aloadN X0.here hx rfl (hb hby d19_1) rfl rfl hr) ?_
  show Go p e s below _ _ _ _ s₁ (mkF m 2 #[.val (.ref x1), .val (.ref a1)] [(.ref a1), (.ref x1)])
  refine Go.of (fun _ hr => XS.aconstNull X0.here hx rfl (hb hby d19_2) hr) ?_
  show Go p e s below _ _ _ _ s₁ (mkF m 3 #[.val (.ref x1), .val (.ref a1)] [.null, (.ref a1), (.ref x1)])
  obtain ⟨_, b101, T101, h101, L101, e101, Cc101, X101, B101, J101, g101, hQ101, st101⟩ := own_callI Cc B0 J0 X0 rfl (hw _ (List.mem_of_getElem? (i := 98) rfl)) (hw _ (List.mem_of_getElem? (i := 99) rfl)) (hw _ (List.mem_of_getElem? (i := 8) rfl)) (hw _ (List.mem_of_getElem? (i := 100) rfl)) (by decide) (rm20 l Z a0 hw [] x1 _ _ a1 v1 _ bs nc zc _ h0 n0 O0 nb hb0 (Nat.le_trans hnb K0.1) fr_x1 hm_x1 Ea1 Gv Gc Gn W1 Ev hc hbl E1 F1 F2 nex nev S_C hzc) e0 (g := (mkF m 3 #[.val (.ref x1), .val (.ref a1)] [.null, (.ref a1), (.ref x1)])) rfl (by rw [hml]; rfl) (argsL := [(.ref a1), .null]) (rest := []) (lenOf pd21 rfl) rfl (W := 0) (by show 2 * 0 + _ ≤ _; exact Nat.le_of_eq rfl) (hb hby d19_3) (by decide) (by decide) (by decide) (by decide)
  obtain ⟨rfl, Nq101, Kq101, t101, kt101, R_t101, Fv101, Fc101, Vt101⟩ := hQ101
  have N101 := Fr.app N0 Nq101
  obtain ⟨hx, hZ, hown, hby, hml, hnm, hret, hlk⟩ := id Cc101
  have sz_t101 : h0.size ≤ t101 := Nat.le_trans K0.1 R_t101
  have fr_t101 : nb ≤ t101 := Nat.le_trans hnb sz_t101
  have ne_a1_t101 : a1 ≠ t101 := Nat.ne_of_lt (Nat.lt_of_lt_of_le Ea1.lt R_t101)
  have ne_v1_t101 : v1 ≠ t101 := Nat.ne_of_lt (Nat.lt_of_lt_of_le W1.lt R_t101)
  have ne_x1_t101 : x1 ≠ t101 := Nat.ne_of_lt (Nat.lt_of_lt_of_le E1.lt R_t101)
  have K101 := K0.trans Kq101 (allS (Or.inl (List.mem_of_getElem? (i := 0) rfl)) all0)
  have O101 := O0.keep Kq101 (allS (Nat.le_trans hb0 fr_x1) all0)
  refine Go.of st101 ?_
  show Go p e s below _ _ _ _ T101 (mkF m 6 #[.val (.ref x1), .val (.ref a1)] [])
  exact Go.retV X101 hx hlk B101 J101 e101 hret (hb hby d19_6) (by decide) (by decide) (fun vm_ hw_ => ⟨rfl, N101, K101, _, _, sz_t101, Fv101, Fc101, Vt101⟩)

theorem d18_0 : decode jdk_67_method_42_code 0 = .ok (.new 18, 3) := by decide +kernel
theorem d18_3 : decode jdk_67_method_42_code 3 = .ok (.dup, 1) := by decide +kernel
theorem d18_4 : decode jdk_67_method_42_code 4 = .ok (.aload_n 0, 1) := by decide +kernel
theorem d18_5 : decode jdk_67_method_42_code 5 = .ok (.invokespecial 137, 3) := by decide +kernel
theorem pd22 : parseMethodDescriptor "(Ljava/lang/StringBuilder;)V" = some ⟨[(.object "java/lang/StringBuilder")], none⟩ := by decide +kernel
theorem d18_8 : decode jdk_67_method_42_code 8 = .ok (.areturn, 1) := by decide +kernel
set_option maxRecDepth 65536 in
set_option maxHeartbeats 40000000 in
theorem rm18 (l : Launch) (Z : State) (a0 : Array Value) (hw : ∀ d ∈ tables_1, d.before a0 Z = true) (ws : List Jvm.Cond) (a1 v1 : Addr) (kv : ClassId) (bs : List Int32) (nc : Nat) (zc : Int32) (ms : List Addr) (h0 : Heap) (n0 : Nat) (O0 : Old Z n0 h0) (nb : Nat) (hb0 : n0 ≤ nb) (hnb : nb ≤ h0.size) (Ea1 : Exa Z h0 a1 "java/lang/StringBuilder") (Gv : Fld Z h0 a1 "java/lang/AbstractStringBuilder" "value" "[B" (.ref v1)) (Gc : Fld Z h0 a1 "java/lang/AbstractStringBuilder" "coder" "B" (.int 0)) (Gn : Fld Z h0 a1 "java/lang/AbstractStringBuilder" "count" "I" (.int (Int32.ofNat bs.length))) (W1 : Arv Z h0 v1 kv .byte (Int32.ofNat nc) (bs.map Value.int) (.int 0)) (Ev : Exa Z h0 v1 "[B") (hc : nc ≤ 5) (hbl : bs.length ≤ nc) (S_C : Sta Z Z.heap "java/lang/String" "COMPACT_STRINGS" "Z" (.int zc)) (hzc : ¬ zc = 0) :
    Con l Z ms (⟨"java/lang/StringBuilder", "toString", "()Ljava/lang/String;"⟩ : MethodName) jdk_67_method_42_code 1 (some (.object "java/lang/String")) ws ({ frames := 5, cells := 2, slots := 9, locals := 101 } : Room) #[(.ref a1)] h0 (fun v vm h L => ∃ r t k, v = some (.ref r) ∧ Fr nb L ∧ Ext h0 h ∧ h0.size ≤ r ∧ h0.size ≤ t ∧ Exa Z h r "java/lang/String" ∧ Fld Z h r "java/lang/String" "value" "[B" (.ref t) ∧ Fld Z h r "java/lang/String" "coder" "B" (.int 0) ∧ Arv Z h t k .byte (Int32.ofNat bs.length) (bs.map Value.int) (.int 0)) := by
  refine Con.mk (plainFor_of_name pn5) ?_
  intro p e s m below meth c s₁ Cc X0 e0 eb J0 B0 M0
  obtain ⟨hx, hZ, hown, hby, hml, hnm, hret, hlk⟩ := id Cc
  have N0 := Fr.nil h0.size
  have K0 := Keep.refl h0 []
  show Go p e s below _ _ _ _ s₁ (mkF m 0 #[.val (.ref a1)] [])
  obtain ⟨T101, h101, X101, e101, E101, A101, D101, -, st101⟩ := newO X0 hx hZ hown (hw _ (List.mem_of_getElem? (i := 94) rfl)) (hw _ (List.mem_of_getElem? (i := 7) rfl)) (hw _ (List.mem_of_getElem? (i := 8) rfl)) e0 (g := (mkF m 0 #[.val (.ref a1)] [])) rfl (hb hby d18_0) (by decide) (by decide)
  obtain ⟨o101, g101⟩ : ∃ z, z = h0.size := ⟨_, rfl⟩
  rw [← g101] at A101 D101 st101
  have ne_a1_o101 : a1 ≠ o101 := Nat.ne_of_lt (Nat.lt_of_lt_of_le Ea1.lt (Nat.le_of_eq g101.symm))
  have ne_v1_o101 : v1 ≠ o101 := Nat.ne_of_lt (Nat.lt_of_lt_of_le W1.lt (Nat.le_of_eq g101.symm))
  have lt101 : o101 < h101.size := A101.lt
  have J101 := J0.add E101 g101 lt101
  have B101 := B0.mono E101.1
  have O101 := O0.ext E101
  have sz101 : h0.size ≤ o101 := Nat.le_trans K0.1 (Nat.le_of_eq g101.symm)
  have fr101 : h0.size ≤ o101 := sz101
  have K101 := K0.ext E101
  have F101_coder : Fld Z h101 o101 "java/lang/String" "coder" "B" (.int (0 : Int32)) := D101 (Or.inr (hw _ (List.mem_of_getElem? (i := 32) rfl))) (ty := .byte) (by decide)
  have F101_value : Fld Z h101 o101 "java/lang/String" "value" "[B" .null := D101 (Or.inr (hw _ (List.mem_of_getElem? (i := 34) rfl))) (ty := (.array .byte)) (by decide)
  refine Go.of (fun _ hr => st101 _ hr) ?_
  show Go p e s below _ _ _ _ T101 (mkF m 3 #[.val (.ref a1)] [(.ref o101)])
  refine Go.of (fun _ hr => XS.dup X101.here hx rfl (hb hby d18_3) rfl rfl hr) ?_
  show Go p e s below _ _ _ _ T101 (mkF m 4 #[.val (.ref a1)] [(.ref o101), (.ref o101)])
  refine Go.of (fun _ hr => XS.aloadN X101.here hx rfl (hb hby d18_4) rfl rfl hr) ?_
  show Go p e s below _ _ _ _ T101 (mkF m 5 #[.val (.ref a1)] [(.ref a1), (.ref o101), (.ref o101)])
  have f103 := (Ea1.ext E101)
  have f104 := (Gv.ext E101)
  have f105 := (Gc.ext E101)
  have f106 := (Gn.ext E101)
  have f107 := (W1.ext E101)
  have f108 := (Ev.ext E101)
  obtain ⟨_, b102, T102, h102, L102, e102, Cc102, X102, B102, J102, g102, hQ102, st102⟩ := own_callI Cc B101 J101 X101 rfl (hw _ (List.mem_of_getElem? (i := 95) rfl)) (hw _ (List.mem_of_getElem? (i := 96) rfl)) (hw _ (List.mem_of_getElem? (i := 8) rfl)) (hw _ (List.mem_of_getElem? (i := 97) rfl)) (by decide) (rm19 l Z a0 hw [] o101 _ _ a1 v1 _ bs nc zc _ h101 n0 O101 h0.size (own_ole O0) K101.1 fr101 (List.mem_cons_self ..) f103 f104 f105 f106 f107 f108 hc hbl A101 F101_value F101_coder ne_a1_o101 ne_v1_o101 S_C hzc) e101 (g := (mkF m 5 #[.val (.ref a1)] [(.ref a1), (.ref o101), (.ref o101)])) rfl (by rw [hml]; rfl) (argsL := [(.ref a1)]) (rest := [(.ref o101)]) (lenOf pd22 rfl) rfl (W := 1) (by show 2 * 0 + _ ≤ _; exact Nat.le_of_eq rfl) (hb hby d18_5) (by decide) (by decide) (by decide) (by decide)
  obtain ⟨rfl, Nq102, Kq102, t102, kt102, R_t102, Fv102, Fc102, Vt102⟩ := hQ102
  have N102 := Fr.app N0 Nq102
  obtain ⟨hx, hZ, hown, hby, hml, hnm, hret, hlk⟩ := id Cc102
  have sz_t102 : h0.size ≤ t102 := Nat.le_trans K101.1 R_t102
  have fr_t102 : h0.size ≤ t102 := sz_t102
  have ne_a1_t102 : a1 ≠ t102 := Nat.ne_of_lt (Nat.lt_of_lt_of_le f103.lt R_t102)
  have ne_v1_t102 : v1 ≠ t102 := Nat.ne_of_lt (Nat.lt_of_lt_of_le f107.lt R_t102)
  have ne_o101_t102 : o101 ≠ t102 := Nat.ne_of_lt (Nat.lt_of_lt_of_le A101.lt R_t102)
  have K102 := K101.trans Kq102 (allS (Or.inr sz101) all0)
  have O102 := O101.keep Kq102 (allS (Nat.le_trans (own_ole O0) fr101) all0)
  refine Go.of st102 ?_
  show Go p e s below _ _ _ _ T102 (mkF m 8 #[.val (.ref a1)] [(.ref o101)])
  have f109 := (A101.keep Kq102)
  exact Go.retA X102 hx hlk B102 (J102.sub fun x hx => (List.mem_cons_of_mem _ hx)) e102 hret rfl rfl (hb hby d18_8) (by decide) (by decide) (fun vm_ hw_ => ⟨_, _, _, rfl, (fun y hy => Nat.le_trans hnb (N102 y hy)), keep_ext K102, sz101, sz_t102, f109, Fv102, Fc102, Vt102⟩)

def dig (x : Int32) : Bool := decide (¬ x < 48 ∧ ¬ 57 < x)
theorem dig_le {x : Int32} (h : ¬ x < 48 ∧ ¬ 57 < x) : ¬ 255 < x := fun q => h.2 (by
  rw [Int32.lt_iff_toInt_lt, show (255 : Int32).toInt = 255 from by decide] at q
  rw [Int32.lt_iff_toInt_lt, show (57 : Int32).toInt = 57 from by decide]; omega)
theorem dig_le' {x : Int32} (h : dig x = true) : ¬ 255 < x := dig_le (of_decide_eq_true h)
def dgs (cs : List Int32) : List Int32 := (cs.filter dig).map lo8
theorem dgs_no {cs : List Int32} {i : Nat} (h : i < cs.length) (q : ¬ (¬ cs.getD i 0 < 48 ∧ ¬ 57 < cs.getD i 0)) : dgs (cs.take (i + 1)) = dgs (cs.take i) := by
  have e : dig (cs.getD i 0) = false := decide_eq_false q
  rw [List.getD_eq_getElem?_getD, List.getElem?_eq_getElem h, Option.getD_some] at e
  have f : [cs[i]].filter dig = [] := by rw [List.filter_cons, e]; rfl
  rw [dgs, dgs, List.take_succ_eq_append_getElem h, List.filter_append, f, List.append_nil]
theorem dgs_yes {cs : List Int32} {i : Nat} (h : i < cs.length) (q : ¬ cs.getD i 0 < 48 ∧ ¬ 57 < cs.getD i 0) : dgs (cs.take (i + 1)) = dgs (cs.take i) ++ [lo8 (cs.getD i 0)] := by
  have e : dig (cs.getD i 0) = true := decide_eq_true q
  rw [List.getD_eq_getElem?_getD, List.getElem?_eq_getElem h, Option.getD_some] at e ⊢
  have f : [cs[i]].filter dig = [cs[i]] := by rw [List.filter_cons, e]; rfl
  rw [dgs, dgs, List.take_succ_eq_append_getElem h, List.filter_append, f, List.map_append]; rfl
theorem dgs_le (cs : List Int32) (i : Nat) : (dgs (cs.take i)).length ≤ i := by
  rw [dgs, List.length_map]
  exact Nat.le_trans (List.length_filter_le ..) (List.length_take_le ..)
theorem dgs_nil (cs : List Int32) : dgs (cs.take 0) = [] := by simp [dgs]
def tkc (n i : Nat) (cs : List Int32) : List Int32 := cs.take (min n i)
theorem tk_yes {n i : Nat} {cs : List Int32} (h : i < n) (hL : i < cs.length) : tkc n (i + 1) cs = tkc n i cs ++ [cs.getD i 0] := by
  rw [tkc, tkc, show min n (i + 1) = i + 1 by omega, show min n i = i by omega, List.take_succ_eq_append_getElem hL, List.getD_eq_getElem?_getD, List.getElem?_eq_getElem hL]; rfl
theorem tk_no {n i : Nat} {cs : List Int32} (h : ¬ i < n) : tkc n (i + 1) cs = tkc n i cs := by
  rw [tkc, tkc, show min n (i + 1) = n by omega, show min n i = n by omega]
theorem tk_len {n i : Nat} {cs : List Int32} (h : i < n) (hL : i < cs.length) : (tkc n i cs).length = i := by
  rw [tkc, List.length_take]; omega
theorem tk_full {n : Nat} {cs : List Int32} (hn : n ≤ 5) (hL : cs.length = 5) : (tkc n 5 cs).length = n := by
  rw [tkc, List.length_take]; omega
theorem tk_rng {n i : Nat} {cs : List Int32} (h : ∀ x ∈ cs, rng16 x) : ∀ x ∈ tkc n i cs, rng16 x := fun x hx => h x (List.mem_of_mem_take hx)
theorem ws_le {n i : Nat} {cs ws : List Int32} (hws : ws = (tkc n i cs).filter dig) : ws.length ≤ i := by
  rw [hws, tkc]
  exact Nat.le_trans (List.length_filter_le ..) (Nat.le_trans (List.length_take_le ..) (Nat.min_le_right ..))
theorem ws_skip {n i : Nat} {cs ws : List Int32} (hws : ws = (tkc n i cs).filter dig) (h : ¬ i < n) : ws = (tkc n (i + 1) cs).filter dig := by rw [tk_no h]; exact hws
theorem ws_no {n i : Nat} {cs ws : List Int32} {x : Int32} (hws : ws = (tkc n i cs).filter dig) (h : i < n) (hL : i < cs.length) (hx : cs.getD i 0 = x) (hd : (if dig x then (1 : Int32) else 0) = 0) : ws = (tkc n (i + 1) cs).filter dig := by
  have e : dig x = false := by
    cases q : dig x with
    | false => rfl
    | true => rw [q] at hd; exact absurd hd (by decide)
  rw [tk_yes h hL, hx, List.filter_append, ← hws]; simp [e]
theorem ws_yes {n i : Nat} {cs ws : List Int32} {x : Int32} (hws : ws = (tkc n i cs).filter dig) (h : i < n) (hL : i < cs.length) (hx : cs.getD i 0 = x) (hd : ¬ (if dig x then (1 : Int32) else 0) = 0) : ws ++ [x] = (tkc n (i + 1) cs).filter dig := by
  have e : dig x = true := by
    cases q : dig x with
    | true => rfl
    | false => rw [q] at hd; exact absurd rfl hd
  rw [tk_yes h hL, hx, List.filter_append, ← hws]; simp [e]
theorem fl_le (ts : List Int32) : ∀ x ∈ ts.filter dig, ¬ 255 < x := fun x hx => dig_le' (List.mem_filter.mp hx).2
theorem fl_rng {ts : List Int32} (h : ∀ x ∈ ts, rng16 x) : ∀ x ∈ ts.filter dig, rng16 x := fun x hx => h x (List.mem_filter.mp hx).1
theorem fl_len {ts : List Int32} (h : ts.length ≤ 5) : (ts.filter dig).length ≤ 5 := Nat.le_trans (List.length_filter_le ..) h
theorem oi_ltR {i n : Nat} (hi : i < 2147483648) (hn : n < 2147483648) (q : Int32.ofNat i < Int32.ofNat n) : i < n := by
  rw [Int32.lt_iff_toInt_lt, oi_toInt hi, oi_toInt hn] at q; omega
theorem oi_nltR {i n : Nat} (hi : i < 2147483648) (hn : n < 2147483648) (q : ¬ Int32.ofNat i < Int32.ofNat n) : ¬ i < n := by
  rw [Int32.lt_iff_toInt_lt, oi_toInt hi, oi_toInt hn] at q; omega
theorem rem6 (x : Int32) : ∃ n : Nat, n ≤ 5 ∧ (x &&& (2147483647 : Int32)) % (6 : Int32) = Int32.ofNat n := by
  have a := c_and x 2147483647 (by decide)
  have b := (c_irem (x &&& 2147483647) 6 6 (by decide)).1 a.1
  have c : 0 ≤ ((x &&& 2147483647) % 6).toInt ∧ ((x &&& 2147483647) % 6).toInt < 6 := by rw [b]; omega
  have nn : ¬ (x &&& (2147483647 : Int32)) % 6 < 0 := by rw [Int32.lt_iff_toInt_lt, Int32.toInt_zero]; omega
  refine ⟨((x &&& 2147483647) % 6).toNatClampNeg, ?_, (q_back nn).symm⟩
  have e := nat_of nn
  omega

theorem pn7 : plainName "com/example/goldspan/goldspan/rules/TextDigitsPinLaw" = true := by first | (simp [plainName, overriddenIn]; done) | decide +kernel
theorem d1_0 : decode method_2_code 0 = .ok (.iload_n 0, 1) := by decide +kernel
theorem d1_1 : decode method_2_code 1 = .ok (.bipush 48, 2) := by decide +kernel
theorem d1_3 : decode method_2_code 3 = .ok (.if_icmp .lt 13, 3) := by decide +kernel
theorem d1_16 : decode method_2_code 16 = .ok (.iconst 0, 1) := by decide +kernel
theorem d1_17 : decode method_2_code 17 = .ok (.ireturn, 1) := by decide +kernel
theorem d1_6 : decode method_2_code 6 = .ok (.iload_n 0, 1) := by decide +kernel
theorem d1_7 : decode method_2_code 7 = .ok (.bipush 57, 2) := by decide +kernel
theorem d1_9 : decode method_2_code 9 = .ok (.if_icmp .gt 7, 3) := by decide +kernel
theorem d1_12 : decode method_2_code 12 = .ok (.iconst 1, 1) := by decide +kernel
theorem d1_13 : decode method_2_code 13 = .ok (.goto 4, 3) := by decide +kernel
set_option maxRecDepth 65536 in
set_option maxHeartbeats 40000000 in
theorem rm1 (l : Launch) (Z : State) (a0 : Array Value) (hw : ∀ d ∈ tables_1, d.before a0 Z = true) (ws : List Jvm.Cond) (c1 : Int32) (ms : List Addr) (h0 : Heap) (n0 : Nat) (O0 : Old Z n0 h0) (nb : Nat) (hb0 : n0 ≤ nb) (hnb : nb ≤ h0.size) :
    Con l Z ms (⟨"com/example/goldspan/goldspan/rules/TextDigitsPinLaw", "isAsciiDigit", "(C)Z"⟩ : MethodName) method_2_code 1 (some .boolean) ws ({ frames := 0, cells := 0, slots := 0, locals := 0 } : Room) #[(.int c1)] h0 (fun v vm h L => v = some (.int (if dig c1 then 1 else 0)) ∧ Fr nb L ∧ h = h0) := by
  refine Con.mk (plainFor_of_name pn7) ?_
  intro p e s m below meth c s₁ Cc X0 e0 eb J0 B0 M0
  obtain ⟨hx, hZ, hown, hby, hml, hnm, hret, hlk⟩ := id Cc
  have N0 := Fr.nil h0.size
  have K0 := Keep.refl h0 []
  show Go p e s below _ _ _ _ s₁ (mkF m 0 #[.val (.int c1)] [])
  refine Go.of (fun _ hr => XS.iloadN X0.here hx rfl (hb hby d1_0) rfl  hr) ?_
  show Go p e s below _ _ _ _ s₁ (mkF m 1 #[.val (.int c1)] [(.int c1)])
  refine Go.of (fun _ hr => XS.bipush X0.here hx rfl (hb hby d1_1) hr) ?_
  show Go p e s below _ _ _ _ s₁ (mkF m 3 #[.val (.int c1)] [(.int (48 : Int32)), (.int c1)])
  by_cases hb3_101 : c1 < (48 : Int32)
  · refine Go.of (fun _ hr => XS.icmpYes X0.here hx rfl (pc0 := 3) (pc' := 16) rfl (hb hby d1_3) rfl (tlt hb3_101).1 (by decide) (by decide) hr) ?_
    show Go p e s below _ _ _ _ s₁ (mkF m 16 #[.val (.int c1)] [])
    refine Go.of (fun _ hr => XS.iconst X0.here hx rfl (hb hby d1_16) hr) ?_
    show Go p e s below _ _ _ _ s₁ (mkF m 17 #[.val (.int c1)] [(.int (0 : Int32))])
    exact Go.retN X0 hx hlk B0 J0 e0 (t := .boolean) (z' := (0 : Int32)) hret (by simp) (hb hby d1_17) rfl (by decide) (by decide) (fun vm_ hw_ => ⟨(by simp [dig, hb3_101]), (fun y hy => Nat.le_trans hnb (N0 y hy)), rfl⟩)
  · refine Go.of (fun _ hr => XS.icmpNo X0.here hx rfl (hb hby d1_3) rfl (flt hb3_101).1 hr) ?_
    show Go p e s below _ _ _ _ s₁ (mkF m 6 #[.val (.int c1)] [])
    refine Go.of (fun _ hr => XS.iloadN X0.here hx rfl (hb hby d1_6) rfl  hr) ?_
    show Go p e s below _ _ _ _ s₁ (mkF m 7 #[.val (.int c1)] [(.int c1)])
    refine Go.of (fun _ hr => XS.bipush X0.here hx rfl (hb hby d1_7) hr) ?_
    show Go p e s below _ _ _ _ s₁ (mkF m 9 #[.val (.int c1)] [(.int (57 : Int32)), (.int c1)])
    by_cases hb9_102 : (57 : Int32) < c1
    · refine Go.of (fun _ hr => XS.icmpYes X0.here hx rfl (pc0 := 9) (pc' := 16) rfl (hb hby d1_9) rfl (tlt hb9_102).2.2.1 (by decide) (by decide) hr) ?_
      show Go p e s below _ _ _ _ s₁ (mkF m 16 #[.val (.int c1)] [])
      refine Go.of (fun _ hr => XS.iconst X0.here hx rfl (hb hby d1_16) hr) ?_
      show Go p e s below _ _ _ _ s₁ (mkF m 17 #[.val (.int c1)] [(.int (0 : Int32))])
      exact Go.retN X0 hx hlk B0 J0 e0 (t := .boolean) (z' := (0 : Int32)) hret (by simp) (hb hby d1_17) rfl (by decide) (by decide) (fun vm_ hw_ => ⟨(by simp [dig, hb3_101, hb9_102]), (fun y hy => Nat.le_trans hnb (N0 y hy)), rfl⟩)
    · refine Go.of (fun _ hr => XS.icmpNo X0.here hx rfl (hb hby d1_9) rfl (flt hb9_102).2.2.1 hr) ?_
      show Go p e s below _ _ _ _ s₁ (mkF m 12 #[.val (.int c1)] [])
      refine Go.of (fun _ hr => XS.iconst X0.here hx rfl (hb hby d1_12) hr) ?_
      show Go p e s below _ _ _ _ s₁ (mkF m 13 #[.val (.int c1)] [(.int (1 : Int32))])
      refine Go.of (fun _ hr => XS.goto X0.here hx rfl (pc0 := 13) (pc' := 17) rfl (hb hby d1_13) (by decide) (by decide) hr) ?_
      show Go p e s below _ _ _ _ s₁ (mkF m 17 #[.val (.int c1)] [(.int (1 : Int32))])
      exact Go.retN X0 hx hlk B0 J0 e0 (t := .boolean) (z' := (1 : Int32)) hret (by simp) (hb hby d1_17) rfl (by decide) (by decide) (fun vm_ hw_ => ⟨(by simp [dig, hb3_101, hb9_102]), (fun y hy => Nat.le_trans hnb (N0 y hy)), rfl⟩)

theorem d8_14 : decode prog_39_method_6_code 14 = .ok (.iload_n 2, 1) := by decide +kernel
theorem d8_15 : decode prog_39_method_6_code 15 = .ok (.aload_n 0, 1) := by decide +kernel
theorem d8_16 : decode prog_39_method_6_code 16 = .ok (.invokevirtual 30, 3) := by decide +kernel
theorem d8_19 : decode prog_39_method_6_code 19 = .ok (.if_icmp .ge 33, 3) := by decide +kernel
theorem d8_52 : decode prog_39_method_6_code 52 = .ok (.aload_n 1, 1) := by decide +kernel
theorem d8_53 : decode prog_39_method_6_code 53 = .ok (.invokevirtual 77, 3) := by decide +kernel
theorem pd23 : parseMethodDescriptor "()Ljava/lang/String;" = some ⟨[], some (.object "java/lang/String")⟩ := by decide +kernel
theorem d8_56 : decode prog_39_method_6_code 56 = .ok (.areturn, 1) := by decide +kernel
theorem d8_22 : decode prog_39_method_6_code 22 = .ok (.aload_n 0, 1) := by decide +kernel
theorem d8_23 : decode prog_39_method_6_code 23 = .ok (.iload_n 2, 1) := by decide +kernel
theorem d8_24 : decode prog_39_method_6_code 24 = .ok (.invokevirtual 102, 3) := by decide +kernel
theorem pd24 : parseMethodDescriptor "(I)C" = some ⟨[.int], some .char⟩ := by decide +kernel
theorem d8_27 : decode prog_39_method_6_code 27 = .ok (.istore_n 3, 1) := by decide +kernel
theorem d8_28 : decode prog_39_method_6_code 28 = .ok (.iload_n 3, 1) := by decide +kernel
theorem d8_29 : decode prog_39_method_6_code 29 = .ok (.bipush 48, 2) := by decide +kernel
theorem d8_31 : decode prog_39_method_6_code 31 = .ok (.if_icmp .lt 15, 3) := by decide +kernel
theorem d8_46 : decode prog_39_method_6_code 46 = .ok (.iinc 2 1, 3) := by decide +kernel
theorem d8_49 : decode prog_39_method_6_code 49 = .ok (.goto (-35), 3) := by decide +kernel
theorem d8_34 : decode prog_39_method_6_code 34 = .ok (.iload_n 3, 1) := by decide +kernel
theorem d8_35 : decode prog_39_method_6_code 35 = .ok (.bipush 57, 2) := by decide +kernel
theorem d8_37 : decode prog_39_method_6_code 37 = .ok (.if_icmp .gt 9, 3) := by decide +kernel
theorem d8_40 : decode prog_39_method_6_code 40 = .ok (.aload_n 1, 1) := by decide +kernel
theorem d8_41 : decode prog_39_method_6_code 41 = .ok (.iload_n 3, 1) := by decide +kernel
theorem d8_42 : decode prog_39_method_6_code 42 = .ok (.invokevirtual 106, 3) := by decide +kernel
theorem pd25 : parseMethodDescriptor "(C)Ljava/lang/StringBuilder;" = some ⟨[.char], some (.object "java/lang/StringBuilder")⟩ := by decide +kernel
theorem d8_45 : decode prog_39_method_6_code 45 = .ok (.pop, 1) := by decide +kernel
theorem own_st3 {v0 v1 v2 : Value} {s3 : Slot} {x : Int32} (h : One s3) (e0 : v0.category = 1 := by rfl) (e1 : v1.category = 1 := by rfl) (e2 : v2.category = 1 := by rfl) : storeLocals #[.val v0, .val v1, .val v2, s3] 3 (.int x) = some #[.val v0, .val v1, .val v2, .val (.int x)] := by
  rcases h with rfl | ⟨w, rfl, hw⟩
  · cases v2 <;> first | rfl | (simp [Value.category] at e2)
  · cases v2 <;> cases w <;> first | rfl | (simp [Value.category] at e2 hw)
set_option maxRecDepth 65536 in
set_option maxHeartbeats 40000000 in
theorem dgloop {l : Launch} {Z : State} {a0 : Array Value} (hw : ∀ d ∈ tables_1, d.before a0 Z = true) {p : Program} {e : Env} {s : State} {m : MethodId} {args : Array Value} {below : List Frame} {meth : Method} {c : Code} {Q : Option Value → Vm → Heap → List Loc → Prop} {ms : List Addr} {h0 : Heap} {n0 nb : Nat} (hb0 : n0 ≤ nb) (hnb : nb ≤ h0.size) (zc : Int32) (S_C : Sta Z Z.heap "java/lang/String" "COMPACT_STRINGS" "Z" (.int zc)) (hzc : ¬ zc = 0) (S_D : Sta Z Z.heap "java/lang/StringUTF16" "$assertionsDisabled" "Z" (.int 1)) (S_H : Sta Z Z.heap "java/lang/StringUTF16" "HI_BYTE_SHIFT" "I" (.int 0)) (S_L : Sta Z Z.heap "java/lang/StringUTF16" "LO_BYTE_SHIFT" "I" (.int 8)) (fs : Value) (hfs : fs = .null ∨ ∃ a, fs = .ref a) (S_F : Sta Z Z.heap "jdk/internal/util/Preconditions" "SIOOBE_FORMATTER" "Ljava/util/function/BiFunction;" fs) (s1 t1 a1 v1 : Addr) (k1 kv : ClassId) (cs : List Int32) (cd : Int32) (bb : List Int32) (hso : StrOf cs cd bb) (hn : cs.length ≤ 5) (hr : ∀ x ∈ cs, rng16 x) (ne1 : s1 ≠ a1) (ne2 : s1 ≠ v1) (ne3 : t1 ≠ a1) (ne4 : t1 ≠ v1) (nea : a1 ≠ v1) (fr_a1 : nb ≤ a1) (fr_v1 : nb ≤ v1)
    (hQ : ∀ vm h L r t k, h0.size ≤ r → h0.size ≤ t → Keep h0 h [a1, v1] → Fr nb L → Exa Z h r "java/lang/String" → Fld Z h r "java/lang/String" "value" "[B" (.ref t) → Fld Z h r "java/lang/String" "coder" "B" (.int 0) → Arv Z h t k .byte (Int32.ofNat (dgs cs).length) ((dgs cs).map Value.int) (.int 0) → Q (some (.ref r)) vm h L) :
    ∀ (r i : Nat), i + r = cs.length → ∀ (bs : List Int32), bs = dgs (cs.take i) → ∀ (b T : State) (h : Heap) (locs : List Loc) (s3 : Slot), One s3 → Cx Z p b m meth c "com/example/goldspan/goldspan/rules/Text" prog_39_method_6_code 4 "digits" (some (.object "java/lang/String")) → Stand p l e ({ frames := 6, cells := 4, slots := 18, locals := 113 } : Room) b m args below meth c T locs 2 9 → T.heap = h → Old Z n0 h → Fr nb locs → Keep h0 h [a1, v1] → Hd Z (v1 :: a1 :: ms) b.vm h → Bs s b h → Exa Z h s1 "java/lang/String" → Fld Z h s1 "java/lang/String" "value" "[B" (.ref t1) → Fld Z h s1 "java/lang/String" "coder" "B" (.int cd) → Arv Z h t1 k1 .byte (Int32.ofNat bb.length) (bb.map Value.int) (.int 0) → Exa Z h a1 "java/lang/StringBuilder" → Fld Z h a1 "java/lang/AbstractStringBuilder" "value" "[B" (.ref v1) → Fld Z h a1 "java/lang/AbstractStringBuilder" "coder" "B" (.int 0) → Fld Z h a1 "java/lang/AbstractStringBuilder" "count" "I" (.int (Int32.ofNat bs.length)) → Arv Z h v1 kv .byte (Int32.ofNat cs.length) (bs.map Value.int) (.int 0) → Exa Z h v1 "[B" →
      Go p e s below 4 18 (Hd Z ms) Q T (mkF m 14 #[.val (.ref s1), .val (.ref a1), .val (.int (Int32.ofNat i)), s3] []) := by
  intro r
  induction r with
  | zero =>
    intro i hi bs hbs b T h locs s3 one3 Cc X eT O0 N0 K0 J0 B0 Es1 Fv1 Fc1 V1 Ea1 Gv Gc Gn W1 Ev
    have hlb : bs.length ≤ i := by rw [hbs]; exact dgs_le ..
    have hb0K : ∀ {h1 : Heap} {x : Addr}, h0.size ≤ h1.size → h1.size ≤ x → h0.size ≤ x := fun a b => Nat.le_trans a b
    obtain ⟨hx, hZ, hown, hby, hml, hnm, hret, hlk⟩ := id Cc
    show Go p e s below _ _ _ _ T (mkF m 14 #[.val (.ref s1), .val (.ref a1), .val (.int (Int32.ofNat i)), s3] [])
    refine Go.of (fun _ hr => XS.iloadN X.here hx rfl (hb hby d8_14) rfl  hr) ?_
    show Go p e s below _ _ _ _ T (mkF m 15 #[.val (.ref s1), .val (.ref a1), .val (.int (Int32.ofNat i)), s3] [(.int (Int32.ofNat i))])
    refine Go.of (fun _ hr => XS.aloadN X.here hx rfl (hb hby d8_15) rfl rfl hr) ?_
    show Go p e s below _ _ _ _ T (mkF m 16 #[.val (.ref s1), .val (.ref a1), .val (.int (Int32.ofNat i)), s3] [(.ref s1), (.int (Int32.ofNat i))])
    obtain ⟨_, b101, T101, h101, L101, e101, Cc101, X101, B101, J101, g101, hQ101, st101⟩ := own_callV Cc B0 J0 X (hw _ (List.mem_of_getElem? (i := 42) rfl)) (hw _ (List.mem_of_getElem? (i := 43) rfl)) (notFace_of_selects (args := #[]) (mvT hZ (hw _ (List.mem_of_getElem? (i := 45) rfl)))) (hw _ (List.mem_of_getElem? (i := 45) rfl)) (hw _ (List.mem_of_getElem? (i := 44) rfl)) (hw _ (List.mem_of_getElem? (i := 8) rfl)) (hw _ (List.mem_of_getElem? (i := 46) rfl)) (by decide) Es1 (rm9 l Z a0 hw [] s1 t1 _ cs cd bb zc _ h n0 O0 h0.size (Nat.le_trans hb0 hnb) K0.1 Es1 Fv1 Fc1 hso V1 hn hr S_C hzc) eT (g := (mkF m 16 #[.val (.ref s1), .val (.ref a1), .val (.int (Int32.ofNat i)), s3] [(.ref s1), (.int (Int32.ofNat i))])) rfl (by rw [hml]; rfl) (argsL := []) (rest := [(.int (Int32.ofNat i))]) (lenOf pd17 rfl) rfl (W := 1) (by show 2 * 0 + _ ≤ _; exact Nat.le_of_eq rfl) (hb hby d8_16) (by decide) (by decide) (by decide) (by decide)
    obtain ⟨rfl, Nq101, hh101⟩ := hQ101
    have N101 := Fr.app N0 (show Fr nb _ from fun y hy => Nat.le_trans hnb (Nq101 y hy))
    obtain ⟨hx, hZ, hown, hby, hml, hnm, hret, hlk⟩ := id Cc101
    rw [hh101] at e101 B101 J101
    refine Go.of st101 ?_
    show Go p e s below _ _ _ _ T101 (mkF m 19 #[.val (.ref s1), .val (.ref a1), .val (.int (Int32.ofNat i)), s3] [(.int (Int32.ofNat cs.length)), (.int (Int32.ofNat i))])
    refine Go.of (fun _ hr => XS.icmpYes X101.here hx rfl (pc0 := 19) (pc' := 52) rfl (hb hby d8_19) rfl (flt (oi_nlt (by omega) (by omega) (by omega))).2.1 (by decide) (by decide) hr) ?_
    show Go p e s below _ _ _ _ T101 (mkF m 52 #[.val (.ref s1), .val (.ref a1), .val (.int (Int32.ofNat i)), s3] [])
    refine Go.of (fun _ hr => XS.aloadN X101.here hx rfl (hb hby d8_52) rfl rfl hr) ?_
    show Go p e s below _ _ _ _ T101 (mkF m 53 #[.val (.ref s1), .val (.ref a1), .val (.int (Int32.ofNat i)), s3] [(.ref a1)])
    obtain ⟨_, b102, T102, h102, L102, e102, Cc102, X102, B102, J102, g102, hQ102, st102⟩ := own_callV Cc101 B101 J101 X101 (hw _ (List.mem_of_getElem? (i := 89) rfl)) (hw _ (List.mem_of_getElem? (i := 90) rfl)) (notFace_of_selects (args := #[]) (mvT hZ (hw _ (List.mem_of_getElem? (i := 92) rfl)))) (hw _ (List.mem_of_getElem? (i := 92) rfl)) (hw _ (List.mem_of_getElem? (i := 91) rfl)) (hw _ (List.mem_of_getElem? (i := 41) rfl)) (hw _ (List.mem_of_getElem? (i := 93) rfl)) (by decide) Ea1 (rm18 l Z a0 hw [] a1 v1 _ bs cs.length zc _ h n0 O0 h0.size (Nat.le_trans hb0 hnb) K0.1 Ea1 Gv Gc Gn W1 Ev hn (by omega) S_C hzc) e101 (g := (mkF m 53 #[.val (.ref s1), .val (.ref a1), .val (.int (Int32.ofNat i)), s3] [(.ref a1)])) rfl (by rw [hml]; rfl) (argsL := []) (rest := []) (lenOf pd23 rfl) rfl (W := 0) (by show 2 * 0 + _ ≤ _; exact Nat.le_of_eq rfl) (hb hby d8_53) (by decide) (by decide) (by decide) (by decide)
    obtain ⟨r102, t102, kt102, rfl, Nq102, Eq102, R_r102, R_t102, Er102, Fv102, Fc102, Vt102⟩ := hQ102
    have N102 := Fr.app N101 (show Fr nb _ from fun y hy => Nat.le_trans hnb (Nq102 y hy))
    obtain ⟨hx, hZ, hown, hby, hml, hnm, hret, hlk⟩ := id Cc102
    have sz_r102 : h0.size ≤ r102 := Nat.le_trans K0.1 R_r102
    have fr_r102 : nb ≤ r102 := Nat.le_trans hnb sz_r102
    have ne_s1_r102 : s1 ≠ r102 := Nat.ne_of_lt (Nat.lt_of_lt_of_le Es1.lt R_r102)
    have ne_t1_r102 : t1 ≠ r102 := Nat.ne_of_lt (Nat.lt_of_lt_of_le V1.lt R_r102)
    have ne_a1_r102 : a1 ≠ r102 := Nat.ne_of_lt (Nat.lt_of_lt_of_le Ea1.lt R_r102)
    have ne_v1_r102 : v1 ≠ r102 := Nat.ne_of_lt (Nat.lt_of_lt_of_le W1.lt R_r102)
    have sz_t102 : h0.size ≤ t102 := Nat.le_trans K0.1 R_t102
    have fr_t102 : nb ≤ t102 := Nat.le_trans hnb sz_t102
    have ne_s1_t102 : s1 ≠ t102 := Nat.ne_of_lt (Nat.lt_of_lt_of_le Es1.lt R_t102)
    have ne_t1_t102 : t1 ≠ t102 := Nat.ne_of_lt (Nat.lt_of_lt_of_le V1.lt R_t102)
    have ne_a1_t102 : a1 ≠ t102 := Nat.ne_of_lt (Nat.lt_of_lt_of_le Ea1.lt R_t102)
    have ne_v1_t102 : v1 ≠ t102 := Nat.ne_of_lt (Nat.lt_of_lt_of_le W1.lt R_t102)
    have K102 := K0.ext Eq102
    have O102 := O0.ext Eq102
    refine Go.of st102 ?_
    show Go p e s below _ _ _ _ T102 (mkF m 56 #[.val (.ref s1), .val (.ref a1), .val (.int (Int32.ofNat i)), s3] [(.ref r102)])
    exact Go.retA X102 hx hlk B102 (J102.sub fun x hx => (List.mem_cons_of_mem _ (List.mem_cons_of_mem _ hx))) e102 hret rfl rfl (hb hby d8_56) (by decide) (by decide) (fun vm_ hw_ => hQ _ _ _ r102 t102 _ (hb0K K0.1 R_r102) (hb0K K0.1 R_t102) K102 N102 Er102 Fv102 Fc102 (by have q := Vt102; rw [hbs, show i = cs.length by omega, List.take_length] at q; exact q))
  | succ r ih =>
    intro i hi bs hbs b T h locs s3 one3 Cc X eT O0 N0 K0 J0 B0 Es1 Fv1 Fc1 V1 Ea1 Gv Gc Gn W1 Ev
    have hlb : bs.length ≤ i := by rw [hbs]; exact dgs_le ..
    obtain ⟨hx, hZ, hown, hby, hml, hnm, hret, hlk⟩ := id Cc
    show Go p e s below _ _ _ _ T (mkF m 14 #[.val (.ref s1), .val (.ref a1), .val (.int (Int32.ofNat i)), s3] [])
    refine Go.of (fun _ hr => XS.iloadN X.here hx rfl (hb hby d8_14) rfl  hr) ?_
    show Go p e s below _ _ _ _ T (mkF m 15 #[.val (.ref s1), .val (.ref a1), .val (.int (Int32.ofNat i)), s3] [(.int (Int32.ofNat i))])
    refine Go.of (fun _ hr => XS.aloadN X.here hx rfl (hb hby d8_15) rfl rfl hr) ?_
    show Go p e s below _ _ _ _ T (mkF m 16 #[.val (.ref s1), .val (.ref a1), .val (.int (Int32.ofNat i)), s3] [(.ref s1), (.int (Int32.ofNat i))])
    obtain ⟨_, b103, T103, h103, L103, e103, Cc103, X103, B103, J103, g103, hQ103, st103⟩ := own_callV Cc B0 J0 X (hw _ (List.mem_of_getElem? (i := 42) rfl)) (hw _ (List.mem_of_getElem? (i := 43) rfl)) (notFace_of_selects (args := #[]) (mvT hZ (hw _ (List.mem_of_getElem? (i := 45) rfl)))) (hw _ (List.mem_of_getElem? (i := 45) rfl)) (hw _ (List.mem_of_getElem? (i := 44) rfl)) (hw _ (List.mem_of_getElem? (i := 8) rfl)) (hw _ (List.mem_of_getElem? (i := 46) rfl)) (by decide) Es1 (rm9 l Z a0 hw [] s1 t1 _ cs cd bb zc _ h n0 O0 h0.size (Nat.le_trans hb0 hnb) K0.1 Es1 Fv1 Fc1 hso V1 hn hr S_C hzc) eT (g := (mkF m 16 #[.val (.ref s1), .val (.ref a1), .val (.int (Int32.ofNat i)), s3] [(.ref s1), (.int (Int32.ofNat i))])) rfl (by rw [hml]; rfl) (argsL := []) (rest := [(.int (Int32.ofNat i))]) (lenOf pd17 rfl) rfl (W := 1) (by show 2 * 0 + _ ≤ _; exact Nat.le_of_eq rfl) (hb hby d8_16) (by decide) (by decide) (by decide) (by decide)
    obtain ⟨rfl, Nq103, hh103⟩ := hQ103
    have N103 := Fr.app N0 (show Fr nb _ from fun y hy => Nat.le_trans hnb (Nq103 y hy))
    obtain ⟨hx, hZ, hown, hby, hml, hnm, hret, hlk⟩ := id Cc103
    rw [hh103] at e103 B103 J103
    refine Go.of st103 ?_
    show Go p e s below _ _ _ _ T103 (mkF m 19 #[.val (.ref s1), .val (.ref a1), .val (.int (Int32.ofNat i)), s3] [(.int (Int32.ofNat cs.length)), (.int (Int32.ofNat i))])
    refine Go.of (fun _ hr => XS.icmpNo X103.here hx rfl (hb hby d8_19) rfl (tlt (oi_lt (by omega) (by omega) (by omega))).2.1 hr) ?_
    show Go p e s below _ _ _ _ T103 (mkF m 22 #[.val (.ref s1), .val (.ref a1), .val (.int (Int32.ofNat i)), s3] [])
    refine Go.of (fun _ hr => XS.aloadN X103.here hx rfl (hb hby d8_22) rfl rfl hr) ?_
    show Go p e s below _ _ _ _ T103 (mkF m 23 #[.val (.ref s1), .val (.ref a1), .val (.int (Int32.ofNat i)), s3] [(.ref s1)])
    refine Go.of (fun _ hr => XS.iloadN X103.here hx rfl (hb hby d8_23) rfl  hr) ?_
    show Go p e s below _ _ _ _ T103 (mkF m 24 #[.val (.ref s1), .val (.ref a1), .val (.int (Int32.ofNat i)), s3] [(.int (Int32.ofNat i)), (.ref s1)])
    obtain ⟨_, b104, T104, h104, L104, e104, Cc104, X104, B104, J104, g104, hQ104, st104⟩ := own_callV Cc103 B103 J103 X103 (hw _ (List.mem_of_getElem? (i := 67) rfl)) (hw _ (List.mem_of_getElem? (i := 68) rfl)) (notFace_of_selects (args := #[]) (mvT hZ (hw _ (List.mem_of_getElem? (i := 70) rfl)))) (hw _ (List.mem_of_getElem? (i := 70) rfl)) (hw _ (List.mem_of_getElem? (i := 69) rfl)) (hw _ (List.mem_of_getElem? (i := 8) rfl)) (hw _ (List.mem_of_getElem? (i := 71) rfl)) (by decide) Es1 (rm13 l Z a0 hw [] s1 t1 _ cs cd bb i zc _ h n0 O0 h0.size (Nat.le_trans hb0 hnb) K0.1 fs hfs S_F S_D S_H S_L Es1 Fv1 Fc1 hso V1 hn hr (show i < cs.length by omega) S_C hzc) e103 (g := (mkF m 24 #[.val (.ref s1), .val (.ref a1), .val (.int (Int32.ofNat i)), s3] [(.int (Int32.ofNat i)), (.ref s1)])) rfl (by rw [hml]; rfl) (argsL := [(.int (Int32.ofNat i))]) (rest := []) (lenOf pd24 rfl) rfl (W := 0) (by show 2 * 0 + _ ≤ _; exact Nat.le_of_eq rfl) (hb hby d8_24) (by decide) (by decide) (by decide) (by decide)
    obtain ⟨rfl, Nq104, hh104⟩ := hQ104
    have N104 := Fr.app N103 (show Fr nb _ from fun y hy => Nat.le_trans hnb (Nq104 y hy))
    obtain ⟨hx, hZ, hown, hby, hml, hnm, hret, hlk⟩ := id Cc104
    rw [hh104] at e104 B104 J104
    refine Go.of st104 ?_
    show Go p e s below _ _ _ _ T104 (mkF m 27 #[.val (.ref s1), .val (.ref a1), .val (.int (Int32.ofNat i)), s3] [(.int (cs.getD i 0))])
    refine Go.of (fun _ hr => XS.istoreN X104.here hx rfl (hb hby d8_27) rfl (l' := #[.val (.ref s1), .val (.ref a1), .val (.int (Int32.ofNat i)), .val (.int (cs.getD i 0))]) (own_st3 one3) hr) ?_
    show Go p e s below _ _ _ _ T104 (mkF m 28 #[.val (.ref s1), .val (.ref a1), .val (.int (Int32.ofNat i)), .val (.int (cs.getD i 0))] [])
    refine Go.of (fun _ hr => XS.iloadN X104.here hx rfl (hb hby d8_28) rfl  hr) ?_
    show Go p e s below _ _ _ _ T104 (mkF m 29 #[.val (.ref s1), .val (.ref a1), .val (.int (Int32.ofNat i)), .val (.int (cs.getD i 0))] [(.int (cs.getD i 0))])
    refine Go.of (fun _ hr => XS.bipush X104.here hx rfl (hb hby d8_29) hr) ?_
    show Go p e s below _ _ _ _ T104 (mkF m 31 #[.val (.ref s1), .val (.ref a1), .val (.int (Int32.ofNat i)), .val (.int (cs.getD i 0))] [(.int (48 : Int32)), (.int (cs.getD i 0))])
    by_cases hb31_105 : (cs.getD i 0) < (48 : Int32)
    · refine Go.of (fun _ hr => XS.icmpYes X104.here hx rfl (pc0 := 31) (pc' := 46) rfl (hb hby d8_31) rfl (tlt hb31_105).1 (by decide) (by decide) hr) ?_
      show Go p e s below _ _ _ _ T104 (mkF m 46 #[.val (.ref s1), .val (.ref a1), .val (.int (Int32.ofNat i)), .val (.int (cs.getD i 0))] [])
      refine Go.of (fun _ hr => XS.iinc X104.here hx rfl (hb hby d8_46) rfl (l' := #[.val (.ref s1), .val (.ref a1), .val (.int ((Int32.ofNat i) + (1 : Int32))), .val (.int (cs.getD i 0))]) rfl hr) ?_
      show Go p e s below _ _ _ _ T104 (mkF m 49 #[.val (.ref s1), .val (.ref a1), .val (.int ((Int32.ofNat i) + (1 : Int32))), .val (.int (cs.getD i 0))] [])
      refine Go.of (fun _ hr => XS.goto X104.here hx rfl (pc0 := 49) (pc' := 14) rfl (hb hby d8_49) (by decide) (by decide) hr) ?_
      show Go p e s below _ _ _ _ T104 (mkF m 14 #[.val (.ref s1), .val (.ref a1), .val (.int ((Int32.ofNat i) + (1 : Int32))), .val (.int (cs.getD i 0))] [])
      simp only [oi_succ (show i + 1 < 2147483648 by omega)]
      exact ih (i + 1) (by omega) bs (hbs.trans (dgs_no (by omega) (fun z => z.1 hb31_105)).symm) _ T104 h _ _ (One.val rfl) Cc104 X104 e104 O0 N104 K0 J104 B104 Es1 Fv1 Fc1 V1 Ea1 Gv Gc Gn W1 Ev
    · refine Go.of (fun _ hr => XS.icmpNo X104.here hx rfl (hb hby d8_31) rfl (flt hb31_105).1 hr) ?_
      show Go p e s below _ _ _ _ T104 (mkF m 34 #[.val (.ref s1), .val (.ref a1), .val (.int (Int32.ofNat i)), .val (.int (cs.getD i 0))] [])
      refine Go.of (fun _ hr => XS.iloadN X104.here hx rfl (hb hby d8_34) rfl  hr) ?_
      show Go p e s below _ _ _ _ T104 (mkF m 35 #[.val (.ref s1), .val (.ref a1), .val (.int (Int32.ofNat i)), .val (.int (cs.getD i 0))] [(.int (cs.getD i 0))])
      refine Go.of (fun _ hr => XS.bipush X104.here hx rfl (hb hby d8_35) hr) ?_
      show Go p e s below _ _ _ _ T104 (mkF m 37 #[.val (.ref s1), .val (.ref a1), .val (.int (Int32.ofNat i)), .val (.int (cs.getD i 0))] [(.int (57 : Int32)), (.int (cs.getD i 0))])
      by_cases hb37_106 : (57 : Int32) < (cs.getD i 0)
      · refine Go.of (fun _ hr => XS.icmpYes X104.here hx rfl (pc0 := 37) (pc' := 46) rfl (hb hby d8_37) rfl (tlt hb37_106).2.2.1 (by decide) (by decide) hr) ?_
        show Go p e s below _ _ _ _ T104 (mkF m 46 #[.val (.ref s1), .val (.ref a1), .val (.int (Int32.ofNat i)), .val (.int (cs.getD i 0))] [])
        refine Go.of (fun _ hr => XS.iinc X104.here hx rfl (hb hby d8_46) rfl (l' := #[.val (.ref s1), .val (.ref a1), .val (.int ((Int32.ofNat i) + (1 : Int32))), .val (.int (cs.getD i 0))]) rfl hr) ?_
        show Go p e s below _ _ _ _ T104 (mkF m 49 #[.val (.ref s1), .val (.ref a1), .val (.int ((Int32.ofNat i) + (1 : Int32))), .val (.int (cs.getD i 0))] [])
        refine Go.of (fun _ hr => XS.goto X104.here hx rfl (pc0 := 49) (pc' := 14) rfl (hb hby d8_49) (by decide) (by decide) hr) ?_
        show Go p e s below _ _ _ _ T104 (mkF m 14 #[.val (.ref s1), .val (.ref a1), .val (.int ((Int32.ofNat i) + (1 : Int32))), .val (.int (cs.getD i 0))] [])
        simp only [oi_succ (show i + 1 < 2147483648 by omega)]
        exact ih (i + 1) (by omega) bs (hbs.trans (dgs_no (by omega) (fun z => z.2 hb37_106)).symm) _ T104 h _ _ (One.val rfl) Cc104 X104 e104 O0 N104 K0 J104 B104 Es1 Fv1 Fc1 V1 Ea1 Gv Gc Gn W1 Ev
      · refine Go.of (fun _ hr => XS.icmpNo X104.here hx rfl (hb hby d8_37) rfl (flt hb37_106).2.2.1 hr) ?_
        show Go p e s below _ _ _ _ T104 (mkF m 40 #[.val (.ref s1), .val (.ref a1), .val (.int (Int32.ofNat i)), .val (.int (cs.getD i 0))] [])
        refine Go.of (fun _ hr => XS.aloadN X104.here hx rfl (hb hby d8_40) rfl rfl hr) ?_
        show Go p e s below _ _ _ _ T104 (mkF m 41 #[.val (.ref s1), .val (.ref a1), .val (.int (Int32.ofNat i)), .val (.int (cs.getD i 0))] [(.ref a1)])
        refine Go.of (fun _ hr => XS.iloadN X104.here hx rfl (hb hby d8_41) rfl  hr) ?_
        show Go p e s below _ _ _ _ T104 (mkF m 42 #[.val (.ref s1), .val (.ref a1), .val (.int (Int32.ofNat i)), .val (.int (cs.getD i 0))] [(.int (cs.getD i 0)), (.ref a1)])
        obtain ⟨_, b107, T107, h107, L107, e107, Cc107, X107, B107, J107, g107, hQ107, st107⟩ := own_callV Cc104 B104 J104 X104 (hw _ (List.mem_of_getElem? (i := 182) rfl)) (hw _ (List.mem_of_getElem? (i := 183) rfl)) (notFace_of_selects (args := #[]) (mvT hZ (hw _ (List.mem_of_getElem? (i := 185) rfl)))) (hw _ (List.mem_of_getElem? (i := 185) rfl)) (hw _ (List.mem_of_getElem? (i := 184) rfl)) (hw _ (List.mem_of_getElem? (i := 41) rfl)) (hw _ (List.mem_of_getElem? (i := 186) rfl)) (by decide) Ea1 (rm37 l Z a0 hw [] a1 v1 _ bs cs.length (cs.getD i 0) zc _ h n0 O0 nb hb0 (Nat.le_trans hnb K0.1) fr_a1 (List.mem_cons_of_mem _ (List.mem_cons_self ..)) fr_v1 (List.mem_cons_self ..) Ea1 Gv Gc Gn W1 Ev hn (by omega) (by omega) (dig_le ⟨hb31_105, hb37_106⟩) nea S_C hzc) e104 (g := (mkF m 42 #[.val (.ref s1), .val (.ref a1), .val (.int (Int32.ofNat i)), .val (.int (cs.getD i 0))] [(.int (cs.getD i 0)), (.ref a1)])) rfl (by rw [hml]; rfl) (argsL := [(.int (cs.getD i 0))]) (rest := []) (lenOf pd25 rfl) rfl (W := 0) (by show 2 * 0 + _ ≤ _; exact Nat.le_of_eq rfl) (hb hby d8_42) (by decide) (by decide) (by decide) (by decide)
        obtain ⟨rfl, Nq107, Kq107, Gv107, Gc107, Gn107, Wv107⟩ := hQ107
        have N107 := Fr.app N104 Nq107
        obtain ⟨hx, hZ, hown, hby, hml, hnm, hret, hlk⟩ := id Cc107
        have K107 := K0.trans Kq107 (allS (Or.inl (List.mem_of_getElem? (i := 0) rfl)) (allS (Or.inl (List.mem_of_getElem? (i := 1) rfl)) all0))
        have O107 := O0.keep Kq107 (allS (Nat.le_trans hb0 fr_a1) (allS (Nat.le_trans hb0 fr_v1) all0))
        refine Go.of st107 ?_
        show Go p e s below _ _ _ _ T107 (mkF m 45 #[.val (.ref s1), .val (.ref a1), .val (.int (Int32.ofNat i)), .val (.int (cs.getD i 0))] [(.ref a1)])
        refine Go.of (fun _ hr => XS.pop X107.here hx rfl (hb hby d8_45) rfl rfl hr) ?_
        show Go p e s below _ _ _ _ T107 (mkF m 46 #[.val (.ref s1), .val (.ref a1), .val (.int (Int32.ofNat i)), .val (.int (cs.getD i 0))] [])
        refine Go.of (fun _ hr => XS.iinc X107.here hx rfl (hb hby d8_46) rfl (l' := #[.val (.ref s1), .val (.ref a1), .val (.int ((Int32.ofNat i) + (1 : Int32))), .val (.int (cs.getD i 0))]) rfl hr) ?_
        show Go p e s below _ _ _ _ T107 (mkF m 49 #[.val (.ref s1), .val (.ref a1), .val (.int ((Int32.ofNat i) + (1 : Int32))), .val (.int (cs.getD i 0))] [])
        refine Go.of (fun _ hr => XS.goto X107.here hx rfl (pc0 := 49) (pc' := 14) rfl (hb hby d8_49) (by decide) (by decide) hr) ?_
        show Go p e s below _ _ _ _ T107 (mkF m 14 #[.val (.ref s1), .val (.ref a1), .val (.int ((Int32.ofNat i) + (1 : Int32))), .val (.int (cs.getD i 0))] [])
        simp only [oi_succ (show i + 1 < 2147483648 by omega)]
        have f108 := (Es1.keep Kq107)
        have f109 := (Fv1.keep Kq107 (ninS ne1 (ninS ne2 nin0)))
        have f110 := (Fc1.keep Kq107 (ninS ne1 (ninS ne2 nin0)))
        have f111 := (V1.keep Kq107 (ninS ne3 (ninS ne4 nin0)))
        have f112 := (Ea1.keep Kq107)
        have f113 := (Ev.keep Kq107)
        exact ih (i + 1) (by omega) (bs ++ [lo8 (cs.getD i 0)]) (by rw [hbs]; exact (dgs_yes (by omega) ⟨hb31_105, hb37_106⟩).symm) _ T107 h107 _ _ (One.val rfl) Cc107 X107 e107 O107 N107 K107 J107 B107 f108 f109 f110 f111 f112 Gv107 Gc107 Gn107 Wv107 f113

theorem pn8 : plainName "com/example/goldspan/goldspan/rules/Text" = true := by first | (simp [plainName, overriddenIn]; done) | decide +kernel
theorem d8_0 : decode prog_39_method_6_code 0 = .ok (.new 28, 3) := by decide +kernel
theorem d8_3 : decode prog_39_method_6_code 3 = .ok (.dup, 1) := by decide +kernel
theorem d8_4 : decode prog_39_method_6_code 4 = .ok (.aload_n 0, 1) := by decide +kernel
theorem d8_5 : decode prog_39_method_6_code 5 = .ok (.invokevirtual 30, 3) := by decide +kernel
theorem d8_8 : decode prog_39_method_6_code 8 = .ok (.invokespecial 36, 3) := by decide +kernel
theorem d8_11 : decode prog_39_method_6_code 11 = .ok (.astore_n 1, 1) := by decide +kernel
theorem d8_12 : decode prog_39_method_6_code 12 = .ok (.iconst 0, 1) := by decide +kernel
theorem d8_13 : decode prog_39_method_6_code 13 = .ok (.istore_n 2, 1) := by decide +kernel
set_option maxRecDepth 65536 in
set_option maxHeartbeats 40000000 in
theorem rm8 (l : Launch) (Z : State) (a0 : Array Value) (hw : ∀ d ∈ tables_1, d.before a0 Z = true) (ws : List Jvm.Cond) (s1 t1 : Addr) (k1 : ClassId) (cs : List Int32) (cd : Int32) (bb : List Int32) (zc : Int32) (ms : List Addr) (h0 : Heap) (n0 : Nat) (O0 : Old Z n0 h0) (nb : Nat) (hb0 : n0 ≤ nb) (hnb : nb ≤ h0.size) (fs : Value) (hfs : fs = .null ∨ ∃ a, fs = .ref a) (S_F : Sta Z Z.heap "jdk/internal/util/Preconditions" "SIOOBE_FORMATTER" "Ljava/util/function/BiFunction;" fs) (S_D : Sta Z Z.heap "java/lang/StringUTF16" "$assertionsDisabled" "Z" (.int 1)) (S_H : Sta Z Z.heap "java/lang/StringUTF16" "HI_BYTE_SHIFT" "I" (.int 0)) (S_L : Sta Z Z.heap "java/lang/StringUTF16" "LO_BYTE_SHIFT" "I" (.int 8)) (Es1 : Exa Z h0 s1 "java/lang/String") (Fv1 : Fld Z h0 s1 "java/lang/String" "value" "[B" (.ref t1)) (Fc1 : Fld Z h0 s1 "java/lang/String" "coder" "B" (.int cd)) (hso : StrOf cs cd bb) (V1 : Arv Z h0 t1 k1 .byte (Int32.ofNat bb.length) (bb.map Value.int) (.int 0)) (hn : cs.length ≤ 5) (hr : ∀ x ∈ cs, rng16 x) (S_C : Sta Z Z.heap "java/lang/String" "COMPACT_STRINGS" "Z" (.int zc)) (hzc : ¬ zc = 0) :
    Con l Z ms (⟨"com/example/goldspan/goldspan/rules/Text", "digits", "(Ljava/lang/String;)Ljava/lang/String;"⟩ : MethodName) prog_39_method_6_code 4 (some (.object "java/lang/String")) ws ({ frames := 6, cells := 4, slots := 18, locals := 113 } : Room) #[(.ref s1)] h0 (fun v vm h L => ∃ r t k, v = some (.ref r) ∧ Fr nb L ∧ Ext h0 h ∧ h0.size ≤ r ∧ h0.size ≤ t ∧ Exa Z h r "java/lang/String" ∧ Fld Z h r "java/lang/String" "value" "[B" (.ref t) ∧ Fld Z h r "java/lang/String" "coder" "B" (.int 0) ∧ Arv Z h t k .byte (Int32.ofNat (dgs cs).length) ((dgs cs).map Value.int) (.int 0)) := by
  refine Con.mk (plainFor_of_name pn8) ?_
  intro p e s m below meth c s₁ Cc X0 e0 eb J0 B0 M0
  obtain ⟨hx, hZ, hown, hby, hml, hnm, hret, hlk⟩ := id Cc
  have N0 := Fr.nil h0.size
  have K0 := Keep.refl h0 []
  show Go p e s below _ _ _ _ s₁ (mkF m 0 #[.val (.ref s1), .unset, .unset, .unset] [])
  obtain ⟨T101, h101, X101, e101, E101, A101, D101, -, st101⟩ := newO X0 hx hZ hown (hw _ (List.mem_of_getElem? (i := 39) rfl)) (hw _ (List.mem_of_getElem? (i := 40) rfl)) (hw _ (List.mem_of_getElem? (i := 41) rfl)) e0 (g := (mkF m 0 #[.val (.ref s1), .unset, .unset, .unset] [])) rfl (hb hby d8_0) (by decide) (by decide)
  obtain ⟨o101, g101⟩ : ∃ z, z = h0.size := ⟨_, rfl⟩
  rw [← g101] at A101 D101 st101
  have ne_s1_o101 : s1 ≠ o101 := Nat.ne_of_lt (Nat.lt_of_lt_of_le Es1.lt (Nat.le_of_eq g101.symm))
  have ne_t1_o101 : t1 ≠ o101 := Nat.ne_of_lt (Nat.lt_of_lt_of_le V1.lt (Nat.le_of_eq g101.symm))
  have lt101 : o101 < h101.size := A101.lt
  have J101 := J0.add E101 g101 lt101
  have B101 := B0.mono E101.1
  have O101 := O0.ext E101
  have sz101 : h0.size ≤ o101 := Nat.le_trans K0.1 (Nat.le_of_eq g101.symm)
  have fr101 : h0.size ≤ o101 := sz101
  have K101 := K0.ext E101
  have F101_value : Fld Z h101 o101 "java/lang/AbstractStringBuilder" "value" "[B" .null := D101 (Or.inl (hw _ (List.mem_of_getElem? (i := 64) rfl))) (ty := (.array .byte)) (by decide)
  have F101_coder : Fld Z h101 o101 "java/lang/AbstractStringBuilder" "coder" "B" (.int (0 : Int32)) := D101 (Or.inl (hw _ (List.mem_of_getElem? (i := 66) rfl))) (ty := .byte) (by decide)
  have F101_count : Fld Z h101 o101 "java/lang/AbstractStringBuilder" "count" "I" (.int (0 : Int32)) := D101 (Or.inl (hw _ (List.mem_of_getElem? (i := 116) rfl))) (ty := .int) (by decide)
  refine Go.of (fun _ hr => st101 _ hr) ?_
  show Go p e s below _ _ _ _ T101 (mkF m 3 #[.val (.ref s1), .unset, .unset, .unset] [(.ref o101)])
  refine Go.of (fun _ hr => XS.dup X101.here hx rfl (hb hby d8_3) rfl rfl hr) ?_
  show Go p e s below _ _ _ _ T101 (mkF m 4 #[.val (.ref s1), .unset, .unset, .unset] [(.ref o101), (.ref o101)])
  refine Go.of (fun _ hr => XS.aloadN X101.here hx rfl (hb hby d8_4) rfl rfl hr) ?_
  show Go p e s below _ _ _ _ T101 (mkF m 5 #[.val (.ref s1), .unset, .unset, .unset] [(.ref s1), (.ref o101), (.ref o101)])
  have f103 := (Es1.ext E101)
  have f104 := (Fv1.ext E101)
  have f105 := (Fc1.ext E101)
  have f106 := (V1.ext E101)
  obtain ⟨_, b102, T102, h102, L102, e102, Cc102, X102, B102, J102, g102, hQ102, st102⟩ := own_callV Cc B101 J101 X101 (hw _ (List.mem_of_getElem? (i := 42) rfl)) (hw _ (List.mem_of_getElem? (i := 43) rfl)) (notFace_of_selects (args := #[]) (mvT hZ (hw _ (List.mem_of_getElem? (i := 45) rfl)))) (hw _ (List.mem_of_getElem? (i := 45) rfl)) (hw _ (List.mem_of_getElem? (i := 44) rfl)) (hw _ (List.mem_of_getElem? (i := 8) rfl)) (hw _ (List.mem_of_getElem? (i := 46) rfl)) (by decide) f103 (rm9 l Z a0 hw [] s1 t1 _ cs cd bb zc _ h101 n0 O101 h0.size (own_ole O0) K101.1 f103 f104 f105 hso f106 hn hr S_C hzc) e101 (g := (mkF m 5 #[.val (.ref s1), .unset, .unset, .unset] [(.ref s1), (.ref o101), (.ref o101)])) rfl (by rw [hml]; rfl) (argsL := []) (rest := [(.ref o101), (.ref o101)]) (lenOf pd17 rfl) rfl (W := 2) (by show 2 * 0 + _ ≤ _; exact Nat.le_of_eq rfl) (hb hby d8_5) (by decide) (by decide) (by decide) (by decide)
  obtain ⟨rfl, Nq102, hh102⟩ := hQ102
  have N102 := Fr.app N0 Nq102
  obtain ⟨hx, hZ, hown, hby, hml, hnm, hret, hlk⟩ := id Cc102
  rw [hh102] at e102 B102 J102
  refine Go.of st102 ?_
  show Go p e s below _ _ _ _ T102 (mkF m 8 #[.val (.ref s1), .unset, .unset, .unset] [(.int (Int32.ofNat cs.length)), (.ref o101), (.ref o101)])
  obtain ⟨_, b107, T107, h107, L107, e107, Cc107, X107, B107, J107, g107, hQ107, st107⟩ := own_callI Cc102 B102 J102 X102 rfl (hw _ (List.mem_of_getElem? (i := 52) rfl)) (hw _ (List.mem_of_getElem? (i := 53) rfl)) (hw _ (List.mem_of_getElem? (i := 41) rfl)) (hw _ (List.mem_of_getElem? (i := 54) rfl)) (by decide) (rm11 l Z a0 hw [] o101 _ _ cs.length zc _ h101 n0 O101 h0.size (own_ole O0) K101.1 fr101 (List.mem_cons_self ..) hn A101 F101_value F101_coder F101_count S_C hzc) e102 (g := (mkF m 8 #[.val (.ref s1), .unset, .unset, .unset] [(.int (Int32.ofNat cs.length)), (.ref o101), (.ref o101)])) rfl (by rw [hml]; rfl) (argsL := [(.int (Int32.ofNat cs.length))]) (rest := [(.ref o101)]) (lenOf pd14 rfl) rfl (W := 1) (by show 2 * 0 + _ ≤ _; exact Nat.le_of_eq rfl) (hb hby d8_8) (by decide) (by decide) (by decide) (by decide)
  obtain ⟨rfl, Nq107, Kq107, v107, kv107, R_v107, Gv107, Gc107, Gn107, W107_, Ev107, Jv107⟩ := hQ107
  have N107 := Fr.app N102 Nq107
  obtain ⟨hx, hZ, hown, hby, hml, hnm, hret, hlk⟩ := id Cc107
  have sz_v107 : h0.size ≤ v107 := Nat.le_trans K101.1 R_v107
  have fr_v107 : h0.size ≤ v107 := sz_v107
  have ne_s1_v107 : s1 ≠ v107 := Nat.ne_of_lt (Nat.lt_of_lt_of_le f103.lt R_v107)
  have ne_t1_v107 : t1 ≠ v107 := Nat.ne_of_lt (Nat.lt_of_lt_of_le f106.lt R_v107)
  have ne_o101_v107 : o101 ≠ v107 := Nat.ne_of_lt (Nat.lt_of_lt_of_le A101.lt R_v107)
  have K107 := K101.trans Kq107 (allS (Or.inr sz101) all0)
  have O107 := O101.keep Kq107 (allS (Nat.le_trans (own_ole O0) fr101) all0)
  refine Go.of st107 ?_
  show Go p e s below _ _ _ _ T107 (mkF m 11 #[.val (.ref s1), .unset, .unset, .unset] [(.ref o101)])
  refine Go.of (fun _ hr => XS.astoreN X107.here hx rfl (hb hby d8_11) rfl rfl (l' := #[.val (.ref s1), .val (.ref o101), .unset, .unset]) rfl hr) ?_
  show Go p e s below _ _ _ _ T107 (mkF m 12 #[.val (.ref s1), .val (.ref o101), .unset, .unset] [])
  refine Go.of (fun _ hr => XS.iconst X107.here hx rfl (hb hby d8_12) hr) ?_
  show Go p e s below _ _ _ _ T107 (mkF m 13 #[.val (.ref s1), .val (.ref o101), .unset, .unset] [(.int (0 : Int32))])
  refine Go.of (fun _ hr => XS.istoreN X107.here hx rfl (hb hby d8_13) rfl (l' := #[.val (.ref s1), .val (.ref o101), .val (.int (0 : Int32)), .unset]) rfl hr) ?_
  show Go p e s below _ _ _ _ T107 (mkF m 14 #[.val (.ref s1), .val (.ref o101), .val (.int (0 : Int32)), .unset] [])
  have f108 := (f103.keep Kq107)
  have f109 := (f104.keep Kq107 (ninS ne_s1_o101 nin0))
  have f110 := (f105.keep Kq107 (ninS ne_s1_o101 nin0))
  have f111 := (f106.keep Kq107 (ninS ne_t1_o101 nin0))
  have f112 := (A101.keep Kq107)
  exact dgloop hw (own_ole O0) K107.1 zc S_C hzc S_D S_H S_L fs hfs S_F s1 t1 o101 v107 k1 _ cs cd bb hso hn hr ne_s1_o101 ne_s1_v107 ne_t1_o101 ne_t1_v107 ne_o101_v107 fr101 fr_v107 (fun vm h L r t k g1 g2 q1 q2 q3 q4 q5 q6 => ⟨r, t, k, rfl, fun y hy => Nat.le_trans hnb (q2 y hy), keep_ext (K107.trans q1 (allS (Or.inr sz101) (allS (Or.inr sz_v107) all0))), Nat.le_trans K107.1 g1, Nat.le_trans K107.1 g2, q3, q4, q5, q6⟩) cs.length 0 (Nat.zero_add _) [] (dgs_nil cs).symm _ _ _ _ _ One.u Cc107 X107 e107 O107 N107 (Keep.refl _ _) Jv107 B107 f108 f109 f110 f111 f112 Gv107 Gc107 Gn107 W107_ Ev107

set_option maxRecDepth 65536 in
set_option maxHeartbeats 40000000 in
theorem law_t4 (l : Launch) (Z : State) (a0 : Array Value) (hw : ∀ d ∈ tables_1, d.before a0 Z = true) {p : Program} {e : Env} {s b T0 : State} {m : MethodId} {args : Array Value} {below : List Frame} {meth : Method} {c : Code} {locs : List Loc} {ms : List Addr} (p1 p2 p3 p4 c0 c1 c2 c3 c4 : Int32) (n : Nat) (x1 x2 s1 t1 : Addr) (k1 kw : ClassId) (ws bb : List Int32) (zc : Int32) (h0 : Heap) (n0 : Nat) (O0 : Old Z n0 h0) (nb : Nat) (hb0 : n0 ≤ nb) (hnb : nb ≤ h0.size) (fs : Value) (hfs : fs = .null ∨ ∃ a, fs = .ref a) (S_F : Sta Z Z.heap "jdk/internal/util/Preconditions" "SIOOBE_FORMATTER" "Ljava/util/function/BiFunction;" fs) (S_D : Sta Z Z.heap "java/lang/StringUTF16" "$assertionsDisabled" "Z" (.int 1)) (S_H : Sta Z Z.heap "java/lang/StringUTF16" "HI_BYTE_SHIFT" "I" (.int 0)) (S_L : Sta Z Z.heap "java/lang/StringUTF16" "LO_BYTE_SHIFT" "I" (.int 8)) (Es1 : Exa Z h0 s1 "java/lang/String") (Fv1 : Fld Z h0 s1 "java/lang/String" "value" "[B" (.ref t1)) (Fc1 : Fld Z h0 s1 "java/lang/String" "coder" "B" (.int 0)) (hso : StrOf ws 0 bb) (V1 : Arv Z h0 t1 k1 .byte (Int32.ofNat bb.length) (bb.map Value.int) (.int 0)) (hn : ws.length ≤ 5) (hr : ∀ x ∈ ws, rng16 x) (V2 : Arv Z h0 x2 kw .char (5 : Int32) (ws.map Value.int) (.int 0)) (S_C : Sta Z Z.heap "java/lang/String" "COMPACT_STRINGS" "Z" (.int zc)) (hzc : ¬ zc = 0) (Cc : Cx Z p b m meth c "com/example/goldspan/goldspan/rules/TextDigitsPinLaw" code 14 "law" ret) (X0 : Stand p l e room_1 b m args below meth c T0 locs 9 47) (e0 : T0.heap = h0) (N0 : Fr nb locs) (J0 : Hd Z (ms) b.vm h0) (B0 : Bs s b h0) :
    Go p e s below room_1.cells room_1.slots (Hd Z ms) (fun v vm h L => v = some (.int 1) ∧ Fr nb L) T0 (mkF m 334 #[.val (.int p1), .val (.int p2), .val (.int p3), .val (.int p4), .val (.int (Int32.ofNat n)), .val (.int c0), .val (.int c1), .val (.int c2), .val (.int c3), .val (.int c4), .val (.ref x1), .val (.ref x2), .val (.int (Int32.ofNat ws.length)), .val (.ref s1)] []) := by
  obtain ⟨hx, hZ, hown, hby, hml, hnm, hret, hlk⟩ := id Cc
  have K0 := Keep.refl h0 []
  show Go p e s below _ _ _ _ T0 (mkF m 334 #[.val (.int p1), .val (.int p2), .val (.int p3), .val (.int p4), .val (.int (Int32.ofNat n)), .val (.int c0), .val (.int c1), .val (.int c2), .val (.int c3), .val (.int c4), .val (.ref x1), .val (.ref x2), .val (.int (Int32.ofNat ws.length)), .val (.ref s1)] [])
  refine Go.of (fun _ hr => XS.iload X0.here hx rfl (hb hby at_334) rfl  hr) ?_
  show Go p e s below _ _ _ _ T0 (mkF m 336 #[.val (.int p1), .val (.int p2), .val (.int p3), .val (.int p4), .val (.int (Int32.ofNat n)), .val (.int c0), .val (.int c1), .val (.int c2), .val (.int c3), .val (.int c4), .val (.ref x1), .val (.ref x2), .val (.int (Int32.ofNat ws.length)), .val (.ref s1)] [(.int (Int32.ofNat ws.length))])
  refine Go.of (fun _ hr => XS.iconst X0.here hx rfl (hb hby at_336) hr) ?_
  show Go p e s below _ _ _ _ T0 (mkF m 337 #[.val (.int p1), .val (.int p2), .val (.int p3), .val (.int p4), .val (.int (Int32.ofNat n)), .val (.int c0), .val (.int c1), .val (.int c2), .val (.int c3), .val (.int c4), .val (.ref x1), .val (.ref x2), .val (.int (Int32.ofNat ws.length)), .val (.ref s1)] [(.int (5 : Int32)), (.int (Int32.ofNat ws.length))])
  by_cases hb337_101 : (Int32.ofNat ws.length) < (5 : Int32)
  · refine Go.of (fun _ hr => XS.icmpYes X0.here hx rfl (pc0 := 337) (pc' := 353) rfl (hb hby at_337) rfl (tlt hb337_101).1 (by decide) (by decide) hr) ?_
    show Go p e s below _ _ _ _ T0 (mkF m 353 #[.val (.int p1), .val (.int p2), .val (.int p3), .val (.int p4), .val (.int (Int32.ofNat n)), .val (.int c0), .val (.int c1), .val (.int c2), .val (.int c3), .val (.int c4), .val (.ref x1), .val (.ref x2), .val (.int (Int32.ofNat ws.length)), .val (.ref s1)] [])
    refine Go.of (fun _ hr => XS.iconst X0.here hx rfl (hb hby at_353) hr) ?_
    show Go p e s below _ _ _ _ T0 (mkF m 354 #[.val (.int p1), .val (.int p2), .val (.int p3), .val (.int p4), .val (.int (Int32.ofNat n)), .val (.int c0), .val (.int c1), .val (.int c2), .val (.int c3), .val (.int c4), .val (.ref x1), .val (.ref x2), .val (.int (Int32.ofNat ws.length)), .val (.ref s1)] [(.int (1 : Int32))])
    refine Go.of (fun _ hr => XS.goto X0.here hx rfl (pc0 := 354) (pc' := 358) rfl (hb hby at_354) (by decide) (by decide) hr) ?_
    show Go p e s below _ _ _ _ T0 (mkF m 358 #[.val (.int p1), .val (.int p2), .val (.int p3), .val (.int p4), .val (.int (Int32.ofNat n)), .val (.int c0), .val (.int c1), .val (.int c2), .val (.int c3), .val (.int c4), .val (.ref x1), .val (.ref x2), .val (.int (Int32.ofNat ws.length)), .val (.ref s1)] [(.int (1 : Int32))])
    exact Go.retN X0 hx hlk B0 J0 e0 (t := .boolean) (z' := (1 : Int32)) hret (by simp) (hb hby at_358) rfl (by decide) (by decide) (fun vm_ hw_ => ⟨rfl, N0⟩)
  · refine Go.of (fun _ hr => XS.icmpNo X0.here hx rfl (hb hby at_337) rfl (flt hb337_101).1 hr) ?_
    show Go p e s below _ _ _ _ T0 (mkF m 340 #[.val (.int p1), .val (.int p2), .val (.int p3), .val (.int p4), .val (.int (Int32.ofNat n)), .val (.int c0), .val (.int c1), .val (.int c2), .val (.int c3), .val (.int c4), .val (.ref x1), .val (.ref x2), .val (.int (Int32.ofNat ws.length)), .val (.ref s1)] [])
    have hl : 4 < ws.length := Nat.lt_of_not_le fun q => hb337_101 (oi_lt (n := 5) (by omega) (by decide) (by omega))
    refine Go.of (fun _ hr => XS.aload X0.here hx rfl (hb hby at_340) rfl rfl hr) ?_
    show Go p e s below _ _ _ _ T0 (mkF m 342 #[.val (.int p1), .val (.int p2), .val (.int p3), .val (.int p4), .val (.int (Int32.ofNat n)), .val (.int c0), .val (.int c1), .val (.int c2), .val (.int c3), .val (.int c4), .val (.ref x1), .val (.ref x2), .val (.int (Int32.ofNat ws.length)), .val (.ref s1)] [(.ref s1)])
    refine Go.of (fun _ hr => XS.iconst X0.here hx rfl (hb hby at_342) hr) ?_
    show Go p e s below _ _ _ _ T0 (mkF m 343 #[.val (.int p1), .val (.int p2), .val (.int p3), .val (.int p4), .val (.int (Int32.ofNat n)), .val (.int c0), .val (.int c1), .val (.int c2), .val (.int c3), .val (.int c4), .val (.ref x1), .val (.ref x2), .val (.int (Int32.ofNat ws.length)), .val (.ref s1)] [(.int (4 : Int32)), (.ref s1)])
    obtain ⟨_, b102, T102, h102, L102, e102, Cc102, X102, B102, J102, g102, hQ102, st102⟩ := own_callV Cc B0 J0 X0 (hw _ (List.mem_of_getElem? (i := 200) rfl)) (hw _ (List.mem_of_getElem? (i := 68) rfl)) (notFace_of_selects (args := #[]) (mvT hZ (hw _ (List.mem_of_getElem? (i := 70) rfl)))) (hw _ (List.mem_of_getElem? (i := 70) rfl)) (hw _ (List.mem_of_getElem? (i := 69) rfl)) (hw _ (List.mem_of_getElem? (i := 8) rfl)) (hw _ (List.mem_of_getElem? (i := 71) rfl)) (by decide) Es1 (rm13 l Z a0 hw [] s1 t1 _ ws (0 : Int32) bb 4 zc _ h0 n0 O0 h0.size (own_ole O0) K0.1 fs hfs S_F S_D S_H S_L Es1 Fv1 Fc1 hso V1 hn hr hl S_C hzc) e0 (g := (mkF m 343 #[.val (.int p1), .val (.int p2), .val (.int p3), .val (.int p4), .val (.int (Int32.ofNat n)), .val (.int c0), .val (.int c1), .val (.int c2), .val (.int c3), .val (.int c4), .val (.ref x1), .val (.ref x2), .val (.int (Int32.ofNat ws.length)), .val (.ref s1)] [(.int (4 : Int32)), (.ref s1)])) rfl (by rw [hml]; rfl) (argsL := [(.int (4 : Int32))]) (rest := []) (lenOf pd24 rfl) rfl (W := 0) (by show 2 * 0 + _ ≤ _; exact Nat.le_of_eq rfl) (hb hby at_343) (by decide) (by decide) (by decide) (by decide)
    obtain ⟨rfl, Nq102, hh102⟩ := hQ102
    have N102 := Fr.app N0 (show Fr nb _ from fun y hy => Nat.le_trans hnb (Nq102 y hy))
    obtain ⟨hx, hZ, hown, hby, hml, hnm, hret, hlk⟩ := id Cc102
    rw [hh102] at e102 B102 J102
    refine Go.of st102 ?_
    show Go p e s below _ _ _ _ T102 (mkF m 346 #[.val (.int p1), .val (.int p2), .val (.int p3), .val (.int p4), .val (.int (Int32.ofNat n)), .val (.int c0), .val (.int c1), .val (.int c2), .val (.int c3), .val (.int c4), .val (.ref x1), .val (.ref x2), .val (.int (Int32.ofNat ws.length)), .val (.ref s1)] [(.int (ws.getD 4 0))])
    refine Go.of (fun _ hr => XS.aload X102.here hx rfl (hb hby at_346) rfl rfl hr) ?_
    show Go p e s below _ _ _ _ T102 (mkF m 348 #[.val (.int p1), .val (.int p2), .val (.int p3), .val (.int p4), .val (.int (Int32.ofNat n)), .val (.int c0), .val (.int c1), .val (.int c2), .val (.int c3), .val (.int c4), .val (.ref x1), .val (.ref x2), .val (.int (Int32.ofNat ws.length)), .val (.ref s1)] [(.ref x2), (.int (ws.getD 4 0))])
    refine Go.of (fun _ hr => XS.iconst X102.here hx rfl (hb hby at_348) hr) ?_
    show Go p e s below _ _ _ _ T102 (mkF m 349 #[.val (.int p1), .val (.int p2), .val (.int p3), .val (.int p4), .val (.int (Int32.ofNat n)), .val (.int c0), .val (.int c1), .val (.int c2), .val (.int c3), .val (.int c4), .val (.ref x1), .val (.ref x2), .val (.int (Int32.ofNat ws.length)), .val (.ref s1)] [(.int (4 : Int32)), (.ref x2), (.int (ws.getD 4 0))])
    obtain ⟨cl103, Ar103, q103, S103, N103_, H103, G103⟩ := id V2
    have hin103 : ¬ ((4 : Int32) < 0 ∨ cl103.slots.size ≤ ((4 : Int32)).toNatClampNeg) := inb_of S103 ⟨by decide, by decide⟩
    refine Go.of (fun _ hr => X102.caload hx (j := (4 : Int32)) (v := (.int (ws.getD 4 0))) (by rw [e102]; exact Ar103.1) (State.isArrayOf_alike hZ.alike Ar103.2.1) Ar103.2.2 hin103 (H103.at hin103 (getD_int ws 4)) (g := (mkF m 349 #[.val (.int p1), .val (.int p2), .val (.int p3), .val (.int p4), .val (.int (Int32.ofNat n)), .val (.int c0), .val (.int c1), .val (.int c2), .val (.int c3), .val (.int c4), .val (.ref x1), .val (.ref x2), .val (.int (Int32.ofNat ws.length)), .val (.ref s1)] [(.int (4 : Int32)), (.ref x2), (.int (ws.getD 4 0))])) rfl rfl (hb hby at_349) _ hr) ?_
    show Go p e s below _ _ _ _ T102 (mkF m 350 #[.val (.int p1), .val (.int p2), .val (.int p3), .val (.int p4), .val (.int (Int32.ofNat n)), .val (.int c0), .val (.int c1), .val (.int c2), .val (.int c3), .val (.int c4), .val (.ref x1), .val (.ref x2), .val (.int (Int32.ofNat ws.length)), .val (.ref s1)] [(.int (ws.getD 4 0)), (.int (ws.getD 4 0))])
    refine Go.of (fun _ hr => XS.icmpNo X102.here hx rfl (hb hby at_350) rfl (teq rfl).2 hr) ?_
    show Go p e s below _ _ _ _ T102 (mkF m 353 #[.val (.int p1), .val (.int p2), .val (.int p3), .val (.int p4), .val (.int (Int32.ofNat n)), .val (.int c0), .val (.int c1), .val (.int c2), .val (.int c3), .val (.int c4), .val (.ref x1), .val (.ref x2), .val (.int (Int32.ofNat ws.length)), .val (.ref s1)] [])
    refine Go.of (fun _ hr => XS.iconst X102.here hx rfl (hb hby at_353) hr) ?_
    show Go p e s below _ _ _ _ T102 (mkF m 354 #[.val (.int p1), .val (.int p2), .val (.int p3), .val (.int p4), .val (.int (Int32.ofNat n)), .val (.int c0), .val (.int c1), .val (.int c2), .val (.int c3), .val (.int c4), .val (.ref x1), .val (.ref x2), .val (.int (Int32.ofNat ws.length)), .val (.ref s1)] [(.int (1 : Int32))])
    refine Go.of (fun _ hr => XS.goto X102.here hx rfl (pc0 := 354) (pc' := 358) rfl (hb hby at_354) (by decide) (by decide) hr) ?_
    show Go p e s below _ _ _ _ T102 (mkF m 358 #[.val (.int p1), .val (.int p2), .val (.int p3), .val (.int p4), .val (.int (Int32.ofNat n)), .val (.int c0), .val (.int c1), .val (.int c2), .val (.int c3), .val (.int c4), .val (.ref x1), .val (.ref x2), .val (.int (Int32.ofNat ws.length)), .val (.ref s1)] [(.int (1 : Int32))])
    exact Go.retN X102 hx hlk B102 J102 e102 (t := .boolean) (z' := (1 : Int32)) hret (by simp) (hb hby at_358) rfl (by decide) (by decide) (fun vm_ hw_ => ⟨rfl, N102⟩)

set_option maxRecDepth 65536 in
set_option maxHeartbeats 40000000 in
theorem law_t3 (l : Launch) (Z : State) (a0 : Array Value) (hw : ∀ d ∈ tables_1, d.before a0 Z = true) {p : Program} {e : Env} {s b T0 : State} {m : MethodId} {args : Array Value} {below : List Frame} {meth : Method} {c : Code} {locs : List Loc} {ms : List Addr} (p1 p2 p3 p4 c0 c1 c2 c3 c4 : Int32) (n : Nat) (x1 x2 s1 t1 : Addr) (k1 kw : ClassId) (ws bb : List Int32) (zc : Int32) (h0 : Heap) (n0 : Nat) (O0 : Old Z n0 h0) (nb : Nat) (hb0 : n0 ≤ nb) (hnb : nb ≤ h0.size) (fs : Value) (hfs : fs = .null ∨ ∃ a, fs = .ref a) (S_F : Sta Z Z.heap "jdk/internal/util/Preconditions" "SIOOBE_FORMATTER" "Ljava/util/function/BiFunction;" fs) (S_D : Sta Z Z.heap "java/lang/StringUTF16" "$assertionsDisabled" "Z" (.int 1)) (S_H : Sta Z Z.heap "java/lang/StringUTF16" "HI_BYTE_SHIFT" "I" (.int 0)) (S_L : Sta Z Z.heap "java/lang/StringUTF16" "LO_BYTE_SHIFT" "I" (.int 8)) (Es1 : Exa Z h0 s1 "java/lang/String") (Fv1 : Fld Z h0 s1 "java/lang/String" "value" "[B" (.ref t1)) (Fc1 : Fld Z h0 s1 "java/lang/String" "coder" "B" (.int 0)) (hso : StrOf ws 0 bb) (V1 : Arv Z h0 t1 k1 .byte (Int32.ofNat bb.length) (bb.map Value.int) (.int 0)) (hn : ws.length ≤ 5) (hr : ∀ x ∈ ws, rng16 x) (V2 : Arv Z h0 x2 kw .char (5 : Int32) (ws.map Value.int) (.int 0)) (S_C : Sta Z Z.heap "java/lang/String" "COMPACT_STRINGS" "Z" (.int zc)) (hzc : ¬ zc = 0) (Cc : Cx Z p b m meth c "com/example/goldspan/goldspan/rules/TextDigitsPinLaw" code 14 "law" ret) (X0 : Stand p l e room_1 b m args below meth c T0 locs 9 47) (e0 : T0.heap = h0) (N0 : Fr nb locs) (J0 : Hd Z (ms) b.vm h0) (B0 : Bs s b h0) :
    Go p e s below room_1.cells room_1.slots (Hd Z ms) (fun v vm h L => v = some (.int 1) ∧ Fr nb L) T0 (mkF m 315 #[.val (.int p1), .val (.int p2), .val (.int p3), .val (.int p4), .val (.int (Int32.ofNat n)), .val (.int c0), .val (.int c1), .val (.int c2), .val (.int c3), .val (.int c4), .val (.ref x1), .val (.ref x2), .val (.int (Int32.ofNat ws.length)), .val (.ref s1)] []) := by
  obtain ⟨hx, hZ, hown, hby, hml, hnm, hret, hlk⟩ := id Cc
  have K0 := Keep.refl h0 []
  show Go p e s below _ _ _ _ T0 (mkF m 315 #[.val (.int p1), .val (.int p2), .val (.int p3), .val (.int p4), .val (.int (Int32.ofNat n)), .val (.int c0), .val (.int c1), .val (.int c2), .val (.int c3), .val (.int c4), .val (.ref x1), .val (.ref x2), .val (.int (Int32.ofNat ws.length)), .val (.ref s1)] [])
  refine Go.of (fun _ hr => XS.iload X0.here hx rfl (hb hby at_315) rfl  hr) ?_
  show Go p e s below _ _ _ _ T0 (mkF m 317 #[.val (.int p1), .val (.int p2), .val (.int p3), .val (.int p4), .val (.int (Int32.ofNat n)), .val (.int c0), .val (.int c1), .val (.int c2), .val (.int c3), .val (.int c4), .val (.ref x1), .val (.ref x2), .val (.int (Int32.ofNat ws.length)), .val (.ref s1)] [(.int (Int32.ofNat ws.length))])
  refine Go.of (fun _ hr => XS.iconst X0.here hx rfl (hb hby at_317) hr) ?_
  show Go p e s below _ _ _ _ T0 (mkF m 318 #[.val (.int p1), .val (.int p2), .val (.int p3), .val (.int p4), .val (.int (Int32.ofNat n)), .val (.int c0), .val (.int c1), .val (.int c2), .val (.int c3), .val (.int c4), .val (.ref x1), .val (.ref x2), .val (.int (Int32.ofNat ws.length)), .val (.ref s1)] [(.int (4 : Int32)), (.int (Int32.ofNat ws.length))])
  by_cases hb318_101 : (Int32.ofNat ws.length) < (4 : Int32)
  · refine Go.of (fun _ hr => XS.icmpYes X0.here hx rfl (pc0 := 318) (pc' := 334) rfl (hb hby at_318) rfl (tlt hb318_101).1 (by decide) (by decide) hr) ?_
    show Go p e s below _ _ _ _ T0 (mkF m 334 #[.val (.int p1), .val (.int p2), .val (.int p3), .val (.int p4), .val (.int (Int32.ofNat n)), .val (.int c0), .val (.int c1), .val (.int c2), .val (.int c3), .val (.int c4), .val (.ref x1), .val (.ref x2), .val (.int (Int32.ofNat ws.length)), .val (.ref s1)] [])
    exact law_t4 l Z a0 hw p1 p2 p3 p4 c0 c1 c2 c3 c4 n x1 x2 s1 t1 _ _ ws bb zc h0 n0 O0 nb hb0 (Nat.le_trans hnb K0.1) fs hfs S_F S_D S_H S_L Es1 Fv1 Fc1 hso V1 hn hr V2 S_C hzc Cc X0 e0 N0 J0 B0
  · refine Go.of (fun _ hr => XS.icmpNo X0.here hx rfl (hb hby at_318) rfl (flt hb318_101).1 hr) ?_
    show Go p e s below _ _ _ _ T0 (mkF m 321 #[.val (.int p1), .val (.int p2), .val (.int p3), .val (.int p4), .val (.int (Int32.ofNat n)), .val (.int c0), .val (.int c1), .val (.int c2), .val (.int c3), .val (.int c4), .val (.ref x1), .val (.ref x2), .val (.int (Int32.ofNat ws.length)), .val (.ref s1)] [])
    have hl : 3 < ws.length := Nat.lt_of_not_le fun q => hb318_101 (oi_lt (n := 4) (by omega) (by decide) (by omega))
    refine Go.of (fun _ hr => XS.aload X0.here hx rfl (hb hby at_321) rfl rfl hr) ?_
    show Go p e s below _ _ _ _ T0 (mkF m 323 #[.val (.int p1), .val (.int p2), .val (.int p3), .val (.int p4), .val (.int (Int32.ofNat n)), .val (.int c0), .val (.int c1), .val (.int c2), .val (.int c3), .val (.int c4), .val (.ref x1), .val (.ref x2), .val (.int (Int32.ofNat ws.length)), .val (.ref s1)] [(.ref s1)])
    refine Go.of (fun _ hr => XS.iconst X0.here hx rfl (hb hby at_323) hr) ?_
    show Go p e s below _ _ _ _ T0 (mkF m 324 #[.val (.int p1), .val (.int p2), .val (.int p3), .val (.int p4), .val (.int (Int32.ofNat n)), .val (.int c0), .val (.int c1), .val (.int c2), .val (.int c3), .val (.int c4), .val (.ref x1), .val (.ref x2), .val (.int (Int32.ofNat ws.length)), .val (.ref s1)] [(.int (3 : Int32)), (.ref s1)])
    obtain ⟨_, b102, T102, h102, L102, e102, Cc102, X102, B102, J102, g102, hQ102, st102⟩ := own_callV Cc B0 J0 X0 (hw _ (List.mem_of_getElem? (i := 200) rfl)) (hw _ (List.mem_of_getElem? (i := 68) rfl)) (notFace_of_selects (args := #[]) (mvT hZ (hw _ (List.mem_of_getElem? (i := 70) rfl)))) (hw _ (List.mem_of_getElem? (i := 70) rfl)) (hw _ (List.mem_of_getElem? (i := 69) rfl)) (hw _ (List.mem_of_getElem? (i := 8) rfl)) (hw _ (List.mem_of_getElem? (i := 71) rfl)) (by decide) Es1 (rm13 l Z a0 hw [] s1 t1 _ ws (0 : Int32) bb 3 zc _ h0 n0 O0 h0.size (own_ole O0) K0.1 fs hfs S_F S_D S_H S_L Es1 Fv1 Fc1 hso V1 hn hr hl S_C hzc) e0 (g := (mkF m 324 #[.val (.int p1), .val (.int p2), .val (.int p3), .val (.int p4), .val (.int (Int32.ofNat n)), .val (.int c0), .val (.int c1), .val (.int c2), .val (.int c3), .val (.int c4), .val (.ref x1), .val (.ref x2), .val (.int (Int32.ofNat ws.length)), .val (.ref s1)] [(.int (3 : Int32)), (.ref s1)])) rfl (by rw [hml]; rfl) (argsL := [(.int (3 : Int32))]) (rest := []) (lenOf pd24 rfl) rfl (W := 0) (by show 2 * 0 + _ ≤ _; exact Nat.le_of_eq rfl) (hb hby at_324) (by decide) (by decide) (by decide) (by decide)
    obtain ⟨rfl, Nq102, hh102⟩ := hQ102
    have N102 := Fr.app N0 (show Fr nb _ from fun y hy => Nat.le_trans hnb (Nq102 y hy))
    obtain ⟨hx, hZ, hown, hby, hml, hnm, hret, hlk⟩ := id Cc102
    rw [hh102] at e102 B102 J102
    refine Go.of st102 ?_
    show Go p e s below _ _ _ _ T102 (mkF m 327 #[.val (.int p1), .val (.int p2), .val (.int p3), .val (.int p4), .val (.int (Int32.ofNat n)), .val (.int c0), .val (.int c1), .val (.int c2), .val (.int c3), .val (.int c4), .val (.ref x1), .val (.ref x2), .val (.int (Int32.ofNat ws.length)), .val (.ref s1)] [(.int (ws.getD 3 0))])
    refine Go.of (fun _ hr => XS.aload X102.here hx rfl (hb hby at_327) rfl rfl hr) ?_
    show Go p e s below _ _ _ _ T102 (mkF m 329 #[.val (.int p1), .val (.int p2), .val (.int p3), .val (.int p4), .val (.int (Int32.ofNat n)), .val (.int c0), .val (.int c1), .val (.int c2), .val (.int c3), .val (.int c4), .val (.ref x1), .val (.ref x2), .val (.int (Int32.ofNat ws.length)), .val (.ref s1)] [(.ref x2), (.int (ws.getD 3 0))])
    refine Go.of (fun _ hr => XS.iconst X102.here hx rfl (hb hby at_329) hr) ?_
    show Go p e s below _ _ _ _ T102 (mkF m 330 #[.val (.int p1), .val (.int p2), .val (.int p3), .val (.int p4), .val (.int (Int32.ofNat n)), .val (.int c0), .val (.int c1), .val (.int c2), .val (.int c3), .val (.int c4), .val (.ref x1), .val (.ref x2), .val (.int (Int32.ofNat ws.length)), .val (.ref s1)] [(.int (3 : Int32)), (.ref x2), (.int (ws.getD 3 0))])
    obtain ⟨cl103, Ar103, q103, S103, N103_, H103, G103⟩ := id V2
    have hin103 : ¬ ((3 : Int32) < 0 ∨ cl103.slots.size ≤ ((3 : Int32)).toNatClampNeg) := inb_of S103 ⟨by decide, by decide⟩
    refine Go.of (fun _ hr => X102.caload hx (j := (3 : Int32)) (v := (.int (ws.getD 3 0))) (by rw [e102]; exact Ar103.1) (State.isArrayOf_alike hZ.alike Ar103.2.1) Ar103.2.2 hin103 (H103.at hin103 (getD_int ws 3)) (g := (mkF m 330 #[.val (.int p1), .val (.int p2), .val (.int p3), .val (.int p4), .val (.int (Int32.ofNat n)), .val (.int c0), .val (.int c1), .val (.int c2), .val (.int c3), .val (.int c4), .val (.ref x1), .val (.ref x2), .val (.int (Int32.ofNat ws.length)), .val (.ref s1)] [(.int (3 : Int32)), (.ref x2), (.int (ws.getD 3 0))])) rfl rfl (hb hby at_330) _ hr) ?_
    show Go p e s below _ _ _ _ T102 (mkF m 331 #[.val (.int p1), .val (.int p2), .val (.int p3), .val (.int p4), .val (.int (Int32.ofNat n)), .val (.int c0), .val (.int c1), .val (.int c2), .val (.int c3), .val (.int c4), .val (.ref x1), .val (.ref x2), .val (.int (Int32.ofNat ws.length)), .val (.ref s1)] [(.int (ws.getD 3 0)), (.int (ws.getD 3 0))])
    refine Go.of (fun _ hr => XS.icmpNo X102.here hx rfl (hb hby at_331) rfl (teq rfl).2 hr) ?_
    show Go p e s below _ _ _ _ T102 (mkF m 334 #[.val (.int p1), .val (.int p2), .val (.int p3), .val (.int p4), .val (.int (Int32.ofNat n)), .val (.int c0), .val (.int c1), .val (.int c2), .val (.int c3), .val (.int c4), .val (.ref x1), .val (.ref x2), .val (.int (Int32.ofNat ws.length)), .val (.ref s1)] [])
    exact law_t4 l Z a0 hw p1 p2 p3 p4 c0 c1 c2 c3 c4 n x1 x2 s1 t1 _ _ ws bb zc h0 n0 O0 nb hb0 (Nat.le_trans hnb K0.1) fs hfs S_F S_D S_H S_L Es1 Fv1 Fc1 hso V1 hn hr V2 S_C hzc Cc102 X102 e102 N102 J102 B102

set_option maxRecDepth 65536 in
set_option maxHeartbeats 40000000 in
theorem law_t2 (l : Launch) (Z : State) (a0 : Array Value) (hw : ∀ d ∈ tables_1, d.before a0 Z = true) {p : Program} {e : Env} {s b T0 : State} {m : MethodId} {args : Array Value} {below : List Frame} {meth : Method} {c : Code} {locs : List Loc} {ms : List Addr} (p1 p2 p3 p4 c0 c1 c2 c3 c4 : Int32) (n : Nat) (x1 x2 s1 t1 : Addr) (k1 kw : ClassId) (ws bb : List Int32) (zc : Int32) (h0 : Heap) (n0 : Nat) (O0 : Old Z n0 h0) (nb : Nat) (hb0 : n0 ≤ nb) (hnb : nb ≤ h0.size) (fs : Value) (hfs : fs = .null ∨ ∃ a, fs = .ref a) (S_F : Sta Z Z.heap "jdk/internal/util/Preconditions" "SIOOBE_FORMATTER" "Ljava/util/function/BiFunction;" fs) (S_D : Sta Z Z.heap "java/lang/StringUTF16" "$assertionsDisabled" "Z" (.int 1)) (S_H : Sta Z Z.heap "java/lang/StringUTF16" "HI_BYTE_SHIFT" "I" (.int 0)) (S_L : Sta Z Z.heap "java/lang/StringUTF16" "LO_BYTE_SHIFT" "I" (.int 8)) (Es1 : Exa Z h0 s1 "java/lang/String") (Fv1 : Fld Z h0 s1 "java/lang/String" "value" "[B" (.ref t1)) (Fc1 : Fld Z h0 s1 "java/lang/String" "coder" "B" (.int 0)) (hso : StrOf ws 0 bb) (V1 : Arv Z h0 t1 k1 .byte (Int32.ofNat bb.length) (bb.map Value.int) (.int 0)) (hn : ws.length ≤ 5) (hr : ∀ x ∈ ws, rng16 x) (V2 : Arv Z h0 x2 kw .char (5 : Int32) (ws.map Value.int) (.int 0)) (S_C : Sta Z Z.heap "java/lang/String" "COMPACT_STRINGS" "Z" (.int zc)) (hzc : ¬ zc = 0) (Cc : Cx Z p b m meth c "com/example/goldspan/goldspan/rules/TextDigitsPinLaw" code 14 "law" ret) (X0 : Stand p l e room_1 b m args below meth c T0 locs 9 47) (e0 : T0.heap = h0) (N0 : Fr nb locs) (J0 : Hd Z (ms) b.vm h0) (B0 : Bs s b h0) :
    Go p e s below room_1.cells room_1.slots (Hd Z ms) (fun v vm h L => v = some (.int 1) ∧ Fr nb L) T0 (mkF m 296 #[.val (.int p1), .val (.int p2), .val (.int p3), .val (.int p4), .val (.int (Int32.ofNat n)), .val (.int c0), .val (.int c1), .val (.int c2), .val (.int c3), .val (.int c4), .val (.ref x1), .val (.ref x2), .val (.int (Int32.ofNat ws.length)), .val (.ref s1)] []) := by
  obtain ⟨hx, hZ, hown, hby, hml, hnm, hret, hlk⟩ := id Cc
  have K0 := Keep.refl h0 []
  show Go p e s below _ _ _ _ T0 (mkF m 296 #[.val (.int p1), .val (.int p2), .val (.int p3), .val (.int p4), .val (.int (Int32.ofNat n)), .val (.int c0), .val (.int c1), .val (.int c2), .val (.int c3), .val (.int c4), .val (.ref x1), .val (.ref x2), .val (.int (Int32.ofNat ws.length)), .val (.ref s1)] [])
  refine Go.of (fun _ hr => XS.iload X0.here hx rfl (hb hby at_296) rfl  hr) ?_
  show Go p e s below _ _ _ _ T0 (mkF m 298 #[.val (.int p1), .val (.int p2), .val (.int p3), .val (.int p4), .val (.int (Int32.ofNat n)), .val (.int c0), .val (.int c1), .val (.int c2), .val (.int c3), .val (.int c4), .val (.ref x1), .val (.ref x2), .val (.int (Int32.ofNat ws.length)), .val (.ref s1)] [(.int (Int32.ofNat ws.length))])
  refine Go.of (fun _ hr => XS.iconst X0.here hx rfl (hb hby at_298) hr) ?_
  show Go p e s below _ _ _ _ T0 (mkF m 299 #[.val (.int p1), .val (.int p2), .val (.int p3), .val (.int p4), .val (.int (Int32.ofNat n)), .val (.int c0), .val (.int c1), .val (.int c2), .val (.int c3), .val (.int c4), .val (.ref x1), .val (.ref x2), .val (.int (Int32.ofNat ws.length)), .val (.ref s1)] [(.int (3 : Int32)), (.int (Int32.ofNat ws.length))])
  by_cases hb299_101 : (Int32.ofNat ws.length) < (3 : Int32)
  · refine Go.of (fun _ hr => XS.icmpYes X0.here hx rfl (pc0 := 299) (pc' := 315) rfl (hb hby at_299) rfl (tlt hb299_101).1 (by decide) (by decide) hr) ?_
    show Go p e s below _ _ _ _ T0 (mkF m 315 #[.val (.int p1), .val (.int p2), .val (.int p3), .val (.int p4), .val (.int (Int32.ofNat n)), .val (.int c0), .val (.int c1), .val (.int c2), .val (.int c3), .val (.int c4), .val (.ref x1), .val (.ref x2), .val (.int (Int32.ofNat ws.length)), .val (.ref s1)] [])
    exact law_t3 l Z a0 hw p1 p2 p3 p4 c0 c1 c2 c3 c4 n x1 x2 s1 t1 _ _ ws bb zc h0 n0 O0 nb hb0 (Nat.le_trans hnb K0.1) fs hfs S_F S_D S_H S_L Es1 Fv1 Fc1 hso V1 hn hr V2 S_C hzc Cc X0 e0 N0 J0 B0
  · refine Go.of (fun _ hr => XS.icmpNo X0.here hx rfl (hb hby at_299) rfl (flt hb299_101).1 hr) ?_
    show Go p e s below _ _ _ _ T0 (mkF m 302 #[.val (.int p1), .val (.int p2), .val (.int p3), .val (.int p4), .val (.int (Int32.ofNat n)), .val (.int c0), .val (.int c1), .val (.int c2), .val (.int c3), .val (.int c4), .val (.ref x1), .val (.ref x2), .val (.int (Int32.ofNat ws.length)), .val (.ref s1)] [])
    have hl : 2 < ws.length := Nat.lt_of_not_le fun q => hb299_101 (oi_lt (n := 3) (by omega) (by decide) (by omega))
    refine Go.of (fun _ hr => XS.aload X0.here hx rfl (hb hby at_302) rfl rfl hr) ?_
    show Go p e s below _ _ _ _ T0 (mkF m 304 #[.val (.int p1), .val (.int p2), .val (.int p3), .val (.int p4), .val (.int (Int32.ofNat n)), .val (.int c0), .val (.int c1), .val (.int c2), .val (.int c3), .val (.int c4), .val (.ref x1), .val (.ref x2), .val (.int (Int32.ofNat ws.length)), .val (.ref s1)] [(.ref s1)])
    refine Go.of (fun _ hr => XS.iconst X0.here hx rfl (hb hby at_304) hr) ?_
    show Go p e s below _ _ _ _ T0 (mkF m 305 #[.val (.int p1), .val (.int p2), .val (.int p3), .val (.int p4), .val (.int (Int32.ofNat n)), .val (.int c0), .val (.int c1), .val (.int c2), .val (.int c3), .val (.int c4), .val (.ref x1), .val (.ref x2), .val (.int (Int32.ofNat ws.length)), .val (.ref s1)] [(.int (2 : Int32)), (.ref s1)])
    obtain ⟨_, b102, T102, h102, L102, e102, Cc102, X102, B102, J102, g102, hQ102, st102⟩ := own_callV Cc B0 J0 X0 (hw _ (List.mem_of_getElem? (i := 200) rfl)) (hw _ (List.mem_of_getElem? (i := 68) rfl)) (notFace_of_selects (args := #[]) (mvT hZ (hw _ (List.mem_of_getElem? (i := 70) rfl)))) (hw _ (List.mem_of_getElem? (i := 70) rfl)) (hw _ (List.mem_of_getElem? (i := 69) rfl)) (hw _ (List.mem_of_getElem? (i := 8) rfl)) (hw _ (List.mem_of_getElem? (i := 71) rfl)) (by decide) Es1 (rm13 l Z a0 hw [] s1 t1 _ ws (0 : Int32) bb 2 zc _ h0 n0 O0 h0.size (own_ole O0) K0.1 fs hfs S_F S_D S_H S_L Es1 Fv1 Fc1 hso V1 hn hr hl S_C hzc) e0 (g := (mkF m 305 #[.val (.int p1), .val (.int p2), .val (.int p3), .val (.int p4), .val (.int (Int32.ofNat n)), .val (.int c0), .val (.int c1), .val (.int c2), .val (.int c3), .val (.int c4), .val (.ref x1), .val (.ref x2), .val (.int (Int32.ofNat ws.length)), .val (.ref s1)] [(.int (2 : Int32)), (.ref s1)])) rfl (by rw [hml]; rfl) (argsL := [(.int (2 : Int32))]) (rest := []) (lenOf pd24 rfl) rfl (W := 0) (by show 2 * 0 + _ ≤ _; exact Nat.le_of_eq rfl) (hb hby at_305) (by decide) (by decide) (by decide) (by decide)
    obtain ⟨rfl, Nq102, hh102⟩ := hQ102
    have N102 := Fr.app N0 (show Fr nb _ from fun y hy => Nat.le_trans hnb (Nq102 y hy))
    obtain ⟨hx, hZ, hown, hby, hml, hnm, hret, hlk⟩ := id Cc102
    rw [hh102] at e102 B102 J102
    refine Go.of st102 ?_
    show Go p e s below _ _ _ _ T102 (mkF m 308 #[.val (.int p1), .val (.int p2), .val (.int p3), .val (.int p4), .val (.int (Int32.ofNat n)), .val (.int c0), .val (.int c1), .val (.int c2), .val (.int c3), .val (.int c4), .val (.ref x1), .val (.ref x2), .val (.int (Int32.ofNat ws.length)), .val (.ref s1)] [(.int (ws.getD 2 0))])
    refine Go.of (fun _ hr => XS.aload X102.here hx rfl (hb hby at_308) rfl rfl hr) ?_
    show Go p e s below _ _ _ _ T102 (mkF m 310 #[.val (.int p1), .val (.int p2), .val (.int p3), .val (.int p4), .val (.int (Int32.ofNat n)), .val (.int c0), .val (.int c1), .val (.int c2), .val (.int c3), .val (.int c4), .val (.ref x1), .val (.ref x2), .val (.int (Int32.ofNat ws.length)), .val (.ref s1)] [(.ref x2), (.int (ws.getD 2 0))])
    refine Go.of (fun _ hr => XS.iconst X102.here hx rfl (hb hby at_310) hr) ?_
    show Go p e s below _ _ _ _ T102 (mkF m 311 #[.val (.int p1), .val (.int p2), .val (.int p3), .val (.int p4), .val (.int (Int32.ofNat n)), .val (.int c0), .val (.int c1), .val (.int c2), .val (.int c3), .val (.int c4), .val (.ref x1), .val (.ref x2), .val (.int (Int32.ofNat ws.length)), .val (.ref s1)] [(.int (2 : Int32)), (.ref x2), (.int (ws.getD 2 0))])
    obtain ⟨cl103, Ar103, q103, S103, N103_, H103, G103⟩ := id V2
    have hin103 : ¬ ((2 : Int32) < 0 ∨ cl103.slots.size ≤ ((2 : Int32)).toNatClampNeg) := inb_of S103 ⟨by decide, by decide⟩
    refine Go.of (fun _ hr => X102.caload hx (j := (2 : Int32)) (v := (.int (ws.getD 2 0))) (by rw [e102]; exact Ar103.1) (State.isArrayOf_alike hZ.alike Ar103.2.1) Ar103.2.2 hin103 (H103.at hin103 (getD_int ws 2)) (g := (mkF m 311 #[.val (.int p1), .val (.int p2), .val (.int p3), .val (.int p4), .val (.int (Int32.ofNat n)), .val (.int c0), .val (.int c1), .val (.int c2), .val (.int c3), .val (.int c4), .val (.ref x1), .val (.ref x2), .val (.int (Int32.ofNat ws.length)), .val (.ref s1)] [(.int (2 : Int32)), (.ref x2), (.int (ws.getD 2 0))])) rfl rfl (hb hby at_311) _ hr) ?_
    show Go p e s below _ _ _ _ T102 (mkF m 312 #[.val (.int p1), .val (.int p2), .val (.int p3), .val (.int p4), .val (.int (Int32.ofNat n)), .val (.int c0), .val (.int c1), .val (.int c2), .val (.int c3), .val (.int c4), .val (.ref x1), .val (.ref x2), .val (.int (Int32.ofNat ws.length)), .val (.ref s1)] [(.int (ws.getD 2 0)), (.int (ws.getD 2 0))])
    refine Go.of (fun _ hr => XS.icmpNo X102.here hx rfl (hb hby at_312) rfl (teq rfl).2 hr) ?_
    show Go p e s below _ _ _ _ T102 (mkF m 315 #[.val (.int p1), .val (.int p2), .val (.int p3), .val (.int p4), .val (.int (Int32.ofNat n)), .val (.int c0), .val (.int c1), .val (.int c2), .val (.int c3), .val (.int c4), .val (.ref x1), .val (.ref x2), .val (.int (Int32.ofNat ws.length)), .val (.ref s1)] [])
    exact law_t3 l Z a0 hw p1 p2 p3 p4 c0 c1 c2 c3 c4 n x1 x2 s1 t1 _ _ ws bb zc h0 n0 O0 nb hb0 (Nat.le_trans hnb K0.1) fs hfs S_F S_D S_H S_L Es1 Fv1 Fc1 hso V1 hn hr V2 S_C hzc Cc102 X102 e102 N102 J102 B102

set_option maxRecDepth 65536 in
set_option maxHeartbeats 40000000 in
theorem law_t1 (l : Launch) (Z : State) (a0 : Array Value) (hw : ∀ d ∈ tables_1, d.before a0 Z = true) {p : Program} {e : Env} {s b T0 : State} {m : MethodId} {args : Array Value} {below : List Frame} {meth : Method} {c : Code} {locs : List Loc} {ms : List Addr} (p1 p2 p3 p4 c0 c1 c2 c3 c4 : Int32) (n : Nat) (x1 x2 s1 t1 : Addr) (k1 kw : ClassId) (ws bb : List Int32) (zc : Int32) (h0 : Heap) (n0 : Nat) (O0 : Old Z n0 h0) (nb : Nat) (hb0 : n0 ≤ nb) (hnb : nb ≤ h0.size) (fs : Value) (hfs : fs = .null ∨ ∃ a, fs = .ref a) (S_F : Sta Z Z.heap "jdk/internal/util/Preconditions" "SIOOBE_FORMATTER" "Ljava/util/function/BiFunction;" fs) (S_D : Sta Z Z.heap "java/lang/StringUTF16" "$assertionsDisabled" "Z" (.int 1)) (S_H : Sta Z Z.heap "java/lang/StringUTF16" "HI_BYTE_SHIFT" "I" (.int 0)) (S_L : Sta Z Z.heap "java/lang/StringUTF16" "LO_BYTE_SHIFT" "I" (.int 8)) (Es1 : Exa Z h0 s1 "java/lang/String") (Fv1 : Fld Z h0 s1 "java/lang/String" "value" "[B" (.ref t1)) (Fc1 : Fld Z h0 s1 "java/lang/String" "coder" "B" (.int 0)) (hso : StrOf ws 0 bb) (V1 : Arv Z h0 t1 k1 .byte (Int32.ofNat bb.length) (bb.map Value.int) (.int 0)) (hn : ws.length ≤ 5) (hr : ∀ x ∈ ws, rng16 x) (V2 : Arv Z h0 x2 kw .char (5 : Int32) (ws.map Value.int) (.int 0)) (S_C : Sta Z Z.heap "java/lang/String" "COMPACT_STRINGS" "Z" (.int zc)) (hzc : ¬ zc = 0) (Cc : Cx Z p b m meth c "com/example/goldspan/goldspan/rules/TextDigitsPinLaw" code 14 "law" ret) (X0 : Stand p l e room_1 b m args below meth c T0 locs 9 47) (e0 : T0.heap = h0) (N0 : Fr nb locs) (J0 : Hd Z (ms) b.vm h0) (B0 : Bs s b h0) :
    Go p e s below room_1.cells room_1.slots (Hd Z ms) (fun v vm h L => v = some (.int 1) ∧ Fr nb L) T0 (mkF m 277 #[.val (.int p1), .val (.int p2), .val (.int p3), .val (.int p4), .val (.int (Int32.ofNat n)), .val (.int c0), .val (.int c1), .val (.int c2), .val (.int c3), .val (.int c4), .val (.ref x1), .val (.ref x2), .val (.int (Int32.ofNat ws.length)), .val (.ref s1)] []) := by
  obtain ⟨hx, hZ, hown, hby, hml, hnm, hret, hlk⟩ := id Cc
  have K0 := Keep.refl h0 []
  show Go p e s below _ _ _ _ T0 (mkF m 277 #[.val (.int p1), .val (.int p2), .val (.int p3), .val (.int p4), .val (.int (Int32.ofNat n)), .val (.int c0), .val (.int c1), .val (.int c2), .val (.int c3), .val (.int c4), .val (.ref x1), .val (.ref x2), .val (.int (Int32.ofNat ws.length)), .val (.ref s1)] [])
  refine Go.of (fun _ hr => XS.iload X0.here hx rfl (hb hby at_277) rfl  hr) ?_
  show Go p e s below _ _ _ _ T0 (mkF m 279 #[.val (.int p1), .val (.int p2), .val (.int p3), .val (.int p4), .val (.int (Int32.ofNat n)), .val (.int c0), .val (.int c1), .val (.int c2), .val (.int c3), .val (.int c4), .val (.ref x1), .val (.ref x2), .val (.int (Int32.ofNat ws.length)), .val (.ref s1)] [(.int (Int32.ofNat ws.length))])
  refine Go.of (fun _ hr => XS.iconst X0.here hx rfl (hb hby at_279) hr) ?_
  show Go p e s below _ _ _ _ T0 (mkF m 280 #[.val (.int p1), .val (.int p2), .val (.int p3), .val (.int p4), .val (.int (Int32.ofNat n)), .val (.int c0), .val (.int c1), .val (.int c2), .val (.int c3), .val (.int c4), .val (.ref x1), .val (.ref x2), .val (.int (Int32.ofNat ws.length)), .val (.ref s1)] [(.int (2 : Int32)), (.int (Int32.ofNat ws.length))])
  by_cases hb280_101 : (Int32.ofNat ws.length) < (2 : Int32)
  · refine Go.of (fun _ hr => XS.icmpYes X0.here hx rfl (pc0 := 280) (pc' := 296) rfl (hb hby at_280) rfl (tlt hb280_101).1 (by decide) (by decide) hr) ?_
    show Go p e s below _ _ _ _ T0 (mkF m 296 #[.val (.int p1), .val (.int p2), .val (.int p3), .val (.int p4), .val (.int (Int32.ofNat n)), .val (.int c0), .val (.int c1), .val (.int c2), .val (.int c3), .val (.int c4), .val (.ref x1), .val (.ref x2), .val (.int (Int32.ofNat ws.length)), .val (.ref s1)] [])
    exact law_t2 l Z a0 hw p1 p2 p3 p4 c0 c1 c2 c3 c4 n x1 x2 s1 t1 _ _ ws bb zc h0 n0 O0 nb hb0 (Nat.le_trans hnb K0.1) fs hfs S_F S_D S_H S_L Es1 Fv1 Fc1 hso V1 hn hr V2 S_C hzc Cc X0 e0 N0 J0 B0
  · refine Go.of (fun _ hr => XS.icmpNo X0.here hx rfl (hb hby at_280) rfl (flt hb280_101).1 hr) ?_
    show Go p e s below _ _ _ _ T0 (mkF m 283 #[.val (.int p1), .val (.int p2), .val (.int p3), .val (.int p4), .val (.int (Int32.ofNat n)), .val (.int c0), .val (.int c1), .val (.int c2), .val (.int c3), .val (.int c4), .val (.ref x1), .val (.ref x2), .val (.int (Int32.ofNat ws.length)), .val (.ref s1)] [])
    have hl : 1 < ws.length := Nat.lt_of_not_le fun q => hb280_101 (oi_lt (n := 2) (by omega) (by decide) (by omega))
    refine Go.of (fun _ hr => XS.aload X0.here hx rfl (hb hby at_283) rfl rfl hr) ?_
    show Go p e s below _ _ _ _ T0 (mkF m 285 #[.val (.int p1), .val (.int p2), .val (.int p3), .val (.int p4), .val (.int (Int32.ofNat n)), .val (.int c0), .val (.int c1), .val (.int c2), .val (.int c3), .val (.int c4), .val (.ref x1), .val (.ref x2), .val (.int (Int32.ofNat ws.length)), .val (.ref s1)] [(.ref s1)])
    refine Go.of (fun _ hr => XS.iconst X0.here hx rfl (hb hby at_285) hr) ?_
    show Go p e s below _ _ _ _ T0 (mkF m 286 #[.val (.int p1), .val (.int p2), .val (.int p3), .val (.int p4), .val (.int (Int32.ofNat n)), .val (.int c0), .val (.int c1), .val (.int c2), .val (.int c3), .val (.int c4), .val (.ref x1), .val (.ref x2), .val (.int (Int32.ofNat ws.length)), .val (.ref s1)] [(.int (1 : Int32)), (.ref s1)])
    obtain ⟨_, b102, T102, h102, L102, e102, Cc102, X102, B102, J102, g102, hQ102, st102⟩ := own_callV Cc B0 J0 X0 (hw _ (List.mem_of_getElem? (i := 200) rfl)) (hw _ (List.mem_of_getElem? (i := 68) rfl)) (notFace_of_selects (args := #[]) (mvT hZ (hw _ (List.mem_of_getElem? (i := 70) rfl)))) (hw _ (List.mem_of_getElem? (i := 70) rfl)) (hw _ (List.mem_of_getElem? (i := 69) rfl)) (hw _ (List.mem_of_getElem? (i := 8) rfl)) (hw _ (List.mem_of_getElem? (i := 71) rfl)) (by decide) Es1 (rm13 l Z a0 hw [] s1 t1 _ ws (0 : Int32) bb 1 zc _ h0 n0 O0 h0.size (own_ole O0) K0.1 fs hfs S_F S_D S_H S_L Es1 Fv1 Fc1 hso V1 hn hr hl S_C hzc) e0 (g := (mkF m 286 #[.val (.int p1), .val (.int p2), .val (.int p3), .val (.int p4), .val (.int (Int32.ofNat n)), .val (.int c0), .val (.int c1), .val (.int c2), .val (.int c3), .val (.int c4), .val (.ref x1), .val (.ref x2), .val (.int (Int32.ofNat ws.length)), .val (.ref s1)] [(.int (1 : Int32)), (.ref s1)])) rfl (by rw [hml]; rfl) (argsL := [(.int (1 : Int32))]) (rest := []) (lenOf pd24 rfl) rfl (W := 0) (by show 2 * 0 + _ ≤ _; exact Nat.le_of_eq rfl) (hb hby at_286) (by decide) (by decide) (by decide) (by decide)
    obtain ⟨rfl, Nq102, hh102⟩ := hQ102
    have N102 := Fr.app N0 (show Fr nb _ from fun y hy => Nat.le_trans hnb (Nq102 y hy))
    obtain ⟨hx, hZ, hown, hby, hml, hnm, hret, hlk⟩ := id Cc102
    rw [hh102] at e102 B102 J102
    refine Go.of st102 ?_
    show Go p e s below _ _ _ _ T102 (mkF m 289 #[.val (.int p1), .val (.int p2), .val (.int p3), .val (.int p4), .val (.int (Int32.ofNat n)), .val (.int c0), .val (.int c1), .val (.int c2), .val (.int c3), .val (.int c4), .val (.ref x1), .val (.ref x2), .val (.int (Int32.ofNat ws.length)), .val (.ref s1)] [(.int (ws.getD 1 0))])
    refine Go.of (fun _ hr => XS.aload X102.here hx rfl (hb hby at_289) rfl rfl hr) ?_
    show Go p e s below _ _ _ _ T102 (mkF m 291 #[.val (.int p1), .val (.int p2), .val (.int p3), .val (.int p4), .val (.int (Int32.ofNat n)), .val (.int c0), .val (.int c1), .val (.int c2), .val (.int c3), .val (.int c4), .val (.ref x1), .val (.ref x2), .val (.int (Int32.ofNat ws.length)), .val (.ref s1)] [(.ref x2), (.int (ws.getD 1 0))])
    refine Go.of (fun _ hr => XS.iconst X102.here hx rfl (hb hby at_291) hr) ?_
    show Go p e s below _ _ _ _ T102 (mkF m 292 #[.val (.int p1), .val (.int p2), .val (.int p3), .val (.int p4), .val (.int (Int32.ofNat n)), .val (.int c0), .val (.int c1), .val (.int c2), .val (.int c3), .val (.int c4), .val (.ref x1), .val (.ref x2), .val (.int (Int32.ofNat ws.length)), .val (.ref s1)] [(.int (1 : Int32)), (.ref x2), (.int (ws.getD 1 0))])
    obtain ⟨cl103, Ar103, q103, S103, N103_, H103, G103⟩ := id V2
    have hin103 : ¬ ((1 : Int32) < 0 ∨ cl103.slots.size ≤ ((1 : Int32)).toNatClampNeg) := inb_of S103 ⟨by decide, by decide⟩
    refine Go.of (fun _ hr => X102.caload hx (j := (1 : Int32)) (v := (.int (ws.getD 1 0))) (by rw [e102]; exact Ar103.1) (State.isArrayOf_alike hZ.alike Ar103.2.1) Ar103.2.2 hin103 (H103.at hin103 (getD_int ws 1)) (g := (mkF m 292 #[.val (.int p1), .val (.int p2), .val (.int p3), .val (.int p4), .val (.int (Int32.ofNat n)), .val (.int c0), .val (.int c1), .val (.int c2), .val (.int c3), .val (.int c4), .val (.ref x1), .val (.ref x2), .val (.int (Int32.ofNat ws.length)), .val (.ref s1)] [(.int (1 : Int32)), (.ref x2), (.int (ws.getD 1 0))])) rfl rfl (hb hby at_292) _ hr) ?_
    show Go p e s below _ _ _ _ T102 (mkF m 293 #[.val (.int p1), .val (.int p2), .val (.int p3), .val (.int p4), .val (.int (Int32.ofNat n)), .val (.int c0), .val (.int c1), .val (.int c2), .val (.int c3), .val (.int c4), .val (.ref x1), .val (.ref x2), .val (.int (Int32.ofNat ws.length)), .val (.ref s1)] [(.int (ws.getD 1 0)), (.int (ws.getD 1 0))])
    refine Go.of (fun _ hr => XS.icmpNo X102.here hx rfl (hb hby at_293) rfl (teq rfl).2 hr) ?_
    show Go p e s below _ _ _ _ T102 (mkF m 296 #[.val (.int p1), .val (.int p2), .val (.int p3), .val (.int p4), .val (.int (Int32.ofNat n)), .val (.int c0), .val (.int c1), .val (.int c2), .val (.int c3), .val (.int c4), .val (.ref x1), .val (.ref x2), .val (.int (Int32.ofNat ws.length)), .val (.ref s1)] [])
    exact law_t2 l Z a0 hw p1 p2 p3 p4 c0 c1 c2 c3 c4 n x1 x2 s1 t1 _ _ ws bb zc h0 n0 O0 nb hb0 (Nat.le_trans hnb K0.1) fs hfs S_F S_D S_H S_L Es1 Fv1 Fc1 hso V1 hn hr V2 S_C hzc Cc102 X102 e102 N102 J102 B102

set_option maxRecDepth 65536 in
set_option maxHeartbeats 40000000 in
theorem law_t0 (l : Launch) (Z : State) (a0 : Array Value) (hw : ∀ d ∈ tables_1, d.before a0 Z = true) {p : Program} {e : Env} {s b T0 : State} {m : MethodId} {args : Array Value} {below : List Frame} {meth : Method} {c : Code} {locs : List Loc} {ms : List Addr} (p1 p2 p3 p4 c0 c1 c2 c3 c4 : Int32) (n : Nat) (x1 x2 s1 t1 : Addr) (k1 kw : ClassId) (ws bb : List Int32) (zc : Int32) (h0 : Heap) (n0 : Nat) (O0 : Old Z n0 h0) (nb : Nat) (hb0 : n0 ≤ nb) (hnb : nb ≤ h0.size) (fs : Value) (hfs : fs = .null ∨ ∃ a, fs = .ref a) (S_F : Sta Z Z.heap "jdk/internal/util/Preconditions" "SIOOBE_FORMATTER" "Ljava/util/function/BiFunction;" fs) (S_D : Sta Z Z.heap "java/lang/StringUTF16" "$assertionsDisabled" "Z" (.int 1)) (S_H : Sta Z Z.heap "java/lang/StringUTF16" "HI_BYTE_SHIFT" "I" (.int 0)) (S_L : Sta Z Z.heap "java/lang/StringUTF16" "LO_BYTE_SHIFT" "I" (.int 8)) (Es1 : Exa Z h0 s1 "java/lang/String") (Fv1 : Fld Z h0 s1 "java/lang/String" "value" "[B" (.ref t1)) (Fc1 : Fld Z h0 s1 "java/lang/String" "coder" "B" (.int 0)) (hso : StrOf ws 0 bb) (V1 : Arv Z h0 t1 k1 .byte (Int32.ofNat bb.length) (bb.map Value.int) (.int 0)) (hn : ws.length ≤ 5) (hr : ∀ x ∈ ws, rng16 x) (V2 : Arv Z h0 x2 kw .char (5 : Int32) (ws.map Value.int) (.int 0)) (S_C : Sta Z Z.heap "java/lang/String" "COMPACT_STRINGS" "Z" (.int zc)) (hzc : ¬ zc = 0) (Cc : Cx Z p b m meth c "com/example/goldspan/goldspan/rules/TextDigitsPinLaw" code 14 "law" ret) (X0 : Stand p l e room_1 b m args below meth c T0 locs 9 47) (e0 : T0.heap = h0) (N0 : Fr nb locs) (J0 : Hd Z (ms) b.vm h0) (B0 : Bs s b h0) :
    Go p e s below room_1.cells room_1.slots (Hd Z ms) (fun v vm h L => v = some (.int 1) ∧ Fr nb L) T0 (mkF m 258 #[.val (.int p1), .val (.int p2), .val (.int p3), .val (.int p4), .val (.int (Int32.ofNat n)), .val (.int c0), .val (.int c1), .val (.int c2), .val (.int c3), .val (.int c4), .val (.ref x1), .val (.ref x2), .val (.int (Int32.ofNat ws.length)), .val (.ref s1)] []) := by
  obtain ⟨hx, hZ, hown, hby, hml, hnm, hret, hlk⟩ := id Cc
  have K0 := Keep.refl h0 []
  show Go p e s below _ _ _ _ T0 (mkF m 258 #[.val (.int p1), .val (.int p2), .val (.int p3), .val (.int p4), .val (.int (Int32.ofNat n)), .val (.int c0), .val (.int c1), .val (.int c2), .val (.int c3), .val (.int c4), .val (.ref x1), .val (.ref x2), .val (.int (Int32.ofNat ws.length)), .val (.ref s1)] [])
  refine Go.of (fun _ hr => XS.iload X0.here hx rfl (hb hby at_258) rfl  hr) ?_
  show Go p e s below _ _ _ _ T0 (mkF m 260 #[.val (.int p1), .val (.int p2), .val (.int p3), .val (.int p4), .val (.int (Int32.ofNat n)), .val (.int c0), .val (.int c1), .val (.int c2), .val (.int c3), .val (.int c4), .val (.ref x1), .val (.ref x2), .val (.int (Int32.ofNat ws.length)), .val (.ref s1)] [(.int (Int32.ofNat ws.length))])
  refine Go.of (fun _ hr => XS.iconst X0.here hx rfl (hb hby at_260) hr) ?_
  show Go p e s below _ _ _ _ T0 (mkF m 261 #[.val (.int p1), .val (.int p2), .val (.int p3), .val (.int p4), .val (.int (Int32.ofNat n)), .val (.int c0), .val (.int c1), .val (.int c2), .val (.int c3), .val (.int c4), .val (.ref x1), .val (.ref x2), .val (.int (Int32.ofNat ws.length)), .val (.ref s1)] [(.int (1 : Int32)), (.int (Int32.ofNat ws.length))])
  by_cases hb261_101 : (Int32.ofNat ws.length) < (1 : Int32)
  · refine Go.of (fun _ hr => XS.icmpYes X0.here hx rfl (pc0 := 261) (pc' := 277) rfl (hb hby at_261) rfl (tlt hb261_101).1 (by decide) (by decide) hr) ?_
    show Go p e s below _ _ _ _ T0 (mkF m 277 #[.val (.int p1), .val (.int p2), .val (.int p3), .val (.int p4), .val (.int (Int32.ofNat n)), .val (.int c0), .val (.int c1), .val (.int c2), .val (.int c3), .val (.int c4), .val (.ref x1), .val (.ref x2), .val (.int (Int32.ofNat ws.length)), .val (.ref s1)] [])
    exact law_t1 l Z a0 hw p1 p2 p3 p4 c0 c1 c2 c3 c4 n x1 x2 s1 t1 _ _ ws bb zc h0 n0 O0 nb hb0 (Nat.le_trans hnb K0.1) fs hfs S_F S_D S_H S_L Es1 Fv1 Fc1 hso V1 hn hr V2 S_C hzc Cc X0 e0 N0 J0 B0
  · refine Go.of (fun _ hr => XS.icmpNo X0.here hx rfl (hb hby at_261) rfl (flt hb261_101).1 hr) ?_
    show Go p e s below _ _ _ _ T0 (mkF m 264 #[.val (.int p1), .val (.int p2), .val (.int p3), .val (.int p4), .val (.int (Int32.ofNat n)), .val (.int c0), .val (.int c1), .val (.int c2), .val (.int c3), .val (.int c4), .val (.ref x1), .val (.ref x2), .val (.int (Int32.ofNat ws.length)), .val (.ref s1)] [])
    have hl : 0 < ws.length := Nat.lt_of_not_le fun q => hb261_101 (oi_lt (n := 1) (by omega) (by decide) (by omega))
    refine Go.of (fun _ hr => XS.aload X0.here hx rfl (hb hby at_264) rfl rfl hr) ?_
    show Go p e s below _ _ _ _ T0 (mkF m 266 #[.val (.int p1), .val (.int p2), .val (.int p3), .val (.int p4), .val (.int (Int32.ofNat n)), .val (.int c0), .val (.int c1), .val (.int c2), .val (.int c3), .val (.int c4), .val (.ref x1), .val (.ref x2), .val (.int (Int32.ofNat ws.length)), .val (.ref s1)] [(.ref s1)])
    refine Go.of (fun _ hr => XS.iconst X0.here hx rfl (hb hby at_266) hr) ?_
    show Go p e s below _ _ _ _ T0 (mkF m 267 #[.val (.int p1), .val (.int p2), .val (.int p3), .val (.int p4), .val (.int (Int32.ofNat n)), .val (.int c0), .val (.int c1), .val (.int c2), .val (.int c3), .val (.int c4), .val (.ref x1), .val (.ref x2), .val (.int (Int32.ofNat ws.length)), .val (.ref s1)] [(.int (0 : Int32)), (.ref s1)])
    obtain ⟨_, b102, T102, h102, L102, e102, Cc102, X102, B102, J102, g102, hQ102, st102⟩ := own_callV Cc B0 J0 X0 (hw _ (List.mem_of_getElem? (i := 200) rfl)) (hw _ (List.mem_of_getElem? (i := 68) rfl)) (notFace_of_selects (args := #[]) (mvT hZ (hw _ (List.mem_of_getElem? (i := 70) rfl)))) (hw _ (List.mem_of_getElem? (i := 70) rfl)) (hw _ (List.mem_of_getElem? (i := 69) rfl)) (hw _ (List.mem_of_getElem? (i := 8) rfl)) (hw _ (List.mem_of_getElem? (i := 71) rfl)) (by decide) Es1 (rm13 l Z a0 hw [] s1 t1 _ ws (0 : Int32) bb 0 zc _ h0 n0 O0 h0.size (own_ole O0) K0.1 fs hfs S_F S_D S_H S_L Es1 Fv1 Fc1 hso V1 hn hr hl S_C hzc) e0 (g := (mkF m 267 #[.val (.int p1), .val (.int p2), .val (.int p3), .val (.int p4), .val (.int (Int32.ofNat n)), .val (.int c0), .val (.int c1), .val (.int c2), .val (.int c3), .val (.int c4), .val (.ref x1), .val (.ref x2), .val (.int (Int32.ofNat ws.length)), .val (.ref s1)] [(.int (0 : Int32)), (.ref s1)])) rfl (by rw [hml]; rfl) (argsL := [(.int (0 : Int32))]) (rest := []) (lenOf pd24 rfl) rfl (W := 0) (by show 2 * 0 + _ ≤ _; exact Nat.le_of_eq rfl) (hb hby at_267) (by decide) (by decide) (by decide) (by decide)
    obtain ⟨rfl, Nq102, hh102⟩ := hQ102
    have N102 := Fr.app N0 (show Fr nb _ from fun y hy => Nat.le_trans hnb (Nq102 y hy))
    obtain ⟨hx, hZ, hown, hby, hml, hnm, hret, hlk⟩ := id Cc102
    rw [hh102] at e102 B102 J102
    refine Go.of st102 ?_
    show Go p e s below _ _ _ _ T102 (mkF m 270 #[.val (.int p1), .val (.int p2), .val (.int p3), .val (.int p4), .val (.int (Int32.ofNat n)), .val (.int c0), .val (.int c1), .val (.int c2), .val (.int c3), .val (.int c4), .val (.ref x1), .val (.ref x2), .val (.int (Int32.ofNat ws.length)), .val (.ref s1)] [(.int (ws.getD 0 0))])
    refine Go.of (fun _ hr => XS.aload X102.here hx rfl (hb hby at_270) rfl rfl hr) ?_
    show Go p e s below _ _ _ _ T102 (mkF m 272 #[.val (.int p1), .val (.int p2), .val (.int p3), .val (.int p4), .val (.int (Int32.ofNat n)), .val (.int c0), .val (.int c1), .val (.int c2), .val (.int c3), .val (.int c4), .val (.ref x1), .val (.ref x2), .val (.int (Int32.ofNat ws.length)), .val (.ref s1)] [(.ref x2), (.int (ws.getD 0 0))])
    refine Go.of (fun _ hr => XS.iconst X102.here hx rfl (hb hby at_272) hr) ?_
    show Go p e s below _ _ _ _ T102 (mkF m 273 #[.val (.int p1), .val (.int p2), .val (.int p3), .val (.int p4), .val (.int (Int32.ofNat n)), .val (.int c0), .val (.int c1), .val (.int c2), .val (.int c3), .val (.int c4), .val (.ref x1), .val (.ref x2), .val (.int (Int32.ofNat ws.length)), .val (.ref s1)] [(.int (0 : Int32)), (.ref x2), (.int (ws.getD 0 0))])
    obtain ⟨cl103, Ar103, q103, S103, N103_, H103, G103⟩ := id V2
    have hin103 : ¬ ((0 : Int32) < 0 ∨ cl103.slots.size ≤ ((0 : Int32)).toNatClampNeg) := inb_of S103 ⟨by decide, by decide⟩
    refine Go.of (fun _ hr => X102.caload hx (j := (0 : Int32)) (v := (.int (ws.getD 0 0))) (by rw [e102]; exact Ar103.1) (State.isArrayOf_alike hZ.alike Ar103.2.1) Ar103.2.2 hin103 (H103.at hin103 (getD_int ws 0)) (g := (mkF m 273 #[.val (.int p1), .val (.int p2), .val (.int p3), .val (.int p4), .val (.int (Int32.ofNat n)), .val (.int c0), .val (.int c1), .val (.int c2), .val (.int c3), .val (.int c4), .val (.ref x1), .val (.ref x2), .val (.int (Int32.ofNat ws.length)), .val (.ref s1)] [(.int (0 : Int32)), (.ref x2), (.int (ws.getD 0 0))])) rfl rfl (hb hby at_273) _ hr) ?_
    show Go p e s below _ _ _ _ T102 (mkF m 274 #[.val (.int p1), .val (.int p2), .val (.int p3), .val (.int p4), .val (.int (Int32.ofNat n)), .val (.int c0), .val (.int c1), .val (.int c2), .val (.int c3), .val (.int c4), .val (.ref x1), .val (.ref x2), .val (.int (Int32.ofNat ws.length)), .val (.ref s1)] [(.int (ws.getD 0 0)), (.int (ws.getD 0 0))])
    refine Go.of (fun _ hr => XS.icmpNo X102.here hx rfl (hb hby at_274) rfl (teq rfl).2 hr) ?_
    show Go p e s below _ _ _ _ T102 (mkF m 277 #[.val (.int p1), .val (.int p2), .val (.int p3), .val (.int p4), .val (.int (Int32.ofNat n)), .val (.int c0), .val (.int c1), .val (.int c2), .val (.int c3), .val (.int c4), .val (.ref x1), .val (.ref x2), .val (.int (Int32.ofNat ws.length)), .val (.ref s1)] [])
    exact law_t1 l Z a0 hw p1 p2 p3 p4 c0 c1 c2 c3 c4 n x1 x2 s1 t1 _ _ ws bb zc h0 n0 O0 nb hb0 (Nat.le_trans hnb K0.1) fs hfs S_F S_D S_H S_L Es1 Fv1 Fc1 hso V1 hn hr V2 S_C hzc Cc102 X102 e102 N102 J102 B102

theorem pd26 : parseMethodDescriptor "([C)V" = some ⟨[(.array .char)], none⟩ := by decide +kernel
theorem pd27 : parseMethodDescriptor "(Ljava/lang/String;)Ljava/lang/String;" = some ⟨[(.object "java/lang/String")], some (.object "java/lang/String")⟩ := by decide +kernel
set_option maxRecDepth 65536 in
set_option maxHeartbeats 40000000 in
theorem law_fin (l : Launch) (Z : State) (a0 : Array Value) (hw : ∀ d ∈ tables_1, d.before a0 Z = true) {p : Program} {e : Env} {s b T0 : State} {m : MethodId} {args : Array Value} {below : List Frame} {meth : Method} {c : Code} {locs : List Loc} {ms : List Addr} (p1 p2 p3 p4 c0 c1 c2 c3 c4 : Int32) (n : Nat) (x1 x2 : Addr) (kx kw : ClassId) (ts : List Int32) (zc : Int32) (h0 : Heap) (n0 : Nat) (O0 : Old Z n0 h0) (nb : Nat) (hb0 : n0 ≤ nb) (hnb : nb ≤ h0.size) (fs : Value) (hfs : fs = .null ∨ ∃ a, fs = .ref a) (S_F : Sta Z Z.heap "jdk/internal/util/Preconditions" "SIOOBE_FORMATTER" "Ljava/util/function/BiFunction;" fs) (S_D : Sta Z Z.heap "java/lang/StringUTF16" "$assertionsDisabled" "Z" (.int 1)) (S_H : Sta Z Z.heap "java/lang/StringUTF16" "HI_BYTE_SHIFT" "I" (.int 0)) (S_L : Sta Z Z.heap "java/lang/StringUTF16" "LO_BYTE_SHIFT" "I" (.int 8)) (hn : ts.length ≤ 5) (hr : ∀ x ∈ ts, rng16 x) (V1 : Arv Z h0 x1 kx .char (Int32.ofNat ts.length) (ts.map Value.int) (.int 0)) (V2 : Arv Z h0 x2 kw .char (5 : Int32) ((ts.filter dig).map Value.int) (.int 0)) (S_C : Sta Z Z.heap "java/lang/String" "COMPACT_STRINGS" "Z" (.int zc)) (hzc : ¬ zc = 0) (Cc : Cx Z p b m meth c "com/example/goldspan/goldspan/rules/TextDigitsPinLaw" code 14 "law" ret) (X0 : Stand p l e room_1 b m args below meth c T0 locs 2 10) (e0 : T0.heap = h0) (N0 : Fr nb locs) (J0 : Hd Z (ms) b.vm h0) (B0 : Bs s b h0) :
    Go p e s below room_1.cells room_1.slots (Hd Z ms) (fun v vm h L => v = some (.int 1) ∧ Fr nb L) T0 (mkF m 227 #[.val (.int p1), .val (.int p2), .val (.int p3), .val (.int p4), .val (.int (Int32.ofNat n)), .val (.int c0), .val (.int c1), .val (.int c2), .val (.int c3), .val (.int c4), .val (.ref x1), .val (.ref x2), .val (.int (Int32.ofNat (ts.filter dig).length)), .unset] []) := by
  obtain ⟨hx, hZ, hown, hby, hml, hnm, hret, hlk⟩ := id Cc
  have K0 := Keep.refl h0 []
  show Go p e s below _ _ _ _ T0 (mkF m 227 #[.val (.int p1), .val (.int p2), .val (.int p3), .val (.int p4), .val (.int (Int32.ofNat n)), .val (.int c0), .val (.int c1), .val (.int c2), .val (.int c3), .val (.int c4), .val (.ref x1), .val (.ref x2), .val (.int (Int32.ofNat (ts.filter dig).length)), .unset] [])
  obtain ⟨T101, h101, X101, e101, E101, A101, D101, -, st101⟩ := newO X0 hx hZ hown (hw _ (List.mem_of_getElem? (i := 6) rfl)) (hw _ (List.mem_of_getElem? (i := 7) rfl)) (hw _ (List.mem_of_getElem? (i := 8) rfl)) e0 (g := (mkF m 227 #[.val (.int p1), .val (.int p2), .val (.int p3), .val (.int p4), .val (.int (Int32.ofNat n)), .val (.int c0), .val (.int c1), .val (.int c2), .val (.int c3), .val (.int c4), .val (.ref x1), .val (.ref x2), .val (.int (Int32.ofNat (ts.filter dig).length)), .unset] [])) rfl (hb hby at_227) (by decide) (by decide)
  obtain ⟨o101, g101⟩ : ∃ z, z = h0.size := ⟨_, rfl⟩
  rw [← g101] at A101 D101 st101
  have ne_x1_o101 : x1 ≠ o101 := Nat.ne_of_lt (Nat.lt_of_lt_of_le V1.lt (Nat.le_of_eq g101.symm))
  have ne_x2_o101 : x2 ≠ o101 := Nat.ne_of_lt (Nat.lt_of_lt_of_le V2.lt (Nat.le_of_eq g101.symm))
  have lt101 : o101 < h101.size := A101.lt
  have J101 := J0.add E101 g101 lt101
  have B101 := B0.mono E101.1
  have O101 := O0.ext E101
  have sz101 : h0.size ≤ o101 := Nat.le_trans K0.1 (Nat.le_of_eq g101.symm)
  have fr101 : nb ≤ o101 := Nat.le_trans hnb sz101
  have K101 := K0.ext E101
  have F101_coder : Fld Z h101 o101 "java/lang/String" "coder" "B" (.int (0 : Int32)) := D101 (Or.inr (hw _ (List.mem_of_getElem? (i := 32) rfl))) (ty := .byte) (by decide)
  have F101_value : Fld Z h101 o101 "java/lang/String" "value" "[B" .null := D101 (Or.inr (hw _ (List.mem_of_getElem? (i := 34) rfl))) (ty := (.array .byte)) (by decide)
  refine Go.of (fun _ hr => st101 _ hr) ?_
  show Go p e s below _ _ _ _ T101 (mkF m 230 #[.val (.int p1), .val (.int p2), .val (.int p3), .val (.int p4), .val (.int (Int32.ofNat n)), .val (.int c0), .val (.int c1), .val (.int c2), .val (.int c3), .val (.int c4), .val (.ref x1), .val (.ref x2), .val (.int (Int32.ofNat (ts.filter dig).length)), .unset] [(.ref o101)])
  refine Go.of (fun _ hr => XS.dup X101.here hx rfl (hb hby at_230) rfl rfl hr) ?_
  show Go p e s below _ _ _ _ T101 (mkF m 231 #[.val (.int p1), .val (.int p2), .val (.int p3), .val (.int p4), .val (.int (Int32.ofNat n)), .val (.int c0), .val (.int c1), .val (.int c2), .val (.int c3), .val (.int c4), .val (.ref x1), .val (.ref x2), .val (.int (Int32.ofNat (ts.filter dig).length)), .unset] [(.ref o101), (.ref o101)])
  refine Go.of (fun _ hr => XS.aload X101.here hx rfl (hb hby at_231) rfl rfl hr) ?_
  show Go p e s below _ _ _ _ T101 (mkF m 233 #[.val (.int p1), .val (.int p2), .val (.int p3), .val (.int p4), .val (.int (Int32.ofNat n)), .val (.int c0), .val (.int c1), .val (.int c2), .val (.int c3), .val (.int c4), .val (.ref x1), .val (.ref x2), .val (.int (Int32.ofNat (ts.filter dig).length)), .unset] [(.ref x1), (.ref o101), (.ref o101)])
  have f103 := (V1.ext E101)
  obtain ⟨_, b102, T102, h102, L102, e102, Cc102, X102, B102, J102, g102, hQ102, st102⟩ := own_callI Cc B101 J101 X101 rfl (hw _ (List.mem_of_getElem? (i := 9) rfl)) (hw _ (List.mem_of_getElem? (i := 10) rfl)) (hw _ (List.mem_of_getElem? (i := 8) rfl)) (hw _ (List.mem_of_getElem? (i := 11) rfl)) (by decide) (rm2 l Z a0 hw [] o101 x1 _ ts _ _ zc _ h101 n0 O101 h0.size (own_ole O0) K101.1 sz101 (List.mem_cons_self ..) S_D S_H S_L hn hr f103 ne_x1_o101 A101 F101_value F101_coder S_C hzc) e101 (g := (mkF m 233 #[.val (.int p1), .val (.int p2), .val (.int p3), .val (.int p4), .val (.int (Int32.ofNat n)), .val (.int c0), .val (.int c1), .val (.int c2), .val (.int c3), .val (.int c4), .val (.ref x1), .val (.ref x2), .val (.int (Int32.ofNat (ts.filter dig).length)), .unset] [(.ref x1), (.ref o101), (.ref o101)])) rfl (by rw [hml]; rfl) (argsL := [(.ref x1)]) (rest := [(.ref o101)]) (lenOf pd26 rfl) rfl (W := 1) (by show 2 * 0 + _ ≤ _; exact Nat.le_of_eq rfl) (hb hby at_233) (by decide) (by decide) (by decide) (by decide)
  obtain ⟨rfl, Nq102, Kq102, t102, kt102, cd102, bb102, nt102, Fv102, Fc102, So102, Vt102⟩ := hQ102
  have N102 := Fr.app N0 (show Fr nb _ from fun y hy => Nat.le_trans hnb (Nq102 y hy))
  obtain ⟨hx, hZ, hown, hby, hml, hnm, hret, hlk⟩ := id Cc102
  have K102 := K101.trans Kq102 (allS (Or.inr sz101) all0)
  have O102 := O101.keep Kq102 (allS (Nat.le_trans hb0 fr101) all0)
  refine Go.of st102 ?_
  have nx_t102_o101 : t102 ≠ o101 := fun q => nt102 (by rw [q]; exact (List.mem_cons_self ..))
  show Go p e s below _ _ _ _ T102 (mkF m 236 #[.val (.int p1), .val (.int p2), .val (.int p3), .val (.int p4), .val (.int (Int32.ofNat n)), .val (.int c0), .val (.int c1), .val (.int c2), .val (.int c3), .val (.int c4), .val (.ref x1), .val (.ref x2), .val (.int (Int32.ofNat (ts.filter dig).length)), .unset] [(.ref o101)])
  have f105 := (A101.keep Kq102)
  obtain ⟨_, b104, T104, h104, L104, e104, Cc104, X104, B104, J104, g104, hQ104, st104⟩ := own_callS Cc102 B102 J102 X102 (hw _ (List.mem_of_getElem? (i := 35) rfl)) (hw _ (List.mem_of_getElem? (i := 36) rfl)) (hw _ (List.mem_of_getElem? (i := 37) rfl)) (hw _ (List.mem_of_getElem? (i := 38) rfl)) (by decide) (rm8 l Z a0 hw [] o101 t102 _ ts cd102 bb102 zc _ h102 n0 O102 h0.size (own_ole O0) K102.1 fs hfs S_F S_D S_H S_L f105 Fv102 Fc102 So102 Vt102 hn hr S_C hzc) e102 (g := (mkF m 236 #[.val (.int p1), .val (.int p2), .val (.int p3), .val (.int p4), .val (.int (Int32.ofNat n)), .val (.int c0), .val (.int c1), .val (.int c2), .val (.int c3), .val (.int c4), .val (.ref x1), .val (.ref x2), .val (.int (Int32.ofNat (ts.filter dig).length)), .unset] [(.ref o101)])) rfl (by rw [hml]; rfl) (argsL := [(.ref o101)]) (rest := []) (lenOf pd27 rfl) rfl (W := 0) (by show 2 * 0 + _ ≤ _; exact Nat.le_of_eq rfl) (hb hby at_236) (by decide) (by decide) (by decide) (by decide)
  have f106 := (f103.keep Kq102 (ninS ne_x1_o101 nin0))
  have f107 := ((V2.ext E101).keep Kq102 (ninS ne_x2_o101 nin0))
  obtain ⟨r104, t104, kt104, rfl, Nq104, Eq104, R_r104, R_t104, Er104, Fv104, Fc104, Vt104⟩ := hQ104
  have N104 := Fr.app N102 (show Fr nb _ from fun y hy => Nat.le_trans hnb (Nq104 y hy))
  obtain ⟨hx, hZ, hown, hby, hml, hnm, hret, hlk⟩ := id Cc104
  have sz_r104 : h0.size ≤ r104 := Nat.le_trans K102.1 R_r104
  have fr_r104 : nb ≤ r104 := Nat.le_trans hnb sz_r104
  have ne_x1_r104 : x1 ≠ r104 := Nat.ne_of_lt (Nat.lt_of_lt_of_le f106.lt R_r104)
  have ne_x2_r104 : x2 ≠ r104 := Nat.ne_of_lt (Nat.lt_of_lt_of_le f107.lt R_r104)
  have ne_o101_r104 : o101 ≠ r104 := Nat.ne_of_lt (Nat.lt_of_lt_of_le f105.lt R_r104)
  have ne_t102_r104 : t102 ≠ r104 := Nat.ne_of_lt (Nat.lt_of_lt_of_le Vt102.lt R_r104)
  have sz_t104 : h0.size ≤ t104 := Nat.le_trans K102.1 R_t104
  have fr_t104 : nb ≤ t104 := Nat.le_trans hnb sz_t104
  have ne_x1_t104 : x1 ≠ t104 := Nat.ne_of_lt (Nat.lt_of_lt_of_le f106.lt R_t104)
  have ne_x2_t104 : x2 ≠ t104 := Nat.ne_of_lt (Nat.lt_of_lt_of_le f107.lt R_t104)
  have ne_o101_t104 : o101 ≠ t104 := Nat.ne_of_lt (Nat.lt_of_lt_of_le f105.lt R_t104)
  have ne_t102_t104 : t102 ≠ t104 := Nat.ne_of_lt (Nat.lt_of_lt_of_le Vt102.lt R_t104)
  have K104 := K102.ext Eq104
  have O104 := O102.ext Eq104
  refine Go.of st104 ?_
  show Go p e s below _ _ _ _ T104 (mkF m 239 #[.val (.int p1), .val (.int p2), .val (.int p3), .val (.int p4), .val (.int (Int32.ofNat n)), .val (.int c0), .val (.int c1), .val (.int c2), .val (.int c3), .val (.int c4), .val (.ref x1), .val (.ref x2), .val (.int (Int32.ofNat (ts.filter dig).length)), .unset] [(.ref r104)])
  refine Go.of (fun _ hr => XS.astore X104.here hx rfl (hb hby at_239) rfl rfl (l' := #[.val (.int p1), .val (.int p2), .val (.int p3), .val (.int p4), .val (.int (Int32.ofNat n)), .val (.int c0), .val (.int c1), .val (.int c2), .val (.int c3), .val (.int c4), .val (.ref x1), .val (.ref x2), .val (.int (Int32.ofNat (ts.filter dig).length)), .val (.ref r104)]) rfl hr) ?_
  show Go p e s below _ _ _ _ T104 (mkF m 241 #[.val (.int p1), .val (.int p2), .val (.int p3), .val (.int p4), .val (.int (Int32.ofNat n)), .val (.int c0), .val (.int c1), .val (.int c2), .val (.int c3), .val (.int c4), .val (.ref x1), .val (.ref x2), .val (.int (Int32.ofNat (ts.filter dig).length)), .val (.ref r104)] [])
  refine Go.of (fun _ hr => XS.aload X104.here hx rfl (hb hby at_241) rfl rfl hr) ?_
  show Go p e s below _ _ _ _ T104 (mkF m 243 #[.val (.int p1), .val (.int p2), .val (.int p3), .val (.int p4), .val (.int (Int32.ofNat n)), .val (.int c0), .val (.int c1), .val (.int c2), .val (.int c3), .val (.int c4), .val (.ref x1), .val (.ref x2), .val (.int (Int32.ofNat (ts.filter dig).length)), .val (.ref r104)] [(.ref r104)])
  refine Go.of (fun _ hr => XS.ifnullNo X104.here hx rfl (hb hby at_243) rfl hr) ?_
  show Go p e s below _ _ _ _ T104 (mkF m 246 #[.val (.int p1), .val (.int p2), .val (.int p3), .val (.int p4), .val (.int (Int32.ofNat n)), .val (.int c0), .val (.int c1), .val (.int c2), .val (.int c3), .val (.int c4), .val (.ref x1), .val (.ref x2), .val (.int (Int32.ofNat (ts.filter dig).length)), .val (.ref r104)] [])
  refine Go.of (fun _ hr => XS.aload X104.here hx rfl (hb hby at_246) rfl rfl hr) ?_
  show Go p e s below _ _ _ _ T104 (mkF m 248 #[.val (.int p1), .val (.int p2), .val (.int p3), .val (.int p4), .val (.int (Int32.ofNat n)), .val (.int c0), .val (.int c1), .val (.int c2), .val (.int c3), .val (.int c4), .val (.ref x1), .val (.ref x2), .val (.int (Int32.ofNat (ts.filter dig).length)), .val (.ref r104)] [(.ref r104)])
  obtain ⟨_, b108, T108, h108, L108, e108, Cc108, X108, B108, J108, g108, hQ108, st108⟩ := own_callV Cc104 B104 J104 X104 (hw _ (List.mem_of_getElem? (i := 140) rfl)) (hw _ (List.mem_of_getElem? (i := 43) rfl)) (notFace_of_selects (args := #[]) (mvT hZ (hw _ (List.mem_of_getElem? (i := 45) rfl)))) (hw _ (List.mem_of_getElem? (i := 45) rfl)) (hw _ (List.mem_of_getElem? (i := 44) rfl)) (hw _ (List.mem_of_getElem? (i := 8) rfl)) (hw _ (List.mem_of_getElem? (i := 46) rfl)) (by decide) Er104 (rm9 l Z a0 hw [] r104 t104 _ (ts.filter dig) (0 : Int32) (dgs ts) zc _ h104 n0 O104 h0.size (own_ole O0) K104.1 Er104 Fv104 Fc104 (Or.inl ⟨rfl, rfl, fl_le ts⟩) Vt104 (fl_len hn) (fl_rng hr) S_C hzc) e104 (g := (mkF m 248 #[.val (.int p1), .val (.int p2), .val (.int p3), .val (.int p4), .val (.int (Int32.ofNat n)), .val (.int c0), .val (.int c1), .val (.int c2), .val (.int c3), .val (.int c4), .val (.ref x1), .val (.ref x2), .val (.int (Int32.ofNat (ts.filter dig).length)), .val (.ref r104)] [(.ref r104)])) rfl (by rw [hml]; rfl) (argsL := []) (rest := []) (lenOf pd17 rfl) rfl (W := 0) (by show 2 * 0 + _ ≤ _; exact Nat.le_of_eq rfl) (hb hby at_248) (by decide) (by decide) (by decide) (by decide)
  obtain ⟨rfl, Nq108, hh108⟩ := hQ108
  have N108 := Fr.app N104 (show Fr nb _ from fun y hy => Nat.le_trans hnb (Nq108 y hy))
  obtain ⟨hx, hZ, hown, hby, hml, hnm, hret, hlk⟩ := id Cc108
  rw [hh108] at e108 B108 J108
  refine Go.of st108 ?_
  show Go p e s below _ _ _ _ T108 (mkF m 251 #[.val (.int p1), .val (.int p2), .val (.int p3), .val (.int p4), .val (.int (Int32.ofNat n)), .val (.int c0), .val (.int c1), .val (.int c2), .val (.int c3), .val (.int c4), .val (.ref x1), .val (.ref x2), .val (.int (Int32.ofNat (ts.filter dig).length)), .val (.ref r104)] [(.int (Int32.ofNat (ts.filter dig).length))])
  refine Go.of (fun _ hr => XS.iload X108.here hx rfl (hb hby at_251) rfl  hr) ?_
  show Go p e s below _ _ _ _ T108 (mkF m 253 #[.val (.int p1), .val (.int p2), .val (.int p3), .val (.int p4), .val (.int (Int32.ofNat n)), .val (.int c0), .val (.int c1), .val (.int c2), .val (.int c3), .val (.int c4), .val (.ref x1), .val (.ref x2), .val (.int (Int32.ofNat (ts.filter dig).length)), .val (.ref r104)] [(.int (Int32.ofNat (ts.filter dig).length)), (.int (Int32.ofNat (ts.filter dig).length))])
  refine Go.of (fun _ hr => XS.icmpYes X108.here hx rfl (pc0 := 253) (pc' := 258) rfl (hb hby at_253) rfl (teq rfl).1 (by decide) (by decide) hr) ?_
  show Go p e s below _ _ _ _ T108 (mkF m 258 #[.val (.int p1), .val (.int p2), .val (.int p3), .val (.int p4), .val (.int (Int32.ofNat n)), .val (.int c0), .val (.int c1), .val (.int c2), .val (.int c3), .val (.int c4), .val (.ref x1), .val (.ref x2), .val (.int (Int32.ofNat (ts.filter dig).length)), .val (.ref r104)] [])
  have f109 := (f107.ext Eq104)
  exact law_t0 l Z a0 hw p1 p2 p3 p4 c0 c1 c2 c3 c4 n x1 x2 r104 t104 _ _ (ts.filter dig) (dgs ts) zc h104 n0 O104 nb hb0 (Nat.le_trans hnb K104.1) fs hfs S_F S_D S_H S_L Er104 Fv104 Fc104 (Or.inl ⟨rfl, rfl, fl_le ts⟩) Vt104 (fl_len hn) (fl_rng hr) f109 S_C hzc Cc108 X108 e108 N108 (J108.sub (fun x hx => (List.mem_cons_of_mem _ hx))) B108

set_option maxRecDepth 65536 in
set_option maxHeartbeats 40000000 in
theorem law_w4 (l : Launch) (Z : State) (a0 : Array Value) (hw : ∀ d ∈ tables_1, d.before a0 Z = true) {p : Program} {e : Env} {s b T0 : State} {m : MethodId} {args : Array Value} {below : List Frame} {meth : Method} {c : Code} {locs : List Loc} {ms : List Addr} (p1 p2 p3 p4 c0 c1 c2 c3 c4 : Int32) (n : Nat) (x1 x2 : Addr) (kx kw : ClassId) (cs ws : List Int32) (zc : Int32) (h0 : Heap) (n0 : Nat) (O0 : Old Z n0 h0) (nb : Nat) (hb0 : n0 ≤ nb) (hnb : nb ≤ h0.size) (fs : Value) (hfs : fs = .null ∨ ∃ a, fs = .ref a) (S_F : Sta Z Z.heap "jdk/internal/util/Preconditions" "SIOOBE_FORMATTER" "Ljava/util/function/BiFunction;" fs) (S_D : Sta Z Z.heap "java/lang/StringUTF16" "$assertionsDisabled" "Z" (.int 1)) (S_H : Sta Z Z.heap "java/lang/StringUTF16" "HI_BYTE_SHIFT" "I" (.int 0)) (S_L : Sta Z Z.heap "java/lang/StringUTF16" "LO_BYTE_SHIFT" "I" (.int 8)) (hn : n ≤ 5) (hcs : cs = [c0, c1, c2, c3, c4]) (hr : ∀ x ∈ cs, rng16 x) (fr_x2 : nb ≤ x2) (ne12 : x1 ≠ x2) (hws : ws = (tkc n 4 cs).filter dig) (V1 : Arv Z h0 x1 kx .char (Int32.ofNat n) ((tkc n 5 cs).map Value.int) (.int 0)) (V2 : Arv Z h0 x2 kw .char (5 : Int32) (ws.map Value.int) (.int 0)) (S_C : Sta Z Z.heap "java/lang/String" "COMPACT_STRINGS" "Z" (.int zc)) (hzc : ¬ zc = 0) (Cc : Cx Z p b m meth c "com/example/goldspan/goldspan/rules/TextDigitsPinLaw" code 14 "law" ret) (X0 : Stand p l e room_1 b m args below meth c T0 locs 2 10) (e0 : T0.heap = h0) (N0 : Fr nb locs) (J0 : Hd Z (x2 :: ms) b.vm h0) (B0 : Bs s b h0) :
    Go p e s below room_1.cells room_1.slots (Hd Z ms) (fun v vm h L => v = some (.int 1) ∧ Fr nb L) T0 (mkF m 203 #[.val (.int p1), .val (.int p2), .val (.int p3), .val (.int p4), .val (.int (Int32.ofNat n)), .val (.int c0), .val (.int c1), .val (.int c2), .val (.int c3), .val (.int c4), .val (.ref x1), .val (.ref x2), .val (.int (Int32.ofNat ws.length)), .unset] []) := by
  have hcl : cs.length = 5 := by rw [hcs]; rfl
  have hci : cs.getD 4 0 = c4 := by rw [hcs]; rfl
  have hq_ : rng16 c4 := hci ▸ hr _ (mem_getD (by omega))
  have hwl : ws.length ≤ 4 := ws_le hws
  obtain ⟨hx, hZ, hown, hby, hml, hnm, hret, hlk⟩ := id Cc
  have K0 := Keep.refl h0 [x2]
  show Go p e s below _ _ _ _ T0 (mkF m 203 #[.val (.int p1), .val (.int p2), .val (.int p3), .val (.int p4), .val (.int (Int32.ofNat n)), .val (.int c0), .val (.int c1), .val (.int c2), .val (.int c3), .val (.int c4), .val (.ref x1), .val (.ref x2), .val (.int (Int32.ofNat ws.length)), .unset] [])
  refine Go.of (fun _ hr => XS.iload X0.here hx rfl (hb hby at_203) rfl  hr) ?_
  show Go p e s below _ _ _ _ T0 (mkF m 205 #[.val (.int p1), .val (.int p2), .val (.int p3), .val (.int p4), .val (.int (Int32.ofNat n)), .val (.int c0), .val (.int c1), .val (.int c2), .val (.int c3), .val (.int c4), .val (.ref x1), .val (.ref x2), .val (.int (Int32.ofNat ws.length)), .unset] [(.int (Int32.ofNat n))])
  refine Go.of (fun _ hr => XS.iconst X0.here hx rfl (hb hby at_205) hr) ?_
  show Go p e s below _ _ _ _ T0 (mkF m 206 #[.val (.int p1), .val (.int p2), .val (.int p3), .val (.int p4), .val (.int (Int32.ofNat n)), .val (.int c0), .val (.int c1), .val (.int c2), .val (.int c3), .val (.int c4), .val (.ref x1), .val (.ref x2), .val (.int (Int32.ofNat ws.length)), .unset] [(.int (4 : Int32)), (.int (Int32.ofNat n))])
  by_cases hb206_101 : (4 : Int32) < (Int32.ofNat n)
  · refine Go.of (fun _ hr => XS.icmpNo X0.here hx rfl (hb hby at_206) rfl (tlt hb206_101).2.2.2 hr) ?_
    show Go p e s below _ _ _ _ T0 (mkF m 209 #[.val (.int p1), .val (.int p2), .val (.int p3), .val (.int p4), .val (.int (Int32.ofNat n)), .val (.int c0), .val (.int c1), .val (.int c2), .val (.int c3), .val (.int c4), .val (.ref x1), .val (.ref x2), .val (.int (Int32.ofNat ws.length)), .unset] [])
    have hl : 4 < n := oi_ltR (i := 4) (by decide) (by omega) hb206_101
    refine Go.of (fun _ hr => XS.iload X0.here hx rfl (hb hby at_209) rfl  hr) ?_
    show Go p e s below _ _ _ _ T0 (mkF m 211 #[.val (.int p1), .val (.int p2), .val (.int p3), .val (.int p4), .val (.int (Int32.ofNat n)), .val (.int c0), .val (.int c1), .val (.int c2), .val (.int c3), .val (.int c4), .val (.ref x1), .val (.ref x2), .val (.int (Int32.ofNat ws.length)), .unset] [(.int c4)])
    obtain ⟨_, b102, T102, h102, L102, e102, Cc102, X102, B102, J102, g102, hQ102, st102⟩ := own_callS Cc B0 J0 X0 (hw _ (List.mem_of_getElem? (i := 2) rfl)) (hw _ (List.mem_of_getElem? (i := 3) rfl)) (hw _ (List.mem_of_getElem? (i := 4) rfl)) (hw _ (List.mem_of_getElem? (i := 5) rfl)) (by decide) (rm1 l Z a0 hw [] c4 _ h0 n0 O0 h0.size (own_ole O0) K0.1) e0 (g := (mkF m 211 #[.val (.int p1), .val (.int p2), .val (.int p3), .val (.int p4), .val (.int (Int32.ofNat n)), .val (.int c0), .val (.int c1), .val (.int c2), .val (.int c3), .val (.int c4), .val (.ref x1), .val (.ref x2), .val (.int (Int32.ofNat ws.length)), .unset] [(.int c4)])) rfl (by rw [hml]; rfl) (argsL := [(.int c4)]) (rest := []) (lenOf pd15 rfl) rfl (W := 0) (by show 2 * 0 + _ ≤ _; exact Nat.le_of_eq rfl) (hb hby at_211) (by decide) (by decide) (by decide) (by decide)
    obtain ⟨rfl, Nq102, hh102⟩ := hQ102
    have N102 := Fr.app N0 (show Fr nb _ from fun y hy => Nat.le_trans hnb (Nq102 y hy))
    obtain ⟨hx, hZ, hown, hby, hml, hnm, hret, hlk⟩ := id Cc102
    rw [hh102] at e102 B102 J102
    refine Go.of st102 ?_
    show Go p e s below _ _ _ _ T102 (mkF m 214 #[.val (.int p1), .val (.int p2), .val (.int p3), .val (.int p4), .val (.int (Int32.ofNat n)), .val (.int c0), .val (.int c1), .val (.int c2), .val (.int c3), .val (.int c4), .val (.ref x1), .val (.ref x2), .val (.int (Int32.ofNat ws.length)), .unset] [(.int (if dig c4 then 1 else 0))])
    by_cases hb214_103 : (if dig c4 then 1 else 0) = (0 : Int32)
    · refine Go.of (fun _ hr => XS.ifYes X102.here hx rfl (pc0 := 214) (pc' := 227) rfl (hb hby at_214) rfl ((if0 _ _).trans (teq hb214_103).1) (by decide) (by decide) hr) ?_
      show Go p e s below _ _ _ _ T102 (mkF m 227 #[.val (.int p1), .val (.int p2), .val (.int p3), .val (.int p4), .val (.int (Int32.ofNat n)), .val (.int c0), .val (.int c1), .val (.int c2), .val (.int c3), .val (.int c4), .val (.ref x1), .val (.ref x2), .val (.int (Int32.ofNat ws.length)), .unset] [])
      have hfin := (ws_no hws hl (by omega) hci hb214_103)
      rw [hfin] at V2 ⊢
      exact law_fin l Z a0 hw p1 p2 p3 p4 c0 c1 c2 c3 c4 n x1 x2 _ _ (tkc n 5 cs) zc h0 n0 O0 nb hb0 (Nat.le_trans hnb K0.1) fs hfs S_F S_D S_H S_L (by rw [tk_full hn hcl]; exact hn) (tk_rng hr) (by rw [tk_full hn hcl]; exact V1) V2 S_C hzc Cc102 X102 e102 N102 (J102.sub (fun x hx => (List.mem_cons_of_mem _ hx))) B102
    · refine Go.of (fun _ hr => XS.ifNo X102.here hx rfl (hb hby at_214) rfl ((if0 _ _).trans (feq hb214_103).1) hr) ?_
      show Go p e s below _ _ _ _ T102 (mkF m 217 #[.val (.int p1), .val (.int p2), .val (.int p3), .val (.int p4), .val (.int (Int32.ofNat n)), .val (.int c0), .val (.int c1), .val (.int c2), .val (.int c3), .val (.int c4), .val (.ref x1), .val (.ref x2), .val (.int (Int32.ofNat ws.length)), .unset] [])
      refine Go.of (fun _ hr => XS.aload X102.here hx rfl (hb hby at_217) rfl rfl hr) ?_
      show Go p e s below _ _ _ _ T102 (mkF m 219 #[.val (.int p1), .val (.int p2), .val (.int p3), .val (.int p4), .val (.int (Int32.ofNat n)), .val (.int c0), .val (.int c1), .val (.int c2), .val (.int c3), .val (.int c4), .val (.ref x1), .val (.ref x2), .val (.int (Int32.ofNat ws.length)), .unset] [(.ref x2)])
      refine Go.of (fun _ hr => XS.iload X102.here hx rfl (hb hby at_219) rfl  hr) ?_
      show Go p e s below _ _ _ _ T102 (mkF m 221 #[.val (.int p1), .val (.int p2), .val (.int p3), .val (.int p4), .val (.int (Int32.ofNat n)), .val (.int c0), .val (.int c1), .val (.int c2), .val (.int c3), .val (.int c4), .val (.ref x1), .val (.ref x2), .val (.int (Int32.ofNat ws.length)), .unset] [(.int (Int32.ofNat ws.length)), (.ref x2)])
      refine Go.of (fun _ hr => XS.iload X102.here hx rfl (hb hby at_221) rfl  hr) ?_
      show Go p e s below _ _ _ _ T102 (mkF m 223 #[.val (.int p1), .val (.int p2), .val (.int p3), .val (.int p4), .val (.int (Int32.ofNat n)), .val (.int c0), .val (.int c1), .val (.int c2), .val (.int c3), .val (.int c4), .val (.ref x1), .val (.ref x2), .val (.int (Int32.ofNat ws.length)), .unset] [(.int c4), (.int (Int32.ofNat ws.length)), (.ref x2)])
      obtain ⟨cl104, Ar104, q104, S104, N104_, H104, G104⟩ := id V2
      have hin104 : ¬ ((Int32.ofNat ws.length) < 0 ∨ cl104.slots.size ≤ ((Int32.ofNat ws.length)).toNatClampNeg) := inb_of S104 ⟨oi_nn (by omega), oi_lt (n := 5) (by omega) (by decide) (by omega)⟩
      obtain ⟨T104, h104, X104, e104, W104, st104⟩ := stC X102 hx hZ e102 Ar104 (j := (Int32.ofNat ws.length)) hin104 (g := (mkF m 223 #[.val (.int p1), .val (.int p2), .val (.int p3), .val (.int p4), .val (.int (Int32.ofNat n)), .val (.int c0), .val (.int c1), .val (.int c2), .val (.int c3), .val (.int c4), .val (.ref x1), .val (.ref x2), .val (.int (Int32.ofNat ws.length)), .unset] [(.int c4), (.int (Int32.ofNat ws.length)), (.ref x2)])) rfl rfl (hb hby at_223)
      rw [nar_c hq_.1 hq_.2] at W104
      have V104 : Arv Z h104 x2 kw .char (5 : Int32) ((ws ++ [c4]).map Value.int) (.int 0) := by have q := own_push V2 W104 (by rw [List.length_map, oi_nat (by omega)]) (fits_c hq_.1 hq_.2); rw [push1] at q; exact q
      have N104 := Fr.snoc X104 N102 fr_x2
      have J104 := J102.wr W104 (List.mem_cons_self ..)
      have B104 := B102.mono (Nat.le_of_eq W104.size.symm)
      have O104 := O0.wr W104 (Nat.le_trans hb0 fr_x2)
      have K104 := K0.wr W104 (Or.inl (List.mem_of_getElem? (i := 0) rfl))
      refine Go.of (fun _ hr => st104 _ hr) ?_
      show Go p e s below _ _ _ _ T104 (mkF m 224 #[.val (.int p1), .val (.int p2), .val (.int p3), .val (.int p4), .val (.int (Int32.ofNat n)), .val (.int c0), .val (.int c1), .val (.int c2), .val (.int c3), .val (.int c4), .val (.ref x1), .val (.ref x2), .val (.int (Int32.ofNat ws.length)), .unset] [])
      refine Go.of (fun _ hr => XS.iinc X104.here hx rfl (hb hby at_224) rfl (l' := #[.val (.int p1), .val (.int p2), .val (.int p3), .val (.int p4), .val (.int (Int32.ofNat n)), .val (.int c0), .val (.int c1), .val (.int c2), .val (.int c3), .val (.int c4), .val (.ref x1), .val (.ref x2), .val (.int ((Int32.ofNat ws.length) + (1 : Int32))), .unset]) rfl hr) ?_
      show Go p e s below _ _ _ _ T104 (mkF m 227 #[.val (.int p1), .val (.int p2), .val (.int p3), .val (.int p4), .val (.int (Int32.ofNat n)), .val (.int c0), .val (.int c1), .val (.int c2), .val (.int c3), .val (.int c4), .val (.ref x1), .val (.ref x2), .val (.int ((Int32.ofNat ws.length) + (1 : Int32))), .unset] [])
      rw [show Int32.ofNat ws.length + (1 : Int32) = Int32.ofNat (ws ++ [c4]).length from by rw [List.length_append]; exact oi_succ (by omega)]
      have hfin := (ws_yes hws hl (by omega) hci hb214_103)
      have f105 := (V1.other W104 ne12)
      rw [hfin] at V104 ⊢
      exact law_fin l Z a0 hw p1 p2 p3 p4 c0 c1 c2 c3 c4 n x1 x2 _ _ (tkc n 5 cs) zc h104 n0 O104 nb hb0 (Nat.le_trans hnb K104.1) fs hfs S_F S_D S_H S_L (by rw [tk_full hn hcl]; exact hn) (tk_rng hr) (by rw [tk_full hn hcl]; exact f105) V104 S_C hzc Cc102 X104 e104 N104 (J104.sub (fun x hx => (List.mem_cons_of_mem _ hx))) B104
  · refine Go.of (fun _ hr => XS.icmpYes X0.here hx rfl (pc0 := 206) (pc' := 227) rfl (hb hby at_206) rfl (flt hb206_101).2.2.2 (by decide) (by decide) hr) ?_
    show Go p e s below _ _ _ _ T0 (mkF m 227 #[.val (.int p1), .val (.int p2), .val (.int p3), .val (.int p4), .val (.int (Int32.ofNat n)), .val (.int c0), .val (.int c1), .val (.int c2), .val (.int c3), .val (.int c4), .val (.ref x1), .val (.ref x2), .val (.int (Int32.ofNat ws.length)), .unset] [])
    have hfin := (ws_skip hws (oi_nltR (i := 4) (by decide) (by omega) hb206_101))
    rw [hfin] at V2 ⊢
    exact law_fin l Z a0 hw p1 p2 p3 p4 c0 c1 c2 c3 c4 n x1 x2 _ _ (tkc n 5 cs) zc h0 n0 O0 nb hb0 (Nat.le_trans hnb K0.1) fs hfs S_F S_D S_H S_L (by rw [tk_full hn hcl]; exact hn) (tk_rng hr) (by rw [tk_full hn hcl]; exact V1) V2 S_C hzc Cc X0 e0 N0 (J0.sub (fun x hx => (List.mem_cons_of_mem _ hx))) B0

set_option maxRecDepth 65536 in
set_option maxHeartbeats 40000000 in
theorem law_w3 (l : Launch) (Z : State) (a0 : Array Value) (hw : ∀ d ∈ tables_1, d.before a0 Z = true) {p : Program} {e : Env} {s b T0 : State} {m : MethodId} {args : Array Value} {below : List Frame} {meth : Method} {c : Code} {locs : List Loc} {ms : List Addr} (p1 p2 p3 p4 c0 c1 c2 c3 c4 : Int32) (n : Nat) (x1 x2 : Addr) (kx kw : ClassId) (cs ws : List Int32) (zc : Int32) (h0 : Heap) (n0 : Nat) (O0 : Old Z n0 h0) (nb : Nat) (hb0 : n0 ≤ nb) (hnb : nb ≤ h0.size) (fs : Value) (hfs : fs = .null ∨ ∃ a, fs = .ref a) (S_F : Sta Z Z.heap "jdk/internal/util/Preconditions" "SIOOBE_FORMATTER" "Ljava/util/function/BiFunction;" fs) (S_D : Sta Z Z.heap "java/lang/StringUTF16" "$assertionsDisabled" "Z" (.int 1)) (S_H : Sta Z Z.heap "java/lang/StringUTF16" "HI_BYTE_SHIFT" "I" (.int 0)) (S_L : Sta Z Z.heap "java/lang/StringUTF16" "LO_BYTE_SHIFT" "I" (.int 8)) (hn : n ≤ 5) (hcs : cs = [c0, c1, c2, c3, c4]) (hr : ∀ x ∈ cs, rng16 x) (fr_x2 : nb ≤ x2) (ne12 : x1 ≠ x2) (hws : ws = (tkc n 3 cs).filter dig) (V1 : Arv Z h0 x1 kx .char (Int32.ofNat n) ((tkc n 5 cs).map Value.int) (.int 0)) (V2 : Arv Z h0 x2 kw .char (5 : Int32) (ws.map Value.int) (.int 0)) (S_C : Sta Z Z.heap "java/lang/String" "COMPACT_STRINGS" "Z" (.int zc)) (hzc : ¬ zc = 0) (Cc : Cx Z p b m meth c "com/example/goldspan/goldspan/rules/TextDigitsPinLaw" code 14 "law" ret) (X0 : Stand p l e room_1 b m args below meth c T0 locs 2 10) (e0 : T0.heap = h0) (N0 : Fr nb locs) (J0 : Hd Z (x2 :: ms) b.vm h0) (B0 : Bs s b h0) :
    Go p e s below room_1.cells room_1.slots (Hd Z ms) (fun v vm h L => v = some (.int 1) ∧ Fr nb L) T0 (mkF m 179 #[.val (.int p1), .val (.int p2), .val (.int p3), .val (.int p4), .val (.int (Int32.ofNat n)), .val (.int c0), .val (.int c1), .val (.int c2), .val (.int c3), .val (.int c4), .val (.ref x1), .val (.ref x2), .val (.int (Int32.ofNat ws.length)), .unset] []) := by
  have hcl : cs.length = 5 := by rw [hcs]; rfl
  have hci : cs.getD 3 0 = c3 := by rw [hcs]; rfl
  have hq_ : rng16 c3 := hci ▸ hr _ (mem_getD (by omega))
  have hwl : ws.length ≤ 3 := ws_le hws
  obtain ⟨hx, hZ, hown, hby, hml, hnm, hret, hlk⟩ := id Cc
  have K0 := Keep.refl h0 [x2]
  show Go p e s below _ _ _ _ T0 (mkF m 179 #[.val (.int p1), .val (.int p2), .val (.int p3), .val (.int p4), .val (.int (Int32.ofNat n)), .val (.int c0), .val (.int c1), .val (.int c2), .val (.int c3), .val (.int c4), .val (.ref x1), .val (.ref x2), .val (.int (Int32.ofNat ws.length)), .unset] [])
  refine Go.of (fun _ hr => XS.iload X0.here hx rfl (hb hby at_179) rfl  hr) ?_
  show Go p e s below _ _ _ _ T0 (mkF m 181 #[.val (.int p1), .val (.int p2), .val (.int p3), .val (.int p4), .val (.int (Int32.ofNat n)), .val (.int c0), .val (.int c1), .val (.int c2), .val (.int c3), .val (.int c4), .val (.ref x1), .val (.ref x2), .val (.int (Int32.ofNat ws.length)), .unset] [(.int (Int32.ofNat n))])
  refine Go.of (fun _ hr => XS.iconst X0.here hx rfl (hb hby at_181) hr) ?_
  show Go p e s below _ _ _ _ T0 (mkF m 182 #[.val (.int p1), .val (.int p2), .val (.int p3), .val (.int p4), .val (.int (Int32.ofNat n)), .val (.int c0), .val (.int c1), .val (.int c2), .val (.int c3), .val (.int c4), .val (.ref x1), .val (.ref x2), .val (.int (Int32.ofNat ws.length)), .unset] [(.int (3 : Int32)), (.int (Int32.ofNat n))])
  by_cases hb182_101 : (3 : Int32) < (Int32.ofNat n)
  · refine Go.of (fun _ hr => XS.icmpNo X0.here hx rfl (hb hby at_182) rfl (tlt hb182_101).2.2.2 hr) ?_
    show Go p e s below _ _ _ _ T0 (mkF m 185 #[.val (.int p1), .val (.int p2), .val (.int p3), .val (.int p4), .val (.int (Int32.ofNat n)), .val (.int c0), .val (.int c1), .val (.int c2), .val (.int c3), .val (.int c4), .val (.ref x1), .val (.ref x2), .val (.int (Int32.ofNat ws.length)), .unset] [])
    have hl : 3 < n := oi_ltR (i := 3) (by decide) (by omega) hb182_101
    refine Go.of (fun _ hr => XS.iload X0.here hx rfl (hb hby at_185) rfl  hr) ?_
    show Go p e s below _ _ _ _ T0 (mkF m 187 #[.val (.int p1), .val (.int p2), .val (.int p3), .val (.int p4), .val (.int (Int32.ofNat n)), .val (.int c0), .val (.int c1), .val (.int c2), .val (.int c3), .val (.int c4), .val (.ref x1), .val (.ref x2), .val (.int (Int32.ofNat ws.length)), .unset] [(.int c3)])
    obtain ⟨_, b102, T102, h102, L102, e102, Cc102, X102, B102, J102, g102, hQ102, st102⟩ := own_callS Cc B0 J0 X0 (hw _ (List.mem_of_getElem? (i := 2) rfl)) (hw _ (List.mem_of_getElem? (i := 3) rfl)) (hw _ (List.mem_of_getElem? (i := 4) rfl)) (hw _ (List.mem_of_getElem? (i := 5) rfl)) (by decide) (rm1 l Z a0 hw [] c3 _ h0 n0 O0 h0.size (own_ole O0) K0.1) e0 (g := (mkF m 187 #[.val (.int p1), .val (.int p2), .val (.int p3), .val (.int p4), .val (.int (Int32.ofNat n)), .val (.int c0), .val (.int c1), .val (.int c2), .val (.int c3), .val (.int c4), .val (.ref x1), .val (.ref x2), .val (.int (Int32.ofNat ws.length)), .unset] [(.int c3)])) rfl (by rw [hml]; rfl) (argsL := [(.int c3)]) (rest := []) (lenOf pd15 rfl) rfl (W := 0) (by show 2 * 0 + _ ≤ _; exact Nat.le_of_eq rfl) (hb hby at_187) (by decide) (by decide) (by decide) (by decide)
    obtain ⟨rfl, Nq102, hh102⟩ := hQ102
    have N102 := Fr.app N0 (show Fr nb _ from fun y hy => Nat.le_trans hnb (Nq102 y hy))
    obtain ⟨hx, hZ, hown, hby, hml, hnm, hret, hlk⟩ := id Cc102
    rw [hh102] at e102 B102 J102
    refine Go.of st102 ?_
    show Go p e s below _ _ _ _ T102 (mkF m 190 #[.val (.int p1), .val (.int p2), .val (.int p3), .val (.int p4), .val (.int (Int32.ofNat n)), .val (.int c0), .val (.int c1), .val (.int c2), .val (.int c3), .val (.int c4), .val (.ref x1), .val (.ref x2), .val (.int (Int32.ofNat ws.length)), .unset] [(.int (if dig c3 then 1 else 0))])
    by_cases hb190_103 : (if dig c3 then 1 else 0) = (0 : Int32)
    · refine Go.of (fun _ hr => XS.ifYes X102.here hx rfl (pc0 := 190) (pc' := 203) rfl (hb hby at_190) rfl ((if0 _ _).trans (teq hb190_103).1) (by decide) (by decide) hr) ?_
      show Go p e s below _ _ _ _ T102 (mkF m 203 #[.val (.int p1), .val (.int p2), .val (.int p3), .val (.int p4), .val (.int (Int32.ofNat n)), .val (.int c0), .val (.int c1), .val (.int c2), .val (.int c3), .val (.int c4), .val (.ref x1), .val (.ref x2), .val (.int (Int32.ofNat ws.length)), .unset] [])
      exact law_w4 l Z a0 hw p1 p2 p3 p4 c0 c1 c2 c3 c4 n x1 x2 _ _ cs ws zc h0 n0 O0 nb hb0 (Nat.le_trans hnb K0.1) fs hfs S_F S_D S_H S_L hn hcs hr fr_x2 ne12 (ws_no hws hl (by omega) hci hb190_103) V1 V2 S_C hzc Cc102 X102 e102 N102 (J102.sub (own_sub1 (List.mem_cons_self ..) (fun x hx => (List.mem_cons_of_mem _ hx)))) B102
    · refine Go.of (fun _ hr => XS.ifNo X102.here hx rfl (hb hby at_190) rfl ((if0 _ _).trans (feq hb190_103).1) hr) ?_
      show Go p e s below _ _ _ _ T102 (mkF m 193 #[.val (.int p1), .val (.int p2), .val (.int p3), .val (.int p4), .val (.int (Int32.ofNat n)), .val (.int c0), .val (.int c1), .val (.int c2), .val (.int c3), .val (.int c4), .val (.ref x1), .val (.ref x2), .val (.int (Int32.ofNat ws.length)), .unset] [])
      refine Go.of (fun _ hr => XS.aload X102.here hx rfl (hb hby at_193) rfl rfl hr) ?_
      show Go p e s below _ _ _ _ T102 (mkF m 195 #[.val (.int p1), .val (.int p2), .val (.int p3), .val (.int p4), .val (.int (Int32.ofNat n)), .val (.int c0), .val (.int c1), .val (.int c2), .val (.int c3), .val (.int c4), .val (.ref x1), .val (.ref x2), .val (.int (Int32.ofNat ws.length)), .unset] [(.ref x2)])
      refine Go.of (fun _ hr => XS.iload X102.here hx rfl (hb hby at_195) rfl  hr) ?_
      show Go p e s below _ _ _ _ T102 (mkF m 197 #[.val (.int p1), .val (.int p2), .val (.int p3), .val (.int p4), .val (.int (Int32.ofNat n)), .val (.int c0), .val (.int c1), .val (.int c2), .val (.int c3), .val (.int c4), .val (.ref x1), .val (.ref x2), .val (.int (Int32.ofNat ws.length)), .unset] [(.int (Int32.ofNat ws.length)), (.ref x2)])
      refine Go.of (fun _ hr => XS.iload X102.here hx rfl (hb hby at_197) rfl  hr) ?_
      show Go p e s below _ _ _ _ T102 (mkF m 199 #[.val (.int p1), .val (.int p2), .val (.int p3), .val (.int p4), .val (.int (Int32.ofNat n)), .val (.int c0), .val (.int c1), .val (.int c2), .val (.int c3), .val (.int c4), .val (.ref x1), .val (.ref x2), .val (.int (Int32.ofNat ws.length)), .unset] [(.int c3), (.int (Int32.ofNat ws.length)), (.ref x2)])
      obtain ⟨cl104, Ar104, q104, S104, N104_, H104, G104⟩ := id V2
      have hin104 : ¬ ((Int32.ofNat ws.length) < 0 ∨ cl104.slots.size ≤ ((Int32.ofNat ws.length)).toNatClampNeg) := inb_of S104 ⟨oi_nn (by omega), oi_lt (n := 5) (by omega) (by decide) (by omega)⟩
      obtain ⟨T104, h104, X104, e104, W104, st104⟩ := stC X102 hx hZ e102 Ar104 (j := (Int32.ofNat ws.length)) hin104 (g := (mkF m 199 #[.val (.int p1), .val (.int p2), .val (.int p3), .val (.int p4), .val (.int (Int32.ofNat n)), .val (.int c0), .val (.int c1), .val (.int c2), .val (.int c3), .val (.int c4), .val (.ref x1), .val (.ref x2), .val (.int (Int32.ofNat ws.length)), .unset] [(.int c3), (.int (Int32.ofNat ws.length)), (.ref x2)])) rfl rfl (hb hby at_199)
      rw [nar_c hq_.1 hq_.2] at W104
      have V104 : Arv Z h104 x2 kw .char (5 : Int32) ((ws ++ [c3]).map Value.int) (.int 0) := by have q := own_push V2 W104 (by rw [List.length_map, oi_nat (by omega)]) (fits_c hq_.1 hq_.2); rw [push1] at q; exact q
      have N104 := Fr.snoc X104 N102 fr_x2
      have J104 := J102.wr W104 (List.mem_cons_self ..)
      have B104 := B102.mono (Nat.le_of_eq W104.size.symm)
      have O104 := O0.wr W104 (Nat.le_trans hb0 fr_x2)
      have K104 := K0.wr W104 (Or.inl (List.mem_of_getElem? (i := 0) rfl))
      refine Go.of (fun _ hr => st104 _ hr) ?_
      show Go p e s below _ _ _ _ T104 (mkF m 200 #[.val (.int p1), .val (.int p2), .val (.int p3), .val (.int p4), .val (.int (Int32.ofNat n)), .val (.int c0), .val (.int c1), .val (.int c2), .val (.int c3), .val (.int c4), .val (.ref x1), .val (.ref x2), .val (.int (Int32.ofNat ws.length)), .unset] [])
      refine Go.of (fun _ hr => XS.iinc X104.here hx rfl (hb hby at_200) rfl (l' := #[.val (.int p1), .val (.int p2), .val (.int p3), .val (.int p4), .val (.int (Int32.ofNat n)), .val (.int c0), .val (.int c1), .val (.int c2), .val (.int c3), .val (.int c4), .val (.ref x1), .val (.ref x2), .val (.int ((Int32.ofNat ws.length) + (1 : Int32))), .unset]) rfl hr) ?_
      show Go p e s below _ _ _ _ T104 (mkF m 203 #[.val (.int p1), .val (.int p2), .val (.int p3), .val (.int p4), .val (.int (Int32.ofNat n)), .val (.int c0), .val (.int c1), .val (.int c2), .val (.int c3), .val (.int c4), .val (.ref x1), .val (.ref x2), .val (.int ((Int32.ofNat ws.length) + (1 : Int32))), .unset] [])
      rw [show Int32.ofNat ws.length + (1 : Int32) = Int32.ofNat (ws ++ [c3]).length from by rw [List.length_append]; exact oi_succ (by omega)]
      have f105 := (V1.other W104 ne12)
      exact law_w4 l Z a0 hw p1 p2 p3 p4 c0 c1 c2 c3 c4 n x1 x2 _ _ cs (ws ++ [c3]) zc h104 n0 O104 nb hb0 (Nat.le_trans hnb K104.1) fs hfs S_F S_D S_H S_L hn hcs hr fr_x2 ne12 (ws_yes hws hl (by omega) hci hb190_103) f105 V104 S_C hzc Cc102 X104 e104 N104 (J104.sub (own_sub1 (List.mem_cons_self ..) (fun x hx => (List.mem_cons_of_mem _ hx)))) B104
  · refine Go.of (fun _ hr => XS.icmpYes X0.here hx rfl (pc0 := 182) (pc' := 203) rfl (hb hby at_182) rfl (flt hb182_101).2.2.2 (by decide) (by decide) hr) ?_
    show Go p e s below _ _ _ _ T0 (mkF m 203 #[.val (.int p1), .val (.int p2), .val (.int p3), .val (.int p4), .val (.int (Int32.ofNat n)), .val (.int c0), .val (.int c1), .val (.int c2), .val (.int c3), .val (.int c4), .val (.ref x1), .val (.ref x2), .val (.int (Int32.ofNat ws.length)), .unset] [])
    exact law_w4 l Z a0 hw p1 p2 p3 p4 c0 c1 c2 c3 c4 n x1 x2 _ _ cs ws zc h0 n0 O0 nb hb0 (Nat.le_trans hnb K0.1) fs hfs S_F S_D S_H S_L hn hcs hr fr_x2 ne12 (ws_skip hws (oi_nltR (i := 3) (by decide) (by omega) hb182_101)) V1 V2 S_C hzc Cc X0 e0 N0 (J0.sub (own_sub1 (List.mem_cons_self ..) (fun x hx => (List.mem_cons_of_mem _ hx)))) B0

set_option maxRecDepth 65536 in
set_option maxHeartbeats 40000000 in
theorem law_w2 (l : Launch) (Z : State) (a0 : Array Value) (hw : ∀ d ∈ tables_1, d.before a0 Z = true) {p : Program} {e : Env} {s b T0 : State} {m : MethodId} {args : Array Value} {below : List Frame} {meth : Method} {c : Code} {locs : List Loc} {ms : List Addr} (p1 p2 p3 p4 c0 c1 c2 c3 c4 : Int32) (n : Nat) (x1 x2 : Addr) (kx kw : ClassId) (cs ws : List Int32) (zc : Int32) (h0 : Heap) (n0 : Nat) (O0 : Old Z n0 h0) (nb : Nat) (hb0 : n0 ≤ nb) (hnb : nb ≤ h0.size) (fs : Value) (hfs : fs = .null ∨ ∃ a, fs = .ref a) (S_F : Sta Z Z.heap "jdk/internal/util/Preconditions" "SIOOBE_FORMATTER" "Ljava/util/function/BiFunction;" fs) (S_D : Sta Z Z.heap "java/lang/StringUTF16" "$assertionsDisabled" "Z" (.int 1)) (S_H : Sta Z Z.heap "java/lang/StringUTF16" "HI_BYTE_SHIFT" "I" (.int 0)) (S_L : Sta Z Z.heap "java/lang/StringUTF16" "LO_BYTE_SHIFT" "I" (.int 8)) (hn : n ≤ 5) (hcs : cs = [c0, c1, c2, c3, c4]) (hr : ∀ x ∈ cs, rng16 x) (fr_x2 : nb ≤ x2) (ne12 : x1 ≠ x2) (hws : ws = (tkc n 2 cs).filter dig) (V1 : Arv Z h0 x1 kx .char (Int32.ofNat n) ((tkc n 5 cs).map Value.int) (.int 0)) (V2 : Arv Z h0 x2 kw .char (5 : Int32) (ws.map Value.int) (.int 0)) (S_C : Sta Z Z.heap "java/lang/String" "COMPACT_STRINGS" "Z" (.int zc)) (hzc : ¬ zc = 0) (Cc : Cx Z p b m meth c "com/example/goldspan/goldspan/rules/TextDigitsPinLaw" code 14 "law" ret) (X0 : Stand p l e room_1 b m args below meth c T0 locs 2 10) (e0 : T0.heap = h0) (N0 : Fr nb locs) (J0 : Hd Z (x2 :: ms) b.vm h0) (B0 : Bs s b h0) :
    Go p e s below room_1.cells room_1.slots (Hd Z ms) (fun v vm h L => v = some (.int 1) ∧ Fr nb L) T0 (mkF m 155 #[.val (.int p1), .val (.int p2), .val (.int p3), .val (.int p4), .val (.int (Int32.ofNat n)), .val (.int c0), .val (.int c1), .val (.int c2), .val (.int c3), .val (.int c4), .val (.ref x1), .val (.ref x2), .val (.int (Int32.ofNat ws.length)), .unset] []) := by
  have hcl : cs.length = 5 := by rw [hcs]; rfl
  have hci : cs.getD 2 0 = c2 := by rw [hcs]; rfl
  have hq_ : rng16 c2 := hci ▸ hr _ (mem_getD (by omega))
  have hwl : ws.length ≤ 2 := ws_le hws
  obtain ⟨hx, hZ, hown, hby, hml, hnm, hret, hlk⟩ := id Cc
  have K0 := Keep.refl h0 [x2]
  show Go p e s below _ _ _ _ T0 (mkF m 155 #[.val (.int p1), .val (.int p2), .val (.int p3), .val (.int p4), .val (.int (Int32.ofNat n)), .val (.int c0), .val (.int c1), .val (.int c2), .val (.int c3), .val (.int c4), .val (.ref x1), .val (.ref x2), .val (.int (Int32.ofNat ws.length)), .unset] [])
  refine Go.of (fun _ hr => XS.iload X0.here hx rfl (hb hby at_155) rfl  hr) ?_
  show Go p e s below _ _ _ _ T0 (mkF m 157 #[.val (.int p1), .val (.int p2), .val (.int p3), .val (.int p4), .val (.int (Int32.ofNat n)), .val (.int c0), .val (.int c1), .val (.int c2), .val (.int c3), .val (.int c4), .val (.ref x1), .val (.ref x2), .val (.int (Int32.ofNat ws.length)), .unset] [(.int (Int32.ofNat n))])
  refine Go.of (fun _ hr => XS.iconst X0.here hx rfl (hb hby at_157) hr) ?_
  show Go p e s below _ _ _ _ T0 (mkF m 158 #[.val (.int p1), .val (.int p2), .val (.int p3), .val (.int p4), .val (.int (Int32.ofNat n)), .val (.int c0), .val (.int c1), .val (.int c2), .val (.int c3), .val (.int c4), .val (.ref x1), .val (.ref x2), .val (.int (Int32.ofNat ws.length)), .unset] [(.int (2 : Int32)), (.int (Int32.ofNat n))])
  by_cases hb158_101 : (2 : Int32) < (Int32.ofNat n)
  · refine Go.of (fun _ hr => XS.icmpNo X0.here hx rfl (hb hby at_158) rfl (tlt hb158_101).2.2.2 hr) ?_
    show Go p e s below _ _ _ _ T0 (mkF m 161 #[.val (.int p1), .val (.int p2), .val (.int p3), .val (.int p4), .val (.int (Int32.ofNat n)), .val (.int c0), .val (.int c1), .val (.int c2), .val (.int c3), .val (.int c4), .val (.ref x1), .val (.ref x2), .val (.int (Int32.ofNat ws.length)), .unset] [])
    have hl : 2 < n := oi_ltR (i := 2) (by decide) (by omega) hb158_101
    refine Go.of (fun _ hr => XS.iload X0.here hx rfl (hb hby at_161) rfl  hr) ?_
    show Go p e s below _ _ _ _ T0 (mkF m 163 #[.val (.int p1), .val (.int p2), .val (.int p3), .val (.int p4), .val (.int (Int32.ofNat n)), .val (.int c0), .val (.int c1), .val (.int c2), .val (.int c3), .val (.int c4), .val (.ref x1), .val (.ref x2), .val (.int (Int32.ofNat ws.length)), .unset] [(.int c2)])
    obtain ⟨_, b102, T102, h102, L102, e102, Cc102, X102, B102, J102, g102, hQ102, st102⟩ := own_callS Cc B0 J0 X0 (hw _ (List.mem_of_getElem? (i := 2) rfl)) (hw _ (List.mem_of_getElem? (i := 3) rfl)) (hw _ (List.mem_of_getElem? (i := 4) rfl)) (hw _ (List.mem_of_getElem? (i := 5) rfl)) (by decide) (rm1 l Z a0 hw [] c2 _ h0 n0 O0 h0.size (own_ole O0) K0.1) e0 (g := (mkF m 163 #[.val (.int p1), .val (.int p2), .val (.int p3), .val (.int p4), .val (.int (Int32.ofNat n)), .val (.int c0), .val (.int c1), .val (.int c2), .val (.int c3), .val (.int c4), .val (.ref x1), .val (.ref x2), .val (.int (Int32.ofNat ws.length)), .unset] [(.int c2)])) rfl (by rw [hml]; rfl) (argsL := [(.int c2)]) (rest := []) (lenOf pd15 rfl) rfl (W := 0) (by show 2 * 0 + _ ≤ _; exact Nat.le_of_eq rfl) (hb hby at_163) (by decide) (by decide) (by decide) (by decide)
    obtain ⟨rfl, Nq102, hh102⟩ := hQ102
    have N102 := Fr.app N0 (show Fr nb _ from fun y hy => Nat.le_trans hnb (Nq102 y hy))
    obtain ⟨hx, hZ, hown, hby, hml, hnm, hret, hlk⟩ := id Cc102
    rw [hh102] at e102 B102 J102
    refine Go.of st102 ?_
    show Go p e s below _ _ _ _ T102 (mkF m 166 #[.val (.int p1), .val (.int p2), .val (.int p3), .val (.int p4), .val (.int (Int32.ofNat n)), .val (.int c0), .val (.int c1), .val (.int c2), .val (.int c3), .val (.int c4), .val (.ref x1), .val (.ref x2), .val (.int (Int32.ofNat ws.length)), .unset] [(.int (if dig c2 then 1 else 0))])
    by_cases hb166_103 : (if dig c2 then 1 else 0) = (0 : Int32)
    · refine Go.of (fun _ hr => XS.ifYes X102.here hx rfl (pc0 := 166) (pc' := 179) rfl (hb hby at_166) rfl ((if0 _ _).trans (teq hb166_103).1) (by decide) (by decide) hr) ?_
      show Go p e s below _ _ _ _ T102 (mkF m 179 #[.val (.int p1), .val (.int p2), .val (.int p3), .val (.int p4), .val (.int (Int32.ofNat n)), .val (.int c0), .val (.int c1), .val (.int c2), .val (.int c3), .val (.int c4), .val (.ref x1), .val (.ref x2), .val (.int (Int32.ofNat ws.length)), .unset] [])
      exact law_w3 l Z a0 hw p1 p2 p3 p4 c0 c1 c2 c3 c4 n x1 x2 _ _ cs ws zc h0 n0 O0 nb hb0 (Nat.le_trans hnb K0.1) fs hfs S_F S_D S_H S_L hn hcs hr fr_x2 ne12 (ws_no hws hl (by omega) hci hb166_103) V1 V2 S_C hzc Cc102 X102 e102 N102 (J102.sub (own_sub1 (List.mem_cons_self ..) (fun x hx => (List.mem_cons_of_mem _ hx)))) B102
    · refine Go.of (fun _ hr => XS.ifNo X102.here hx rfl (hb hby at_166) rfl ((if0 _ _).trans (feq hb166_103).1) hr) ?_
      show Go p e s below _ _ _ _ T102 (mkF m 169 #[.val (.int p1), .val (.int p2), .val (.int p3), .val (.int p4), .val (.int (Int32.ofNat n)), .val (.int c0), .val (.int c1), .val (.int c2), .val (.int c3), .val (.int c4), .val (.ref x1), .val (.ref x2), .val (.int (Int32.ofNat ws.length)), .unset] [])
      refine Go.of (fun _ hr => XS.aload X102.here hx rfl (hb hby at_169) rfl rfl hr) ?_
      show Go p e s below _ _ _ _ T102 (mkF m 171 #[.val (.int p1), .val (.int p2), .val (.int p3), .val (.int p4), .val (.int (Int32.ofNat n)), .val (.int c0), .val (.int c1), .val (.int c2), .val (.int c3), .val (.int c4), .val (.ref x1), .val (.ref x2), .val (.int (Int32.ofNat ws.length)), .unset] [(.ref x2)])
      refine Go.of (fun _ hr => XS.iload X102.here hx rfl (hb hby at_171) rfl  hr) ?_
      show Go p e s below _ _ _ _ T102 (mkF m 173 #[.val (.int p1), .val (.int p2), .val (.int p3), .val (.int p4), .val (.int (Int32.ofNat n)), .val (.int c0), .val (.int c1), .val (.int c2), .val (.int c3), .val (.int c4), .val (.ref x1), .val (.ref x2), .val (.int (Int32.ofNat ws.length)), .unset] [(.int (Int32.ofNat ws.length)), (.ref x2)])
      refine Go.of (fun _ hr => XS.iload X102.here hx rfl (hb hby at_173) rfl  hr) ?_
      show Go p e s below _ _ _ _ T102 (mkF m 175 #[.val (.int p1), .val (.int p2), .val (.int p3), .val (.int p4), .val (.int (Int32.ofNat n)), .val (.int c0), .val (.int c1), .val (.int c2), .val (.int c3), .val (.int c4), .val (.ref x1), .val (.ref x2), .val (.int (Int32.ofNat ws.length)), .unset] [(.int c2), (.int (Int32.ofNat ws.length)), (.ref x2)])
      obtain ⟨cl104, Ar104, q104, S104, N104_, H104, G104⟩ := id V2
      have hin104 : ¬ ((Int32.ofNat ws.length) < 0 ∨ cl104.slots.size ≤ ((Int32.ofNat ws.length)).toNatClampNeg) := inb_of S104 ⟨oi_nn (by omega), oi_lt (n := 5) (by omega) (by decide) (by omega)⟩
      obtain ⟨T104, h104, X104, e104, W104, st104⟩ := stC X102 hx hZ e102 Ar104 (j := (Int32.ofNat ws.length)) hin104 (g := (mkF m 175 #[.val (.int p1), .val (.int p2), .val (.int p3), .val (.int p4), .val (.int (Int32.ofNat n)), .val (.int c0), .val (.int c1), .val (.int c2), .val (.int c3), .val (.int c4), .val (.ref x1), .val (.ref x2), .val (.int (Int32.ofNat ws.length)), .unset] [(.int c2), (.int (Int32.ofNat ws.length)), (.ref x2)])) rfl rfl (hb hby at_175)
      rw [nar_c hq_.1 hq_.2] at W104
      have V104 : Arv Z h104 x2 kw .char (5 : Int32) ((ws ++ [c2]).map Value.int) (.int 0) := by have q := own_push V2 W104 (by rw [List.length_map, oi_nat (by omega)]) (fits_c hq_.1 hq_.2); rw [push1] at q; exact q
      have N104 := Fr.snoc X104 N102 fr_x2
      have J104 := J102.wr W104 (List.mem_cons_self ..)
      have B104 := B102.mono (Nat.le_of_eq W104.size.symm)
      have O104 := O0.wr W104 (Nat.le_trans hb0 fr_x2)
      have K104 := K0.wr W104 (Or.inl (List.mem_of_getElem? (i := 0) rfl))
      refine Go.of (fun _ hr => st104 _ hr) ?_
      show Go p e s below _ _ _ _ T104 (mkF m 176 #[.val (.int p1), .val (.int p2), .val (.int p3), .val (.int p4), .val (.int (Int32.ofNat n)), .val (.int c0), .val (.int c1), .val (.int c2), .val (.int c3), .val (.int c4), .val (.ref x1), .val (.ref x2), .val (.int (Int32.ofNat ws.length)), .unset] [])
      refine Go.of (fun _ hr => XS.iinc X104.here hx rfl (hb hby at_176) rfl (l' := #[.val (.int p1), .val (.int p2), .val (.int p3), .val (.int p4), .val (.int (Int32.ofNat n)), .val (.int c0), .val (.int c1), .val (.int c2), .val (.int c3), .val (.int c4), .val (.ref x1), .val (.ref x2), .val (.int ((Int32.ofNat ws.length) + (1 : Int32))), .unset]) rfl hr) ?_
      show Go p e s below _ _ _ _ T104 (mkF m 179 #[.val (.int p1), .val (.int p2), .val (.int p3), .val (.int p4), .val (.int (Int32.ofNat n)), .val (.int c0), .val (.int c1), .val (.int c2), .val (.int c3), .val (.int c4), .val (.ref x1), .val (.ref x2), .val (.int ((Int32.ofNat ws.length) + (1 : Int32))), .unset] [])
      rw [show Int32.ofNat ws.length + (1 : Int32) = Int32.ofNat (ws ++ [c2]).length from by rw [List.length_append]; exact oi_succ (by omega)]
      have f105 := (V1.other W104 ne12)
      exact law_w3 l Z a0 hw p1 p2 p3 p4 c0 c1 c2 c3 c4 n x1 x2 _ _ cs (ws ++ [c2]) zc h104 n0 O104 nb hb0 (Nat.le_trans hnb K104.1) fs hfs S_F S_D S_H S_L hn hcs hr fr_x2 ne12 (ws_yes hws hl (by omega) hci hb166_103) f105 V104 S_C hzc Cc102 X104 e104 N104 (J104.sub (own_sub1 (List.mem_cons_self ..) (fun x hx => (List.mem_cons_of_mem _ hx)))) B104
  · refine Go.of (fun _ hr => XS.icmpYes X0.here hx rfl (pc0 := 158) (pc' := 179) rfl (hb hby at_158) rfl (flt hb158_101).2.2.2 (by decide) (by decide) hr) ?_
    show Go p e s below _ _ _ _ T0 (mkF m 179 #[.val (.int p1), .val (.int p2), .val (.int p3), .val (.int p4), .val (.int (Int32.ofNat n)), .val (.int c0), .val (.int c1), .val (.int c2), .val (.int c3), .val (.int c4), .val (.ref x1), .val (.ref x2), .val (.int (Int32.ofNat ws.length)), .unset] [])
    exact law_w3 l Z a0 hw p1 p2 p3 p4 c0 c1 c2 c3 c4 n x1 x2 _ _ cs ws zc h0 n0 O0 nb hb0 (Nat.le_trans hnb K0.1) fs hfs S_F S_D S_H S_L hn hcs hr fr_x2 ne12 (ws_skip hws (oi_nltR (i := 2) (by decide) (by omega) hb158_101)) V1 V2 S_C hzc Cc X0 e0 N0 (J0.sub (own_sub1 (List.mem_cons_self ..) (fun x hx => (List.mem_cons_of_mem _ hx)))) B0

set_option maxRecDepth 65536 in
set_option maxHeartbeats 40000000 in
theorem law_w1 (l : Launch) (Z : State) (a0 : Array Value) (hw : ∀ d ∈ tables_1, d.before a0 Z = true) {p : Program} {e : Env} {s b T0 : State} {m : MethodId} {args : Array Value} {below : List Frame} {meth : Method} {c : Code} {locs : List Loc} {ms : List Addr} (p1 p2 p3 p4 c0 c1 c2 c3 c4 : Int32) (n : Nat) (x1 x2 : Addr) (kx kw : ClassId) (cs ws : List Int32) (zc : Int32) (h0 : Heap) (n0 : Nat) (O0 : Old Z n0 h0) (nb : Nat) (hb0 : n0 ≤ nb) (hnb : nb ≤ h0.size) (fs : Value) (hfs : fs = .null ∨ ∃ a, fs = .ref a) (S_F : Sta Z Z.heap "jdk/internal/util/Preconditions" "SIOOBE_FORMATTER" "Ljava/util/function/BiFunction;" fs) (S_D : Sta Z Z.heap "java/lang/StringUTF16" "$assertionsDisabled" "Z" (.int 1)) (S_H : Sta Z Z.heap "java/lang/StringUTF16" "HI_BYTE_SHIFT" "I" (.int 0)) (S_L : Sta Z Z.heap "java/lang/StringUTF16" "LO_BYTE_SHIFT" "I" (.int 8)) (hn : n ≤ 5) (hcs : cs = [c0, c1, c2, c3, c4]) (hr : ∀ x ∈ cs, rng16 x) (fr_x2 : nb ≤ x2) (ne12 : x1 ≠ x2) (hws : ws = (tkc n 1 cs).filter dig) (V1 : Arv Z h0 x1 kx .char (Int32.ofNat n) ((tkc n 5 cs).map Value.int) (.int 0)) (V2 : Arv Z h0 x2 kw .char (5 : Int32) (ws.map Value.int) (.int 0)) (S_C : Sta Z Z.heap "java/lang/String" "COMPACT_STRINGS" "Z" (.int zc)) (hzc : ¬ zc = 0) (Cc : Cx Z p b m meth c "com/example/goldspan/goldspan/rules/TextDigitsPinLaw" code 14 "law" ret) (X0 : Stand p l e room_1 b m args below meth c T0 locs 2 10) (e0 : T0.heap = h0) (N0 : Fr nb locs) (J0 : Hd Z (x2 :: ms) b.vm h0) (B0 : Bs s b h0) :
    Go p e s below room_1.cells room_1.slots (Hd Z ms) (fun v vm h L => v = some (.int 1) ∧ Fr nb L) T0 (mkF m 131 #[.val (.int p1), .val (.int p2), .val (.int p3), .val (.int p4), .val (.int (Int32.ofNat n)), .val (.int c0), .val (.int c1), .val (.int c2), .val (.int c3), .val (.int c4), .val (.ref x1), .val (.ref x2), .val (.int (Int32.ofNat ws.length)), .unset] []) := by
  have hcl : cs.length = 5 := by rw [hcs]; rfl
  have hci : cs.getD 1 0 = c1 := by rw [hcs]; rfl
  have hq_ : rng16 c1 := hci ▸ hr _ (mem_getD (by omega))
  have hwl : ws.length ≤ 1 := ws_le hws
  obtain ⟨hx, hZ, hown, hby, hml, hnm, hret, hlk⟩ := id Cc
  have K0 := Keep.refl h0 [x2]
  show Go p e s below _ _ _ _ T0 (mkF m 131 #[.val (.int p1), .val (.int p2), .val (.int p3), .val (.int p4), .val (.int (Int32.ofNat n)), .val (.int c0), .val (.int c1), .val (.int c2), .val (.int c3), .val (.int c4), .val (.ref x1), .val (.ref x2), .val (.int (Int32.ofNat ws.length)), .unset] [])
  refine Go.of (fun _ hr => XS.iload X0.here hx rfl (hb hby at_131) rfl  hr) ?_
  show Go p e s below _ _ _ _ T0 (mkF m 133 #[.val (.int p1), .val (.int p2), .val (.int p3), .val (.int p4), .val (.int (Int32.ofNat n)), .val (.int c0), .val (.int c1), .val (.int c2), .val (.int c3), .val (.int c4), .val (.ref x1), .val (.ref x2), .val (.int (Int32.ofNat ws.length)), .unset] [(.int (Int32.ofNat n))])
  refine Go.of (fun _ hr => XS.iconst X0.here hx rfl (hb hby at_133) hr) ?_
  show Go p e s below _ _ _ _ T0 (mkF m 134 #[.val (.int p1), .val (.int p2), .val (.int p3), .val (.int p4), .val (.int (Int32.ofNat n)), .val (.int c0), .val (.int c1), .val (.int c2), .val (.int c3), .val (.int c4), .val (.ref x1), .val (.ref x2), .val (.int (Int32.ofNat ws.length)), .unset] [(.int (1 : Int32)), (.int (Int32.ofNat n))])
  by_cases hb134_101 : (1 : Int32) < (Int32.ofNat n)
  · refine Go.of (fun _ hr => XS.icmpNo X0.here hx rfl (hb hby at_134) rfl (tlt hb134_101).2.2.2 hr) ?_
    show Go p e s below _ _ _ _ T0 (mkF m 137 #[.val (.int p1), .val (.int p2), .val (.int p3), .val (.int p4), .val (.int (Int32.ofNat n)), .val (.int c0), .val (.int c1), .val (.int c2), .val (.int c3), .val (.int c4), .val (.ref x1), .val (.ref x2), .val (.int (Int32.ofNat ws.length)), .unset] [])
    have hl : 1 < n := oi_ltR (i := 1) (by decide) (by omega) hb134_101
    refine Go.of (fun _ hr => XS.iload X0.here hx rfl (hb hby at_137) rfl  hr) ?_
    show Go p e s below _ _ _ _ T0 (mkF m 139 #[.val (.int p1), .val (.int p2), .val (.int p3), .val (.int p4), .val (.int (Int32.ofNat n)), .val (.int c0), .val (.int c1), .val (.int c2), .val (.int c3), .val (.int c4), .val (.ref x1), .val (.ref x2), .val (.int (Int32.ofNat ws.length)), .unset] [(.int c1)])
    obtain ⟨_, b102, T102, h102, L102, e102, Cc102, X102, B102, J102, g102, hQ102, st102⟩ := own_callS Cc B0 J0 X0 (hw _ (List.mem_of_getElem? (i := 2) rfl)) (hw _ (List.mem_of_getElem? (i := 3) rfl)) (hw _ (List.mem_of_getElem? (i := 4) rfl)) (hw _ (List.mem_of_getElem? (i := 5) rfl)) (by decide) (rm1 l Z a0 hw [] c1 _ h0 n0 O0 h0.size (own_ole O0) K0.1) e0 (g := (mkF m 139 #[.val (.int p1), .val (.int p2), .val (.int p3), .val (.int p4), .val (.int (Int32.ofNat n)), .val (.int c0), .val (.int c1), .val (.int c2), .val (.int c3), .val (.int c4), .val (.ref x1), .val (.ref x2), .val (.int (Int32.ofNat ws.length)), .unset] [(.int c1)])) rfl (by rw [hml]; rfl) (argsL := [(.int c1)]) (rest := []) (lenOf pd15 rfl) rfl (W := 0) (by show 2 * 0 + _ ≤ _; exact Nat.le_of_eq rfl) (hb hby at_139) (by decide) (by decide) (by decide) (by decide)
    obtain ⟨rfl, Nq102, hh102⟩ := hQ102
    have N102 := Fr.app N0 (show Fr nb _ from fun y hy => Nat.le_trans hnb (Nq102 y hy))
    obtain ⟨hx, hZ, hown, hby, hml, hnm, hret, hlk⟩ := id Cc102
    rw [hh102] at e102 B102 J102
    refine Go.of st102 ?_
    show Go p e s below _ _ _ _ T102 (mkF m 142 #[.val (.int p1), .val (.int p2), .val (.int p3), .val (.int p4), .val (.int (Int32.ofNat n)), .val (.int c0), .val (.int c1), .val (.int c2), .val (.int c3), .val (.int c4), .val (.ref x1), .val (.ref x2), .val (.int (Int32.ofNat ws.length)), .unset] [(.int (if dig c1 then 1 else 0))])
    by_cases hb142_103 : (if dig c1 then 1 else 0) = (0 : Int32)
    · refine Go.of (fun _ hr => XS.ifYes X102.here hx rfl (pc0 := 142) (pc' := 155) rfl (hb hby at_142) rfl ((if0 _ _).trans (teq hb142_103).1) (by decide) (by decide) hr) ?_
      show Go p e s below _ _ _ _ T102 (mkF m 155 #[.val (.int p1), .val (.int p2), .val (.int p3), .val (.int p4), .val (.int (Int32.ofNat n)), .val (.int c0), .val (.int c1), .val (.int c2), .val (.int c3), .val (.int c4), .val (.ref x1), .val (.ref x2), .val (.int (Int32.ofNat ws.length)), .unset] [])
      exact law_w2 l Z a0 hw p1 p2 p3 p4 c0 c1 c2 c3 c4 n x1 x2 _ _ cs ws zc h0 n0 O0 nb hb0 (Nat.le_trans hnb K0.1) fs hfs S_F S_D S_H S_L hn hcs hr fr_x2 ne12 (ws_no hws hl (by omega) hci hb142_103) V1 V2 S_C hzc Cc102 X102 e102 N102 (J102.sub (own_sub1 (List.mem_cons_self ..) (fun x hx => (List.mem_cons_of_mem _ hx)))) B102
    · refine Go.of (fun _ hr => XS.ifNo X102.here hx rfl (hb hby at_142) rfl ((if0 _ _).trans (feq hb142_103).1) hr) ?_
      show Go p e s below _ _ _ _ T102 (mkF m 145 #[.val (.int p1), .val (.int p2), .val (.int p3), .val (.int p4), .val (.int (Int32.ofNat n)), .val (.int c0), .val (.int c1), .val (.int c2), .val (.int c3), .val (.int c4), .val (.ref x1), .val (.ref x2), .val (.int (Int32.ofNat ws.length)), .unset] [])
      refine Go.of (fun _ hr => XS.aload X102.here hx rfl (hb hby at_145) rfl rfl hr) ?_
      show Go p e s below _ _ _ _ T102 (mkF m 147 #[.val (.int p1), .val (.int p2), .val (.int p3), .val (.int p4), .val (.int (Int32.ofNat n)), .val (.int c0), .val (.int c1), .val (.int c2), .val (.int c3), .val (.int c4), .val (.ref x1), .val (.ref x2), .val (.int (Int32.ofNat ws.length)), .unset] [(.ref x2)])
      refine Go.of (fun _ hr => XS.iload X102.here hx rfl (hb hby at_147) rfl  hr) ?_
      show Go p e s below _ _ _ _ T102 (mkF m 149 #[.val (.int p1), .val (.int p2), .val (.int p3), .val (.int p4), .val (.int (Int32.ofNat n)), .val (.int c0), .val (.int c1), .val (.int c2), .val (.int c3), .val (.int c4), .val (.ref x1), .val (.ref x2), .val (.int (Int32.ofNat ws.length)), .unset] [(.int (Int32.ofNat ws.length)), (.ref x2)])
      refine Go.of (fun _ hr => XS.iload X102.here hx rfl (hb hby at_149) rfl  hr) ?_
      show Go p e s below _ _ _ _ T102 (mkF m 151 #[.val (.int p1), .val (.int p2), .val (.int p3), .val (.int p4), .val (.int (Int32.ofNat n)), .val (.int c0), .val (.int c1), .val (.int c2), .val (.int c3), .val (.int c4), .val (.ref x1), .val (.ref x2), .val (.int (Int32.ofNat ws.length)), .unset] [(.int c1), (.int (Int32.ofNat ws.length)), (.ref x2)])
      obtain ⟨cl104, Ar104, q104, S104, N104_, H104, G104⟩ := id V2
      have hin104 : ¬ ((Int32.ofNat ws.length) < 0 ∨ cl104.slots.size ≤ ((Int32.ofNat ws.length)).toNatClampNeg) := inb_of S104 ⟨oi_nn (by omega), oi_lt (n := 5) (by omega) (by decide) (by omega)⟩
      obtain ⟨T104, h104, X104, e104, W104, st104⟩ := stC X102 hx hZ e102 Ar104 (j := (Int32.ofNat ws.length)) hin104 (g := (mkF m 151 #[.val (.int p1), .val (.int p2), .val (.int p3), .val (.int p4), .val (.int (Int32.ofNat n)), .val (.int c0), .val (.int c1), .val (.int c2), .val (.int c3), .val (.int c4), .val (.ref x1), .val (.ref x2), .val (.int (Int32.ofNat ws.length)), .unset] [(.int c1), (.int (Int32.ofNat ws.length)), (.ref x2)])) rfl rfl (hb hby at_151)
      rw [nar_c hq_.1 hq_.2] at W104
      have V104 : Arv Z h104 x2 kw .char (5 : Int32) ((ws ++ [c1]).map Value.int) (.int 0) := by have q := own_push V2 W104 (by rw [List.length_map, oi_nat (by omega)]) (fits_c hq_.1 hq_.2); rw [push1] at q; exact q
      have N104 := Fr.snoc X104 N102 fr_x2
      have J104 := J102.wr W104 (List.mem_cons_self ..)
      have B104 := B102.mono (Nat.le_of_eq W104.size.symm)
      have O104 := O0.wr W104 (Nat.le_trans hb0 fr_x2)
      have K104 := K0.wr W104 (Or.inl (List.mem_of_getElem? (i := 0) rfl))
      refine Go.of (fun _ hr => st104 _ hr) ?_
      show Go p e s below _ _ _ _ T104 (mkF m 152 #[.val (.int p1), .val (.int p2), .val (.int p3), .val (.int p4), .val (.int (Int32.ofNat n)), .val (.int c0), .val (.int c1), .val (.int c2), .val (.int c3), .val (.int c4), .val (.ref x1), .val (.ref x2), .val (.int (Int32.ofNat ws.length)), .unset] [])
      refine Go.of (fun _ hr => XS.iinc X104.here hx rfl (hb hby at_152) rfl (l' := #[.val (.int p1), .val (.int p2), .val (.int p3), .val (.int p4), .val (.int (Int32.ofNat n)), .val (.int c0), .val (.int c1), .val (.int c2), .val (.int c3), .val (.int c4), .val (.ref x1), .val (.ref x2), .val (.int ((Int32.ofNat ws.length) + (1 : Int32))), .unset]) rfl hr) ?_
      show Go p e s below _ _ _ _ T104 (mkF m 155 #[.val (.int p1), .val (.int p2), .val (.int p3), .val (.int p4), .val (.int (Int32.ofNat n)), .val (.int c0), .val (.int c1), .val (.int c2), .val (.int c3), .val (.int c4), .val (.ref x1), .val (.ref x2), .val (.int ((Int32.ofNat ws.length) + (1 : Int32))), .unset] [])
      rw [show Int32.ofNat ws.length + (1 : Int32) = Int32.ofNat (ws ++ [c1]).length from by rw [List.length_append]; exact oi_succ (by omega)]
      have f105 := (V1.other W104 ne12)
      exact law_w2 l Z a0 hw p1 p2 p3 p4 c0 c1 c2 c3 c4 n x1 x2 _ _ cs (ws ++ [c1]) zc h104 n0 O104 nb hb0 (Nat.le_trans hnb K104.1) fs hfs S_F S_D S_H S_L hn hcs hr fr_x2 ne12 (ws_yes hws hl (by omega) hci hb142_103) f105 V104 S_C hzc Cc102 X104 e104 N104 (J104.sub (own_sub1 (List.mem_cons_self ..) (fun x hx => (List.mem_cons_of_mem _ hx)))) B104
  · refine Go.of (fun _ hr => XS.icmpYes X0.here hx rfl (pc0 := 134) (pc' := 155) rfl (hb hby at_134) rfl (flt hb134_101).2.2.2 (by decide) (by decide) hr) ?_
    show Go p e s below _ _ _ _ T0 (mkF m 155 #[.val (.int p1), .val (.int p2), .val (.int p3), .val (.int p4), .val (.int (Int32.ofNat n)), .val (.int c0), .val (.int c1), .val (.int c2), .val (.int c3), .val (.int c4), .val (.ref x1), .val (.ref x2), .val (.int (Int32.ofNat ws.length)), .unset] [])
    exact law_w2 l Z a0 hw p1 p2 p3 p4 c0 c1 c2 c3 c4 n x1 x2 _ _ cs ws zc h0 n0 O0 nb hb0 (Nat.le_trans hnb K0.1) fs hfs S_F S_D S_H S_L hn hcs hr fr_x2 ne12 (ws_skip hws (oi_nltR (i := 1) (by decide) (by omega) hb134_101)) V1 V2 S_C hzc Cc X0 e0 N0 (J0.sub (own_sub1 (List.mem_cons_self ..) (fun x hx => (List.mem_cons_of_mem _ hx)))) B0

set_option maxRecDepth 65536 in
set_option maxHeartbeats 40000000 in
theorem law_w0 (l : Launch) (Z : State) (a0 : Array Value) (hw : ∀ d ∈ tables_1, d.before a0 Z = true) {p : Program} {e : Env} {s b T0 : State} {m : MethodId} {args : Array Value} {below : List Frame} {meth : Method} {c : Code} {locs : List Loc} {ms : List Addr} (p1 p2 p3 p4 c0 c1 c2 c3 c4 : Int32) (n : Nat) (x1 x2 : Addr) (kx kw : ClassId) (cs ws : List Int32) (zc : Int32) (h0 : Heap) (n0 : Nat) (O0 : Old Z n0 h0) (nb : Nat) (hb0 : n0 ≤ nb) (hnb : nb ≤ h0.size) (fs : Value) (hfs : fs = .null ∨ ∃ a, fs = .ref a) (S_F : Sta Z Z.heap "jdk/internal/util/Preconditions" "SIOOBE_FORMATTER" "Ljava/util/function/BiFunction;" fs) (S_D : Sta Z Z.heap "java/lang/StringUTF16" "$assertionsDisabled" "Z" (.int 1)) (S_H : Sta Z Z.heap "java/lang/StringUTF16" "HI_BYTE_SHIFT" "I" (.int 0)) (S_L : Sta Z Z.heap "java/lang/StringUTF16" "LO_BYTE_SHIFT" "I" (.int 8)) (hn : n ≤ 5) (hcs : cs = [c0, c1, c2, c3, c4]) (hr : ∀ x ∈ cs, rng16 x) (fr_x2 : nb ≤ x2) (ne12 : x1 ≠ x2) (hws : ws = (tkc n 0 cs).filter dig) (V1 : Arv Z h0 x1 kx .char (Int32.ofNat n) ((tkc n 5 cs).map Value.int) (.int 0)) (V2 : Arv Z h0 x2 kw .char (5 : Int32) (ws.map Value.int) (.int 0)) (S_C : Sta Z Z.heap "java/lang/String" "COMPACT_STRINGS" "Z" (.int zc)) (hzc : ¬ zc = 0) (Cc : Cx Z p b m meth c "com/example/goldspan/goldspan/rules/TextDigitsPinLaw" code 14 "law" ret) (X0 : Stand p l e room_1 b m args below meth c T0 locs 2 10) (e0 : T0.heap = h0) (N0 : Fr nb locs) (J0 : Hd Z (x2 :: ms) b.vm h0) (B0 : Bs s b h0) :
    Go p e s below room_1.cells room_1.slots (Hd Z ms) (fun v vm h L => v = some (.int 1) ∧ Fr nb L) T0 (mkF m 108 #[.val (.int p1), .val (.int p2), .val (.int p3), .val (.int p4), .val (.int (Int32.ofNat n)), .val (.int c0), .val (.int c1), .val (.int c2), .val (.int c3), .val (.int c4), .val (.ref x1), .val (.ref x2), .val (.int (Int32.ofNat ws.length)), .unset] []) := by
  have hcl : cs.length = 5 := by rw [hcs]; rfl
  have hci : cs.getD 0 0 = c0 := by rw [hcs]; rfl
  have hq_ : rng16 c0 := hci ▸ hr _ (mem_getD (by omega))
  have hwl : ws.length ≤ 0 := ws_le hws
  obtain ⟨hx, hZ, hown, hby, hml, hnm, hret, hlk⟩ := id Cc
  have K0 := Keep.refl h0 [x2]
  show Go p e s below _ _ _ _ T0 (mkF m 108 #[.val (.int p1), .val (.int p2), .val (.int p3), .val (.int p4), .val (.int (Int32.ofNat n)), .val (.int c0), .val (.int c1), .val (.int c2), .val (.int c3), .val (.int c4), .val (.ref x1), .val (.ref x2), .val (.int (Int32.ofNat ws.length)), .unset] [])
  refine Go.of (fun _ hr => XS.iload X0.here hx rfl (hb hby at_108) rfl  hr) ?_
  show Go p e s below _ _ _ _ T0 (mkF m 110 #[.val (.int p1), .val (.int p2), .val (.int p3), .val (.int p4), .val (.int (Int32.ofNat n)), .val (.int c0), .val (.int c1), .val (.int c2), .val (.int c3), .val (.int c4), .val (.ref x1), .val (.ref x2), .val (.int (Int32.ofNat ws.length)), .unset] [(.int (Int32.ofNat n))])
  by_cases hb110_101 : (0 : Int32) < (Int32.ofNat n)
  · refine Go.of (fun _ hr => XS.ifNo X0.here hx rfl (hb hby at_110) rfl ((if0 _ _).trans (tlt hb110_101).2.2.2) hr) ?_
    show Go p e s below _ _ _ _ T0 (mkF m 113 #[.val (.int p1), .val (.int p2), .val (.int p3), .val (.int p4), .val (.int (Int32.ofNat n)), .val (.int c0), .val (.int c1), .val (.int c2), .val (.int c3), .val (.int c4), .val (.ref x1), .val (.ref x2), .val (.int (Int32.ofNat ws.length)), .unset] [])
    have hl : 0 < n := oi_ltR (i := 0) (by decide) (by omega) hb110_101
    refine Go.of (fun _ hr => XS.iload X0.here hx rfl (hb hby at_113) rfl  hr) ?_
    show Go p e s below _ _ _ _ T0 (mkF m 115 #[.val (.int p1), .val (.int p2), .val (.int p3), .val (.int p4), .val (.int (Int32.ofNat n)), .val (.int c0), .val (.int c1), .val (.int c2), .val (.int c3), .val (.int c4), .val (.ref x1), .val (.ref x2), .val (.int (Int32.ofNat ws.length)), .unset] [(.int c0)])
    obtain ⟨_, b102, T102, h102, L102, e102, Cc102, X102, B102, J102, g102, hQ102, st102⟩ := own_callS Cc B0 J0 X0 (hw _ (List.mem_of_getElem? (i := 2) rfl)) (hw _ (List.mem_of_getElem? (i := 3) rfl)) (hw _ (List.mem_of_getElem? (i := 4) rfl)) (hw _ (List.mem_of_getElem? (i := 5) rfl)) (by decide) (rm1 l Z a0 hw [] c0 _ h0 n0 O0 h0.size (own_ole O0) K0.1) e0 (g := (mkF m 115 #[.val (.int p1), .val (.int p2), .val (.int p3), .val (.int p4), .val (.int (Int32.ofNat n)), .val (.int c0), .val (.int c1), .val (.int c2), .val (.int c3), .val (.int c4), .val (.ref x1), .val (.ref x2), .val (.int (Int32.ofNat ws.length)), .unset] [(.int c0)])) rfl (by rw [hml]; rfl) (argsL := [(.int c0)]) (rest := []) (lenOf pd15 rfl) rfl (W := 0) (by show 2 * 0 + _ ≤ _; exact Nat.le_of_eq rfl) (hb hby at_115) (by decide) (by decide) (by decide) (by decide)
    obtain ⟨rfl, Nq102, hh102⟩ := hQ102
    have N102 := Fr.app N0 (show Fr nb _ from fun y hy => Nat.le_trans hnb (Nq102 y hy))
    obtain ⟨hx, hZ, hown, hby, hml, hnm, hret, hlk⟩ := id Cc102
    rw [hh102] at e102 B102 J102
    refine Go.of st102 ?_
    show Go p e s below _ _ _ _ T102 (mkF m 118 #[.val (.int p1), .val (.int p2), .val (.int p3), .val (.int p4), .val (.int (Int32.ofNat n)), .val (.int c0), .val (.int c1), .val (.int c2), .val (.int c3), .val (.int c4), .val (.ref x1), .val (.ref x2), .val (.int (Int32.ofNat ws.length)), .unset] [(.int (if dig c0 then 1 else 0))])
    by_cases hb118_103 : (if dig c0 then 1 else 0) = (0 : Int32)
    · refine Go.of (fun _ hr => XS.ifYes X102.here hx rfl (pc0 := 118) (pc' := 131) rfl (hb hby at_118) rfl ((if0 _ _).trans (teq hb118_103).1) (by decide) (by decide) hr) ?_
      show Go p e s below _ _ _ _ T102 (mkF m 131 #[.val (.int p1), .val (.int p2), .val (.int p3), .val (.int p4), .val (.int (Int32.ofNat n)), .val (.int c0), .val (.int c1), .val (.int c2), .val (.int c3), .val (.int c4), .val (.ref x1), .val (.ref x2), .val (.int (Int32.ofNat ws.length)), .unset] [])
      exact law_w1 l Z a0 hw p1 p2 p3 p4 c0 c1 c2 c3 c4 n x1 x2 _ _ cs ws zc h0 n0 O0 nb hb0 (Nat.le_trans hnb K0.1) fs hfs S_F S_D S_H S_L hn hcs hr fr_x2 ne12 (ws_no hws hl (by omega) hci hb118_103) V1 V2 S_C hzc Cc102 X102 e102 N102 (J102.sub (own_sub1 (List.mem_cons_self ..) (fun x hx => (List.mem_cons_of_mem _ hx)))) B102
    · refine Go.of (fun _ hr => XS.ifNo X102.here hx rfl (hb hby at_118) rfl ((if0 _ _).trans (feq hb118_103).1) hr) ?_
      show Go p e s below _ _ _ _ T102 (mkF m 121 #[.val (.int p1), .val (.int p2), .val (.int p3), .val (.int p4), .val (.int (Int32.ofNat n)), .val (.int c0), .val (.int c1), .val (.int c2), .val (.int c3), .val (.int c4), .val (.ref x1), .val (.ref x2), .val (.int (Int32.ofNat ws.length)), .unset] [])
      refine Go.of (fun _ hr => XS.aload X102.here hx rfl (hb hby at_121) rfl rfl hr) ?_
      show Go p e s below _ _ _ _ T102 (mkF m 123 #[.val (.int p1), .val (.int p2), .val (.int p3), .val (.int p4), .val (.int (Int32.ofNat n)), .val (.int c0), .val (.int c1), .val (.int c2), .val (.int c3), .val (.int c4), .val (.ref x1), .val (.ref x2), .val (.int (Int32.ofNat ws.length)), .unset] [(.ref x2)])
      refine Go.of (fun _ hr => XS.iload X102.here hx rfl (hb hby at_123) rfl  hr) ?_
      show Go p e s below _ _ _ _ T102 (mkF m 125 #[.val (.int p1), .val (.int p2), .val (.int p3), .val (.int p4), .val (.int (Int32.ofNat n)), .val (.int c0), .val (.int c1), .val (.int c2), .val (.int c3), .val (.int c4), .val (.ref x1), .val (.ref x2), .val (.int (Int32.ofNat ws.length)), .unset] [(.int (Int32.ofNat ws.length)), (.ref x2)])
      refine Go.of (fun _ hr => XS.iload X102.here hx rfl (hb hby at_125) rfl  hr) ?_
      show Go p e s below _ _ _ _ T102 (mkF m 127 #[.val (.int p1), .val (.int p2), .val (.int p3), .val (.int p4), .val (.int (Int32.ofNat n)), .val (.int c0), .val (.int c1), .val (.int c2), .val (.int c3), .val (.int c4), .val (.ref x1), .val (.ref x2), .val (.int (Int32.ofNat ws.length)), .unset] [(.int c0), (.int (Int32.ofNat ws.length)), (.ref x2)])
      obtain ⟨cl104, Ar104, q104, S104, N104_, H104, G104⟩ := id V2
      have hin104 : ¬ ((Int32.ofNat ws.length) < 0 ∨ cl104.slots.size ≤ ((Int32.ofNat ws.length)).toNatClampNeg) := inb_of S104 ⟨oi_nn (by omega), oi_lt (n := 5) (by omega) (by decide) (by omega)⟩
      obtain ⟨T104, h104, X104, e104, W104, st104⟩ := stC X102 hx hZ e102 Ar104 (j := (Int32.ofNat ws.length)) hin104 (g := (mkF m 127 #[.val (.int p1), .val (.int p2), .val (.int p3), .val (.int p4), .val (.int (Int32.ofNat n)), .val (.int c0), .val (.int c1), .val (.int c2), .val (.int c3), .val (.int c4), .val (.ref x1), .val (.ref x2), .val (.int (Int32.ofNat ws.length)), .unset] [(.int c0), (.int (Int32.ofNat ws.length)), (.ref x2)])) rfl rfl (hb hby at_127)
      rw [nar_c hq_.1 hq_.2] at W104
      have V104 : Arv Z h104 x2 kw .char (5 : Int32) ((ws ++ [c0]).map Value.int) (.int 0) := by have q := own_push V2 W104 (by rw [List.length_map, oi_nat (by omega)]) (fits_c hq_.1 hq_.2); rw [push1] at q; exact q
      have N104 := Fr.snoc X104 N102 fr_x2
      have J104 := J102.wr W104 (List.mem_cons_self ..)
      have B104 := B102.mono (Nat.le_of_eq W104.size.symm)
      have O104 := O0.wr W104 (Nat.le_trans hb0 fr_x2)
      have K104 := K0.wr W104 (Or.inl (List.mem_of_getElem? (i := 0) rfl))
      refine Go.of (fun _ hr => st104 _ hr) ?_
      show Go p e s below _ _ _ _ T104 (mkF m 128 #[.val (.int p1), .val (.int p2), .val (.int p3), .val (.int p4), .val (.int (Int32.ofNat n)), .val (.int c0), .val (.int c1), .val (.int c2), .val (.int c3), .val (.int c4), .val (.ref x1), .val (.ref x2), .val (.int (Int32.ofNat ws.length)), .unset] [])
      refine Go.of (fun _ hr => XS.iinc X104.here hx rfl (hb hby at_128) rfl (l' := #[.val (.int p1), .val (.int p2), .val (.int p3), .val (.int p4), .val (.int (Int32.ofNat n)), .val (.int c0), .val (.int c1), .val (.int c2), .val (.int c3), .val (.int c4), .val (.ref x1), .val (.ref x2), .val (.int ((Int32.ofNat ws.length) + (1 : Int32))), .unset]) rfl hr) ?_
      show Go p e s below _ _ _ _ T104 (mkF m 131 #[.val (.int p1), .val (.int p2), .val (.int p3), .val (.int p4), .val (.int (Int32.ofNat n)), .val (.int c0), .val (.int c1), .val (.int c2), .val (.int c3), .val (.int c4), .val (.ref x1), .val (.ref x2), .val (.int ((Int32.ofNat ws.length) + (1 : Int32))), .unset] [])
      rw [show Int32.ofNat ws.length + (1 : Int32) = Int32.ofNat (ws ++ [c0]).length from by rw [List.length_append]; exact oi_succ (by omega)]
      have f105 := (V1.other W104 ne12)
      exact law_w1 l Z a0 hw p1 p2 p3 p4 c0 c1 c2 c3 c4 n x1 x2 _ _ cs (ws ++ [c0]) zc h104 n0 O104 nb hb0 (Nat.le_trans hnb K104.1) fs hfs S_F S_D S_H S_L hn hcs hr fr_x2 ne12 (ws_yes hws hl (by omega) hci hb118_103) f105 V104 S_C hzc Cc102 X104 e104 N104 (J104.sub (own_sub1 (List.mem_cons_self ..) (fun x hx => (List.mem_cons_of_mem _ hx)))) B104
  · refine Go.of (fun _ hr => XS.ifYes X0.here hx rfl (pc0 := 110) (pc' := 131) rfl (hb hby at_110) rfl ((if0 _ _).trans (flt hb110_101).2.2.2) (by decide) (by decide) hr) ?_
    show Go p e s below _ _ _ _ T0 (mkF m 131 #[.val (.int p1), .val (.int p2), .val (.int p3), .val (.int p4), .val (.int (Int32.ofNat n)), .val (.int c0), .val (.int c1), .val (.int c2), .val (.int c3), .val (.int c4), .val (.ref x1), .val (.ref x2), .val (.int (Int32.ofNat ws.length)), .unset] [])
    exact law_w1 l Z a0 hw p1 p2 p3 p4 c0 c1 c2 c3 c4 n x1 x2 _ _ cs ws zc h0 n0 O0 nb hb0 (Nat.le_trans hnb K0.1) fs hfs S_F S_D S_H S_L hn hcs hr fr_x2 ne12 (ws_skip hws (oi_nltR (i := 0) (by decide) (by omega) hb110_101)) V1 V2 S_C hzc Cc X0 e0 N0 (J0.sub (own_sub1 (List.mem_cons_self ..) (fun x hx => (List.mem_cons_of_mem _ hx)))) B0

set_option maxRecDepth 65536 in
set_option maxHeartbeats 40000000 in
theorem law_n (l : Launch) (Z : State) (a0 : Array Value) (hw : ∀ d ∈ tables_1, d.before a0 Z = true) {p : Program} {e : Env} {s b T0 : State} {m : MethodId} {args : Array Value} {below : List Frame} {meth : Method} {c : Code} {locs : List Loc} {ms : List Addr} (p1 p2 p3 p4 c0 c1 c2 c3 c4 : Int32) (n : Nat) (x1 : Addr) (kx : ClassId) (cs : List Int32) (zc : Int32) (h0 : Heap) (n0 : Nat) (O0 : Old Z n0 h0) (nb : Nat) (hb0 : n0 ≤ nb) (hnb : nb ≤ h0.size) (fs : Value) (hfs : fs = .null ∨ ∃ a, fs = .ref a) (S_F : Sta Z Z.heap "jdk/internal/util/Preconditions" "SIOOBE_FORMATTER" "Ljava/util/function/BiFunction;" fs) (S_D : Sta Z Z.heap "java/lang/StringUTF16" "$assertionsDisabled" "Z" (.int 1)) (S_H : Sta Z Z.heap "java/lang/StringUTF16" "HI_BYTE_SHIFT" "I" (.int 0)) (S_L : Sta Z Z.heap "java/lang/StringUTF16" "LO_BYTE_SHIFT" "I" (.int 8)) (hn : n ≤ 5) (hcs : cs = [c0, c1, c2, c3, c4]) (hr : ∀ x ∈ cs, rng16 x) (fr_x1 : nb ≤ x1) (V1 : Arv Z h0 x1 kx .char (Int32.ofNat n) ((tkc n 5 cs).map Value.int) (.int 0)) (S_C : Sta Z Z.heap "java/lang/String" "COMPACT_STRINGS" "Z" (.int zc)) (hzc : ¬ zc = 0) (Cc : Cx Z p b m meth c "com/example/goldspan/goldspan/rules/TextDigitsPinLaw" code 14 "law" ret) (X0 : Stand p l e room_1 b m args below meth c T0 locs 1 5) (e0 : T0.heap = h0) (N0 : Fr nb locs) (J0 : Hd Z (x1 :: ms) b.vm h0) (B0 : Bs s b h0) :
    Go p e s below room_1.cells room_1.slots (Hd Z ms) (fun v vm h L => v = some (.int 1) ∧ Fr nb L) T0 (mkF m 100 #[.val (.int p1), .val (.int p2), .val (.int p3), .val (.int p4), .val (.int (Int32.ofNat n)), .val (.int c0), .val (.int c1), .val (.int c2), .val (.int c3), .val (.int c4), .val (.ref x1), .unset, .unset, .unset] []) := by
  obtain ⟨hx, hZ, hown, hby, hml, hnm, hret, hlk⟩ := id Cc
  have K0 := Keep.refl h0 [x1]
  show Go p e s below _ _ _ _ T0 (mkF m 100 #[.val (.int p1), .val (.int p2), .val (.int p3), .val (.int p4), .val (.int (Int32.ofNat n)), .val (.int c0), .val (.int c1), .val (.int c2), .val (.int c3), .val (.int c4), .val (.ref x1), .unset, .unset, .unset] [])
  refine Go.of (fun _ hr => XS.iconst X0.here hx rfl (hb hby at_100) hr) ?_
  show Go p e s below _ _ _ _ T0 (mkF m 101 #[.val (.int p1), .val (.int p2), .val (.int p3), .val (.int p4), .val (.int (Int32.ofNat n)), .val (.int c0), .val (.int c1), .val (.int c2), .val (.int c3), .val (.int c4), .val (.ref x1), .unset, .unset, .unset] [(.int (5 : Int32))])
  obtain ⟨T101, h101, k101, X101, e101, E101, A101, st101⟩ := newP X0 hx hZ (hw _ (List.mem_of_getElem? (i := 1) rfl)) e0 (g := (mkF m 101 #[.val (.int p1), .val (.int p2), .val (.int p3), .val (.int p4), .val (.int (Int32.ofNat n)), .val (.int c0), .val (.int c1), .val (.int c2), .val (.int c3), .val (.int c4), .val (.ref x1), .unset, .unset, .unset] [(.int (5 : Int32))])) rfl (hb hby at_101) rfl (by decide) (cap := 5) (by decide) (by decide) (by decide) (by decide)
  obtain ⟨o101, g101⟩ : ∃ z, z = h0.size := ⟨_, rfl⟩
  rw [← g101] at A101 st101
  have ne_x1_o101 : x1 ≠ o101 := Nat.ne_of_lt (Nat.lt_of_lt_of_le V1.lt (Nat.le_of_eq g101.symm))
  have V101 := Arv.new A101 (by decide)
  have lt101 : o101 < h101.size := A101.lt
  have J101 := J0.add E101 g101 lt101
  have B101 := B0.mono E101.1
  have O101 := O0.ext E101
  have sz101 : h0.size ≤ o101 := Nat.le_trans K0.1 (Nat.le_of_eq g101.symm)
  have fr101 : nb ≤ o101 := Nat.le_trans hnb sz101
  have K101 := K0.ext E101
  refine Go.of (fun _ hr => st101 _ hr) ?_
  show Go p e s below _ _ _ _ T101 (mkF m 103 #[.val (.int p1), .val (.int p2), .val (.int p3), .val (.int p4), .val (.int (Int32.ofNat n)), .val (.int c0), .val (.int c1), .val (.int c2), .val (.int c3), .val (.int c4), .val (.ref x1), .unset, .unset, .unset] [(.ref o101)])
  refine Go.of (fun _ hr => XS.astore X101.here hx rfl (hb hby at_103) rfl rfl (l' := #[.val (.int p1), .val (.int p2), .val (.int p3), .val (.int p4), .val (.int (Int32.ofNat n)), .val (.int c0), .val (.int c1), .val (.int c2), .val (.int c3), .val (.int c4), .val (.ref x1), .val (.ref o101), .unset, .unset]) rfl hr) ?_
  show Go p e s below _ _ _ _ T101 (mkF m 105 #[.val (.int p1), .val (.int p2), .val (.int p3), .val (.int p4), .val (.int (Int32.ofNat n)), .val (.int c0), .val (.int c1), .val (.int c2), .val (.int c3), .val (.int c4), .val (.ref x1), .val (.ref o101), .unset, .unset] [])
  refine Go.of (fun _ hr => XS.iconst X101.here hx rfl (hb hby at_105) hr) ?_
  show Go p e s below _ _ _ _ T101 (mkF m 106 #[.val (.int p1), .val (.int p2), .val (.int p3), .val (.int p4), .val (.int (Int32.ofNat n)), .val (.int c0), .val (.int c1), .val (.int c2), .val (.int c3), .val (.int c4), .val (.ref x1), .val (.ref o101), .unset, .unset] [(.int (0 : Int32))])
  refine Go.of (fun _ hr => XS.istore X101.here hx rfl (hb hby at_106) rfl (l' := #[.val (.int p1), .val (.int p2), .val (.int p3), .val (.int p4), .val (.int (Int32.ofNat n)), .val (.int c0), .val (.int c1), .val (.int c2), .val (.int c3), .val (.int c4), .val (.ref x1), .val (.ref o101), .val (.int (0 : Int32)), .unset]) rfl hr) ?_
  show Go p e s below _ _ _ _ T101 (mkF m 108 #[.val (.int p1), .val (.int p2), .val (.int p3), .val (.int p4), .val (.int (Int32.ofNat n)), .val (.int c0), .val (.int c1), .val (.int c2), .val (.int c3), .val (.int c4), .val (.ref x1), .val (.ref o101), .val (.int (0 : Int32)), .unset] [])
  have f102 := (V1.ext E101)
  exact law_w0 l Z a0 hw p1 p2 p3 p4 c0 c1 c2 c3 c4 n x1 o101 _ _ cs [] zc h101 n0 O101 nb hb0 (Nat.le_trans hnb K101.1) fs hfs S_F S_D S_H S_L hn hcs hr fr101 ne_x1_o101 (by simp [tkc]) f102 V101 S_C hzc Cc X101 e101 N0 (J101.sub (own_sub1 (List.mem_cons_self ..) (fun x hx => (List.mem_cons_of_mem _ (List.mem_cons_of_mem _ hx))))) B101

set_option maxRecDepth 65536 in
set_option maxHeartbeats 40000000 in
theorem law_f4 (l : Launch) (Z : State) (a0 : Array Value) (hw : ∀ d ∈ tables_1, d.before a0 Z = true) {p : Program} {e : Env} {s b T0 : State} {m : MethodId} {args : Array Value} {below : List Frame} {meth : Method} {c : Code} {locs : List Loc} {ms : List Addr} (p1 p2 p3 p4 c0 c1 c2 c3 c4 : Int32) (n : Nat) (x1 : Addr) (kx : ClassId) (cs : List Int32) (zc : Int32) (h0 : Heap) (n0 : Nat) (O0 : Old Z n0 h0) (nb : Nat) (hb0 : n0 ≤ nb) (hnb : nb ≤ h0.size) (fs : Value) (hfs : fs = .null ∨ ∃ a, fs = .ref a) (S_F : Sta Z Z.heap "jdk/internal/util/Preconditions" "SIOOBE_FORMATTER" "Ljava/util/function/BiFunction;" fs) (S_D : Sta Z Z.heap "java/lang/StringUTF16" "$assertionsDisabled" "Z" (.int 1)) (S_H : Sta Z Z.heap "java/lang/StringUTF16" "HI_BYTE_SHIFT" "I" (.int 0)) (S_L : Sta Z Z.heap "java/lang/StringUTF16" "LO_BYTE_SHIFT" "I" (.int 8)) (hn : n ≤ 5) (hcs : cs = [c0, c1, c2, c3, c4]) (hr : ∀ x ∈ cs, rng16 x) (fr_x1 : nb ≤ x1) (V1 : Arv Z h0 x1 kx .char (Int32.ofNat n) ((tkc n 4 cs).map Value.int) (.int 0)) (S_C : Sta Z Z.heap "java/lang/String" "COMPACT_STRINGS" "Z" (.int zc)) (hzc : ¬ zc = 0) (Cc : Cx Z p b m meth c "com/example/goldspan/goldspan/rules/TextDigitsPinLaw" code 14 "law" ret) (X0 : Stand p l e room_1 b m args below meth c T0 locs 1 5) (e0 : T0.heap = h0) (N0 : Fr nb locs) (J0 : Hd Z (x1 :: ms) b.vm h0) (B0 : Bs s b h0) :
    Go p e s below room_1.cells room_1.slots (Hd Z ms) (fun v vm h L => v = some (.int 1) ∧ Fr nb L) T0 (mkF m 88 #[.val (.int p1), .val (.int p2), .val (.int p3), .val (.int p4), .val (.int (Int32.ofNat n)), .val (.int c0), .val (.int c1), .val (.int c2), .val (.int c3), .val (.int c4), .val (.ref x1), .unset, .unset, .unset] []) := by
  have hcl : cs.length = 5 := by rw [hcs]; rfl
  have hci : cs.getD 4 0 = c4 := by rw [hcs]; rfl
  have hq_ : rng16 c4 := hci ▸ hr _ (mem_getD (by omega))
  obtain ⟨hx, hZ, hown, hby, hml, hnm, hret, hlk⟩ := id Cc
  have K0 := Keep.refl h0 [x1]
  show Go p e s below _ _ _ _ T0 (mkF m 88 #[.val (.int p1), .val (.int p2), .val (.int p3), .val (.int p4), .val (.int (Int32.ofNat n)), .val (.int c0), .val (.int c1), .val (.int c2), .val (.int c3), .val (.int c4), .val (.ref x1), .unset, .unset, .unset] [])
  refine Go.of (fun _ hr => XS.iload X0.here hx rfl (hb hby at_88) rfl  hr) ?_
  show Go p e s below _ _ _ _ T0 (mkF m 90 #[.val (.int p1), .val (.int p2), .val (.int p3), .val (.int p4), .val (.int (Int32.ofNat n)), .val (.int c0), .val (.int c1), .val (.int c2), .val (.int c3), .val (.int c4), .val (.ref x1), .unset, .unset, .unset] [(.int (Int32.ofNat n))])
  refine Go.of (fun _ hr => XS.iconst X0.here hx rfl (hb hby at_90) hr) ?_
  show Go p e s below _ _ _ _ T0 (mkF m 91 #[.val (.int p1), .val (.int p2), .val (.int p3), .val (.int p4), .val (.int (Int32.ofNat n)), .val (.int c0), .val (.int c1), .val (.int c2), .val (.int c3), .val (.int c4), .val (.ref x1), .unset, .unset, .unset] [(.int (4 : Int32)), (.int (Int32.ofNat n))])
  by_cases hb91_101 : (4 : Int32) < (Int32.ofNat n)
  · refine Go.of (fun _ hr => XS.icmpNo X0.here hx rfl (hb hby at_91) rfl (tlt hb91_101).2.2.2 hr) ?_
    show Go p e s below _ _ _ _ T0 (mkF m 94 #[.val (.int p1), .val (.int p2), .val (.int p3), .val (.int p4), .val (.int (Int32.ofNat n)), .val (.int c0), .val (.int c1), .val (.int c2), .val (.int c3), .val (.int c4), .val (.ref x1), .unset, .unset, .unset] [])
    have hl : 4 < n := oi_ltR (i := 4) (by decide) (by omega) hb91_101
    refine Go.of (fun _ hr => XS.aload X0.here hx rfl (hb hby at_94) rfl rfl hr) ?_
    show Go p e s below _ _ _ _ T0 (mkF m 96 #[.val (.int p1), .val (.int p2), .val (.int p3), .val (.int p4), .val (.int (Int32.ofNat n)), .val (.int c0), .val (.int c1), .val (.int c2), .val (.int c3), .val (.int c4), .val (.ref x1), .unset, .unset, .unset] [(.ref x1)])
    refine Go.of (fun _ hr => XS.iconst X0.here hx rfl (hb hby at_96) hr) ?_
    show Go p e s below _ _ _ _ T0 (mkF m 97 #[.val (.int p1), .val (.int p2), .val (.int p3), .val (.int p4), .val (.int (Int32.ofNat n)), .val (.int c0), .val (.int c1), .val (.int c2), .val (.int c3), .val (.int c4), .val (.ref x1), .unset, .unset, .unset] [(.int (4 : Int32)), (.ref x1)])
    refine Go.of (fun _ hr => XS.iload X0.here hx rfl (hb hby at_97) rfl  hr) ?_
    show Go p e s below _ _ _ _ T0 (mkF m 99 #[.val (.int p1), .val (.int p2), .val (.int p3), .val (.int p4), .val (.int (Int32.ofNat n)), .val (.int c0), .val (.int c1), .val (.int c2), .val (.int c3), .val (.int c4), .val (.ref x1), .unset, .unset, .unset] [(.int c4), (.int (4 : Int32)), (.ref x1)])
    obtain ⟨cl102, Ar102, q102, S102, N102_, H102, G102⟩ := id V1
    have hin102 : ¬ ((4 : Int32) < 0 ∨ cl102.slots.size ≤ ((4 : Int32)).toNatClampNeg) := inb_of S102 ⟨by decide, oi_lt (i := 4) (by decide) (by omega) hl⟩
    obtain ⟨T102, h102, X102, e102, W102, st102⟩ := stC X0 hx hZ e0 Ar102 (j := (4 : Int32)) hin102 (g := (mkF m 99 #[.val (.int p1), .val (.int p2), .val (.int p3), .val (.int p4), .val (.int (Int32.ofNat n)), .val (.int c0), .val (.int c1), .val (.int c2), .val (.int c3), .val (.int c4), .val (.ref x1), .unset, .unset, .unset] [(.int c4), (.int (4 : Int32)), (.ref x1)])) rfl rfl (hb hby at_99)
    rw [nar_c hq_.1 hq_.2] at W102
    have V102 : Arv Z h102 x1 kx .char (Int32.ofNat n) ((tkc n 4 cs ++ [c4]).map Value.int) (.int 0) := by have q := own_push V1 W102 (by rw [List.length_map, tk_len hl (by omega)]; rfl) (fits_c hq_.1 hq_.2); rw [push1] at q; exact q
    have N102 := Fr.snoc X102 N0 fr_x1
    have J102 := J0.wr W102 (List.mem_cons_self ..)
    have B102 := B0.mono (Nat.le_of_eq W102.size.symm)
    have O102 := O0.wr W102 (Nat.le_trans hb0 fr_x1)
    have K102 := K0.wr W102 (Or.inl (List.mem_of_getElem? (i := 0) rfl))
    refine Go.of (fun _ hr => st102 _ hr) ?_
    show Go p e s below _ _ _ _ T102 (mkF m 100 #[.val (.int p1), .val (.int p2), .val (.int p3), .val (.int p4), .val (.int (Int32.ofNat n)), .val (.int c0), .val (.int c1), .val (.int c2), .val (.int c3), .val (.int c4), .val (.ref x1), .unset, .unset, .unset] [])
    exact law_n l Z a0 hw p1 p2 p3 p4 c0 c1 c2 c3 c4 n x1 _ cs zc h102 n0 O102 nb hb0 (Nat.le_trans hnb K102.1) fs hfs S_F S_D S_H S_L hn hcs hr fr_x1 (by rw [tk_yes hl (by omega), hci]; exact V102) S_C hzc Cc X102 e102 N102 (J102.sub (own_sub1 (List.mem_cons_self ..) (fun x hx => (List.mem_cons_of_mem _ hx)))) B102
  · refine Go.of (fun _ hr => XS.icmpYes X0.here hx rfl (pc0 := 91) (pc' := 100) rfl (hb hby at_91) rfl (flt hb91_101).2.2.2 (by decide) (by decide) hr) ?_
    show Go p e s below _ _ _ _ T0 (mkF m 100 #[.val (.int p1), .val (.int p2), .val (.int p3), .val (.int p4), .val (.int (Int32.ofNat n)), .val (.int c0), .val (.int c1), .val (.int c2), .val (.int c3), .val (.int c4), .val (.ref x1), .unset, .unset, .unset] [])
    exact law_n l Z a0 hw p1 p2 p3 p4 c0 c1 c2 c3 c4 n x1 _ cs zc h0 n0 O0 nb hb0 (Nat.le_trans hnb K0.1) fs hfs S_F S_D S_H S_L hn hcs hr fr_x1 (by rw [tk_no (oi_nltR (i := 4) (by decide) (by omega) hb91_101)]; exact V1) S_C hzc Cc X0 e0 N0 (J0.sub (own_sub1 (List.mem_cons_self ..) (fun x hx => (List.mem_cons_of_mem _ hx)))) B0

set_option maxRecDepth 65536 in
set_option maxHeartbeats 40000000 in
theorem law_f3 (l : Launch) (Z : State) (a0 : Array Value) (hw : ∀ d ∈ tables_1, d.before a0 Z = true) {p : Program} {e : Env} {s b T0 : State} {m : MethodId} {args : Array Value} {below : List Frame} {meth : Method} {c : Code} {locs : List Loc} {ms : List Addr} (p1 p2 p3 p4 c0 c1 c2 c3 c4 : Int32) (n : Nat) (x1 : Addr) (kx : ClassId) (cs : List Int32) (zc : Int32) (h0 : Heap) (n0 : Nat) (O0 : Old Z n0 h0) (nb : Nat) (hb0 : n0 ≤ nb) (hnb : nb ≤ h0.size) (fs : Value) (hfs : fs = .null ∨ ∃ a, fs = .ref a) (S_F : Sta Z Z.heap "jdk/internal/util/Preconditions" "SIOOBE_FORMATTER" "Ljava/util/function/BiFunction;" fs) (S_D : Sta Z Z.heap "java/lang/StringUTF16" "$assertionsDisabled" "Z" (.int 1)) (S_H : Sta Z Z.heap "java/lang/StringUTF16" "HI_BYTE_SHIFT" "I" (.int 0)) (S_L : Sta Z Z.heap "java/lang/StringUTF16" "LO_BYTE_SHIFT" "I" (.int 8)) (hn : n ≤ 5) (hcs : cs = [c0, c1, c2, c3, c4]) (hr : ∀ x ∈ cs, rng16 x) (fr_x1 : nb ≤ x1) (V1 : Arv Z h0 x1 kx .char (Int32.ofNat n) ((tkc n 3 cs).map Value.int) (.int 0)) (S_C : Sta Z Z.heap "java/lang/String" "COMPACT_STRINGS" "Z" (.int zc)) (hzc : ¬ zc = 0) (Cc : Cx Z p b m meth c "com/example/goldspan/goldspan/rules/TextDigitsPinLaw" code 14 "law" ret) (X0 : Stand p l e room_1 b m args below meth c T0 locs 1 5) (e0 : T0.heap = h0) (N0 : Fr nb locs) (J0 : Hd Z (x1 :: ms) b.vm h0) (B0 : Bs s b h0) :
    Go p e s below room_1.cells room_1.slots (Hd Z ms) (fun v vm h L => v = some (.int 1) ∧ Fr nb L) T0 (mkF m 76 #[.val (.int p1), .val (.int p2), .val (.int p3), .val (.int p4), .val (.int (Int32.ofNat n)), .val (.int c0), .val (.int c1), .val (.int c2), .val (.int c3), .val (.int c4), .val (.ref x1), .unset, .unset, .unset] []) := by
  have hcl : cs.length = 5 := by rw [hcs]; rfl
  have hci : cs.getD 3 0 = c3 := by rw [hcs]; rfl
  have hq_ : rng16 c3 := hci ▸ hr _ (mem_getD (by omega))
  obtain ⟨hx, hZ, hown, hby, hml, hnm, hret, hlk⟩ := id Cc
  have K0 := Keep.refl h0 [x1]
  show Go p e s below _ _ _ _ T0 (mkF m 76 #[.val (.int p1), .val (.int p2), .val (.int p3), .val (.int p4), .val (.int (Int32.ofNat n)), .val (.int c0), .val (.int c1), .val (.int c2), .val (.int c3), .val (.int c4), .val (.ref x1), .unset, .unset, .unset] [])
  refine Go.of (fun _ hr => XS.iload X0.here hx rfl (hb hby at_76) rfl  hr) ?_
  show Go p e s below _ _ _ _ T0 (mkF m 78 #[.val (.int p1), .val (.int p2), .val (.int p3), .val (.int p4), .val (.int (Int32.ofNat n)), .val (.int c0), .val (.int c1), .val (.int c2), .val (.int c3), .val (.int c4), .val (.ref x1), .unset, .unset, .unset] [(.int (Int32.ofNat n))])
  refine Go.of (fun _ hr => XS.iconst X0.here hx rfl (hb hby at_78) hr) ?_
  show Go p e s below _ _ _ _ T0 (mkF m 79 #[.val (.int p1), .val (.int p2), .val (.int p3), .val (.int p4), .val (.int (Int32.ofNat n)), .val (.int c0), .val (.int c1), .val (.int c2), .val (.int c3), .val (.int c4), .val (.ref x1), .unset, .unset, .unset] [(.int (3 : Int32)), (.int (Int32.ofNat n))])
  by_cases hb79_101 : (3 : Int32) < (Int32.ofNat n)
  · refine Go.of (fun _ hr => XS.icmpNo X0.here hx rfl (hb hby at_79) rfl (tlt hb79_101).2.2.2 hr) ?_
    show Go p e s below _ _ _ _ T0 (mkF m 82 #[.val (.int p1), .val (.int p2), .val (.int p3), .val (.int p4), .val (.int (Int32.ofNat n)), .val (.int c0), .val (.int c1), .val (.int c2), .val (.int c3), .val (.int c4), .val (.ref x1), .unset, .unset, .unset] [])
    have hl : 3 < n := oi_ltR (i := 3) (by decide) (by omega) hb79_101
    refine Go.of (fun _ hr => XS.aload X0.here hx rfl (hb hby at_82) rfl rfl hr) ?_
    show Go p e s below _ _ _ _ T0 (mkF m 84 #[.val (.int p1), .val (.int p2), .val (.int p3), .val (.int p4), .val (.int (Int32.ofNat n)), .val (.int c0), .val (.int c1), .val (.int c2), .val (.int c3), .val (.int c4), .val (.ref x1), .unset, .unset, .unset] [(.ref x1)])
    refine Go.of (fun _ hr => XS.iconst X0.here hx rfl (hb hby at_84) hr) ?_
    show Go p e s below _ _ _ _ T0 (mkF m 85 #[.val (.int p1), .val (.int p2), .val (.int p3), .val (.int p4), .val (.int (Int32.ofNat n)), .val (.int c0), .val (.int c1), .val (.int c2), .val (.int c3), .val (.int c4), .val (.ref x1), .unset, .unset, .unset] [(.int (3 : Int32)), (.ref x1)])
    refine Go.of (fun _ hr => XS.iload X0.here hx rfl (hb hby at_85) rfl  hr) ?_
    show Go p e s below _ _ _ _ T0 (mkF m 87 #[.val (.int p1), .val (.int p2), .val (.int p3), .val (.int p4), .val (.int (Int32.ofNat n)), .val (.int c0), .val (.int c1), .val (.int c2), .val (.int c3), .val (.int c4), .val (.ref x1), .unset, .unset, .unset] [(.int c3), (.int (3 : Int32)), (.ref x1)])
    obtain ⟨cl102, Ar102, q102, S102, N102_, H102, G102⟩ := id V1
    have hin102 : ¬ ((3 : Int32) < 0 ∨ cl102.slots.size ≤ ((3 : Int32)).toNatClampNeg) := inb_of S102 ⟨by decide, oi_lt (i := 3) (by decide) (by omega) hl⟩
    obtain ⟨T102, h102, X102, e102, W102, st102⟩ := stC X0 hx hZ e0 Ar102 (j := (3 : Int32)) hin102 (g := (mkF m 87 #[.val (.int p1), .val (.int p2), .val (.int p3), .val (.int p4), .val (.int (Int32.ofNat n)), .val (.int c0), .val (.int c1), .val (.int c2), .val (.int c3), .val (.int c4), .val (.ref x1), .unset, .unset, .unset] [(.int c3), (.int (3 : Int32)), (.ref x1)])) rfl rfl (hb hby at_87)
    rw [nar_c hq_.1 hq_.2] at W102
    have V102 : Arv Z h102 x1 kx .char (Int32.ofNat n) ((tkc n 3 cs ++ [c3]).map Value.int) (.int 0) := by have q := own_push V1 W102 (by rw [List.length_map, tk_len hl (by omega)]; rfl) (fits_c hq_.1 hq_.2); rw [push1] at q; exact q
    have N102 := Fr.snoc X102 N0 fr_x1
    have J102 := J0.wr W102 (List.mem_cons_self ..)
    have B102 := B0.mono (Nat.le_of_eq W102.size.symm)
    have O102 := O0.wr W102 (Nat.le_trans hb0 fr_x1)
    have K102 := K0.wr W102 (Or.inl (List.mem_of_getElem? (i := 0) rfl))
    refine Go.of (fun _ hr => st102 _ hr) ?_
    show Go p e s below _ _ _ _ T102 (mkF m 88 #[.val (.int p1), .val (.int p2), .val (.int p3), .val (.int p4), .val (.int (Int32.ofNat n)), .val (.int c0), .val (.int c1), .val (.int c2), .val (.int c3), .val (.int c4), .val (.ref x1), .unset, .unset, .unset] [])
    exact law_f4 l Z a0 hw p1 p2 p3 p4 c0 c1 c2 c3 c4 n x1 _ cs zc h102 n0 O102 nb hb0 (Nat.le_trans hnb K102.1) fs hfs S_F S_D S_H S_L hn hcs hr fr_x1 (by rw [tk_yes hl (by omega), hci]; exact V102) S_C hzc Cc X102 e102 N102 (J102.sub (own_sub1 (List.mem_cons_self ..) (fun x hx => (List.mem_cons_of_mem _ hx)))) B102
  · refine Go.of (fun _ hr => XS.icmpYes X0.here hx rfl (pc0 := 79) (pc' := 88) rfl (hb hby at_79) rfl (flt hb79_101).2.2.2 (by decide) (by decide) hr) ?_
    show Go p e s below _ _ _ _ T0 (mkF m 88 #[.val (.int p1), .val (.int p2), .val (.int p3), .val (.int p4), .val (.int (Int32.ofNat n)), .val (.int c0), .val (.int c1), .val (.int c2), .val (.int c3), .val (.int c4), .val (.ref x1), .unset, .unset, .unset] [])
    exact law_f4 l Z a0 hw p1 p2 p3 p4 c0 c1 c2 c3 c4 n x1 _ cs zc h0 n0 O0 nb hb0 (Nat.le_trans hnb K0.1) fs hfs S_F S_D S_H S_L hn hcs hr fr_x1 (by rw [tk_no (oi_nltR (i := 3) (by decide) (by omega) hb79_101)]; exact V1) S_C hzc Cc X0 e0 N0 (J0.sub (own_sub1 (List.mem_cons_self ..) (fun x hx => (List.mem_cons_of_mem _ hx)))) B0

set_option maxRecDepth 65536 in
set_option maxHeartbeats 40000000 in
theorem law_f2 (l : Launch) (Z : State) (a0 : Array Value) (hw : ∀ d ∈ tables_1, d.before a0 Z = true) {p : Program} {e : Env} {s b T0 : State} {m : MethodId} {args : Array Value} {below : List Frame} {meth : Method} {c : Code} {locs : List Loc} {ms : List Addr} (p1 p2 p3 p4 c0 c1 c2 c3 c4 : Int32) (n : Nat) (x1 : Addr) (kx : ClassId) (cs : List Int32) (zc : Int32) (h0 : Heap) (n0 : Nat) (O0 : Old Z n0 h0) (nb : Nat) (hb0 : n0 ≤ nb) (hnb : nb ≤ h0.size) (fs : Value) (hfs : fs = .null ∨ ∃ a, fs = .ref a) (S_F : Sta Z Z.heap "jdk/internal/util/Preconditions" "SIOOBE_FORMATTER" "Ljava/util/function/BiFunction;" fs) (S_D : Sta Z Z.heap "java/lang/StringUTF16" "$assertionsDisabled" "Z" (.int 1)) (S_H : Sta Z Z.heap "java/lang/StringUTF16" "HI_BYTE_SHIFT" "I" (.int 0)) (S_L : Sta Z Z.heap "java/lang/StringUTF16" "LO_BYTE_SHIFT" "I" (.int 8)) (hn : n ≤ 5) (hcs : cs = [c0, c1, c2, c3, c4]) (hr : ∀ x ∈ cs, rng16 x) (fr_x1 : nb ≤ x1) (V1 : Arv Z h0 x1 kx .char (Int32.ofNat n) ((tkc n 2 cs).map Value.int) (.int 0)) (S_C : Sta Z Z.heap "java/lang/String" "COMPACT_STRINGS" "Z" (.int zc)) (hzc : ¬ zc = 0) (Cc : Cx Z p b m meth c "com/example/goldspan/goldspan/rules/TextDigitsPinLaw" code 14 "law" ret) (X0 : Stand p l e room_1 b m args below meth c T0 locs 1 5) (e0 : T0.heap = h0) (N0 : Fr nb locs) (J0 : Hd Z (x1 :: ms) b.vm h0) (B0 : Bs s b h0) :
    Go p e s below room_1.cells room_1.slots (Hd Z ms) (fun v vm h L => v = some (.int 1) ∧ Fr nb L) T0 (mkF m 64 #[.val (.int p1), .val (.int p2), .val (.int p3), .val (.int p4), .val (.int (Int32.ofNat n)), .val (.int c0), .val (.int c1), .val (.int c2), .val (.int c3), .val (.int c4), .val (.ref x1), .unset, .unset, .unset] []) := by
  have hcl : cs.length = 5 := by rw [hcs]; rfl
  have hci : cs.getD 2 0 = c2 := by rw [hcs]; rfl
  have hq_ : rng16 c2 := hci ▸ hr _ (mem_getD (by omega))
  obtain ⟨hx, hZ, hown, hby, hml, hnm, hret, hlk⟩ := id Cc
  have K0 := Keep.refl h0 [x1]
  show Go p e s below _ _ _ _ T0 (mkF m 64 #[.val (.int p1), .val (.int p2), .val (.int p3), .val (.int p4), .val (.int (Int32.ofNat n)), .val (.int c0), .val (.int c1), .val (.int c2), .val (.int c3), .val (.int c4), .val (.ref x1), .unset, .unset, .unset] [])
  refine Go.of (fun _ hr => XS.iload X0.here hx rfl (hb hby at_64) rfl  hr) ?_
  show Go p e s below _ _ _ _ T0 (mkF m 66 #[.val (.int p1), .val (.int p2), .val (.int p3), .val (.int p4), .val (.int (Int32.ofNat n)), .val (.int c0), .val (.int c1), .val (.int c2), .val (.int c3), .val (.int c4), .val (.ref x1), .unset, .unset, .unset] [(.int (Int32.ofNat n))])
  refine Go.of (fun _ hr => XS.iconst X0.here hx rfl (hb hby at_66) hr) ?_
  show Go p e s below _ _ _ _ T0 (mkF m 67 #[.val (.int p1), .val (.int p2), .val (.int p3), .val (.int p4), .val (.int (Int32.ofNat n)), .val (.int c0), .val (.int c1), .val (.int c2), .val (.int c3), .val (.int c4), .val (.ref x1), .unset, .unset, .unset] [(.int (2 : Int32)), (.int (Int32.ofNat n))])
  by_cases hb67_101 : (2 : Int32) < (Int32.ofNat n)
  · refine Go.of (fun _ hr => XS.icmpNo X0.here hx rfl (hb hby at_67) rfl (tlt hb67_101).2.2.2 hr) ?_
    show Go p e s below _ _ _ _ T0 (mkF m 70 #[.val (.int p1), .val (.int p2), .val (.int p3), .val (.int p4), .val (.int (Int32.ofNat n)), .val (.int c0), .val (.int c1), .val (.int c2), .val (.int c3), .val (.int c4), .val (.ref x1), .unset, .unset, .unset] [])
    have hl : 2 < n := oi_ltR (i := 2) (by decide) (by omega) hb67_101
    refine Go.of (fun _ hr => XS.aload X0.here hx rfl (hb hby at_70) rfl rfl hr) ?_
    show Go p e s below _ _ _ _ T0 (mkF m 72 #[.val (.int p1), .val (.int p2), .val (.int p3), .val (.int p4), .val (.int (Int32.ofNat n)), .val (.int c0), .val (.int c1), .val (.int c2), .val (.int c3), .val (.int c4), .val (.ref x1), .unset, .unset, .unset] [(.ref x1)])
    refine Go.of (fun _ hr => XS.iconst X0.here hx rfl (hb hby at_72) hr) ?_
    show Go p e s below _ _ _ _ T0 (mkF m 73 #[.val (.int p1), .val (.int p2), .val (.int p3), .val (.int p4), .val (.int (Int32.ofNat n)), .val (.int c0), .val (.int c1), .val (.int c2), .val (.int c3), .val (.int c4), .val (.ref x1), .unset, .unset, .unset] [(.int (2 : Int32)), (.ref x1)])
    refine Go.of (fun _ hr => XS.iload X0.here hx rfl (hb hby at_73) rfl  hr) ?_
    show Go p e s below _ _ _ _ T0 (mkF m 75 #[.val (.int p1), .val (.int p2), .val (.int p3), .val (.int p4), .val (.int (Int32.ofNat n)), .val (.int c0), .val (.int c1), .val (.int c2), .val (.int c3), .val (.int c4), .val (.ref x1), .unset, .unset, .unset] [(.int c2), (.int (2 : Int32)), (.ref x1)])
    obtain ⟨cl102, Ar102, q102, S102, N102_, H102, G102⟩ := id V1
    have hin102 : ¬ ((2 : Int32) < 0 ∨ cl102.slots.size ≤ ((2 : Int32)).toNatClampNeg) := inb_of S102 ⟨by decide, oi_lt (i := 2) (by decide) (by omega) hl⟩
    obtain ⟨T102, h102, X102, e102, W102, st102⟩ := stC X0 hx hZ e0 Ar102 (j := (2 : Int32)) hin102 (g := (mkF m 75 #[.val (.int p1), .val (.int p2), .val (.int p3), .val (.int p4), .val (.int (Int32.ofNat n)), .val (.int c0), .val (.int c1), .val (.int c2), .val (.int c3), .val (.int c4), .val (.ref x1), .unset, .unset, .unset] [(.int c2), (.int (2 : Int32)), (.ref x1)])) rfl rfl (hb hby at_75)
    rw [nar_c hq_.1 hq_.2] at W102
    have V102 : Arv Z h102 x1 kx .char (Int32.ofNat n) ((tkc n 2 cs ++ [c2]).map Value.int) (.int 0) := by have q := own_push V1 W102 (by rw [List.length_map, tk_len hl (by omega)]; rfl) (fits_c hq_.1 hq_.2); rw [push1] at q; exact q
    have N102 := Fr.snoc X102 N0 fr_x1
    have J102 := J0.wr W102 (List.mem_cons_self ..)
    have B102 := B0.mono (Nat.le_of_eq W102.size.symm)
    have O102 := O0.wr W102 (Nat.le_trans hb0 fr_x1)
    have K102 := K0.wr W102 (Or.inl (List.mem_of_getElem? (i := 0) rfl))
    refine Go.of (fun _ hr => st102 _ hr) ?_
    show Go p e s below _ _ _ _ T102 (mkF m 76 #[.val (.int p1), .val (.int p2), .val (.int p3), .val (.int p4), .val (.int (Int32.ofNat n)), .val (.int c0), .val (.int c1), .val (.int c2), .val (.int c3), .val (.int c4), .val (.ref x1), .unset, .unset, .unset] [])
    exact law_f3 l Z a0 hw p1 p2 p3 p4 c0 c1 c2 c3 c4 n x1 _ cs zc h102 n0 O102 nb hb0 (Nat.le_trans hnb K102.1) fs hfs S_F S_D S_H S_L hn hcs hr fr_x1 (by rw [tk_yes hl (by omega), hci]; exact V102) S_C hzc Cc X102 e102 N102 (J102.sub (own_sub1 (List.mem_cons_self ..) (fun x hx => (List.mem_cons_of_mem _ hx)))) B102
  · refine Go.of (fun _ hr => XS.icmpYes X0.here hx rfl (pc0 := 67) (pc' := 76) rfl (hb hby at_67) rfl (flt hb67_101).2.2.2 (by decide) (by decide) hr) ?_
    show Go p e s below _ _ _ _ T0 (mkF m 76 #[.val (.int p1), .val (.int p2), .val (.int p3), .val (.int p4), .val (.int (Int32.ofNat n)), .val (.int c0), .val (.int c1), .val (.int c2), .val (.int c3), .val (.int c4), .val (.ref x1), .unset, .unset, .unset] [])
    exact law_f3 l Z a0 hw p1 p2 p3 p4 c0 c1 c2 c3 c4 n x1 _ cs zc h0 n0 O0 nb hb0 (Nat.le_trans hnb K0.1) fs hfs S_F S_D S_H S_L hn hcs hr fr_x1 (by rw [tk_no (oi_nltR (i := 2) (by decide) (by omega) hb67_101)]; exact V1) S_C hzc Cc X0 e0 N0 (J0.sub (own_sub1 (List.mem_cons_self ..) (fun x hx => (List.mem_cons_of_mem _ hx)))) B0

set_option maxRecDepth 65536 in
set_option maxHeartbeats 40000000 in
theorem law_f1 (l : Launch) (Z : State) (a0 : Array Value) (hw : ∀ d ∈ tables_1, d.before a0 Z = true) {p : Program} {e : Env} {s b T0 : State} {m : MethodId} {args : Array Value} {below : List Frame} {meth : Method} {c : Code} {locs : List Loc} {ms : List Addr} (p1 p2 p3 p4 c0 c1 c2 c3 c4 : Int32) (n : Nat) (x1 : Addr) (kx : ClassId) (cs : List Int32) (zc : Int32) (h0 : Heap) (n0 : Nat) (O0 : Old Z n0 h0) (nb : Nat) (hb0 : n0 ≤ nb) (hnb : nb ≤ h0.size) (fs : Value) (hfs : fs = .null ∨ ∃ a, fs = .ref a) (S_F : Sta Z Z.heap "jdk/internal/util/Preconditions" "SIOOBE_FORMATTER" "Ljava/util/function/BiFunction;" fs) (S_D : Sta Z Z.heap "java/lang/StringUTF16" "$assertionsDisabled" "Z" (.int 1)) (S_H : Sta Z Z.heap "java/lang/StringUTF16" "HI_BYTE_SHIFT" "I" (.int 0)) (S_L : Sta Z Z.heap "java/lang/StringUTF16" "LO_BYTE_SHIFT" "I" (.int 8)) (hn : n ≤ 5) (hcs : cs = [c0, c1, c2, c3, c4]) (hr : ∀ x ∈ cs, rng16 x) (fr_x1 : nb ≤ x1) (V1 : Arv Z h0 x1 kx .char (Int32.ofNat n) ((tkc n 1 cs).map Value.int) (.int 0)) (S_C : Sta Z Z.heap "java/lang/String" "COMPACT_STRINGS" "Z" (.int zc)) (hzc : ¬ zc = 0) (Cc : Cx Z p b m meth c "com/example/goldspan/goldspan/rules/TextDigitsPinLaw" code 14 "law" ret) (X0 : Stand p l e room_1 b m args below meth c T0 locs 1 5) (e0 : T0.heap = h0) (N0 : Fr nb locs) (J0 : Hd Z (x1 :: ms) b.vm h0) (B0 : Bs s b h0) :
    Go p e s below room_1.cells room_1.slots (Hd Z ms) (fun v vm h L => v = some (.int 1) ∧ Fr nb L) T0 (mkF m 52 #[.val (.int p1), .val (.int p2), .val (.int p3), .val (.int p4), .val (.int (Int32.ofNat n)), .val (.int c0), .val (.int c1), .val (.int c2), .val (.int c3), .val (.int c4), .val (.ref x1), .unset, .unset, .unset] []) := by
  have hcl : cs.length = 5 := by rw [hcs]; rfl
  have hci : cs.getD 1 0 = c1 := by rw [hcs]; rfl
  have hq_ : rng16 c1 := hci ▸ hr _ (mem_getD (by omega))
  obtain ⟨hx, hZ, hown, hby, hml, hnm, hret, hlk⟩ := id Cc
  have K0 := Keep.refl h0 [x1]
  show Go p e s below _ _ _ _ T0 (mkF m 52 #[.val (.int p1), .val (.int p2), .val (.int p3), .val (.int p4), .val (.int (Int32.ofNat n)), .val (.int c0), .val (.int c1), .val (.int c2), .val (.int c3), .val (.int c4), .val (.ref x1), .unset, .unset, .unset] [])
  refine Go.of (fun _ hr => XS.iload X0.here hx rfl (hb hby at_52) rfl  hr) ?_
  show Go p e s below _ _ _ _ T0 (mkF m 54 #[.val (.int p1), .val (.int p2), .val (.int p3), .val (.int p4), .val (.int (Int32.ofNat n)), .val (.int c0), .val (.int c1), .val (.int c2), .val (.int c3), .val (.int c4), .val (.ref x1), .unset, .unset, .unset] [(.int (Int32.ofNat n))])
  refine Go.of (fun _ hr => XS.iconst X0.here hx rfl (hb hby at_54) hr) ?_
  show Go p e s below _ _ _ _ T0 (mkF m 55 #[.val (.int p1), .val (.int p2), .val (.int p3), .val (.int p4), .val (.int (Int32.ofNat n)), .val (.int c0), .val (.int c1), .val (.int c2), .val (.int c3), .val (.int c4), .val (.ref x1), .unset, .unset, .unset] [(.int (1 : Int32)), (.int (Int32.ofNat n))])
  by_cases hb55_101 : (1 : Int32) < (Int32.ofNat n)
  · refine Go.of (fun _ hr => XS.icmpNo X0.here hx rfl (hb hby at_55) rfl (tlt hb55_101).2.2.2 hr) ?_
    show Go p e s below _ _ _ _ T0 (mkF m 58 #[.val (.int p1), .val (.int p2), .val (.int p3), .val (.int p4), .val (.int (Int32.ofNat n)), .val (.int c0), .val (.int c1), .val (.int c2), .val (.int c3), .val (.int c4), .val (.ref x1), .unset, .unset, .unset] [])
    have hl : 1 < n := oi_ltR (i := 1) (by decide) (by omega) hb55_101
    refine Go.of (fun _ hr => XS.aload X0.here hx rfl (hb hby at_58) rfl rfl hr) ?_
    show Go p e s below _ _ _ _ T0 (mkF m 60 #[.val (.int p1), .val (.int p2), .val (.int p3), .val (.int p4), .val (.int (Int32.ofNat n)), .val (.int c0), .val (.int c1), .val (.int c2), .val (.int c3), .val (.int c4), .val (.ref x1), .unset, .unset, .unset] [(.ref x1)])
    refine Go.of (fun _ hr => XS.iconst X0.here hx rfl (hb hby at_60) hr) ?_
    show Go p e s below _ _ _ _ T0 (mkF m 61 #[.val (.int p1), .val (.int p2), .val (.int p3), .val (.int p4), .val (.int (Int32.ofNat n)), .val (.int c0), .val (.int c1), .val (.int c2), .val (.int c3), .val (.int c4), .val (.ref x1), .unset, .unset, .unset] [(.int (1 : Int32)), (.ref x1)])
    refine Go.of (fun _ hr => XS.iload X0.here hx rfl (hb hby at_61) rfl  hr) ?_
    show Go p e s below _ _ _ _ T0 (mkF m 63 #[.val (.int p1), .val (.int p2), .val (.int p3), .val (.int p4), .val (.int (Int32.ofNat n)), .val (.int c0), .val (.int c1), .val (.int c2), .val (.int c3), .val (.int c4), .val (.ref x1), .unset, .unset, .unset] [(.int c1), (.int (1 : Int32)), (.ref x1)])
    obtain ⟨cl102, Ar102, q102, S102, N102_, H102, G102⟩ := id V1
    have hin102 : ¬ ((1 : Int32) < 0 ∨ cl102.slots.size ≤ ((1 : Int32)).toNatClampNeg) := inb_of S102 ⟨by decide, oi_lt (i := 1) (by decide) (by omega) hl⟩
    obtain ⟨T102, h102, X102, e102, W102, st102⟩ := stC X0 hx hZ e0 Ar102 (j := (1 : Int32)) hin102 (g := (mkF m 63 #[.val (.int p1), .val (.int p2), .val (.int p3), .val (.int p4), .val (.int (Int32.ofNat n)), .val (.int c0), .val (.int c1), .val (.int c2), .val (.int c3), .val (.int c4), .val (.ref x1), .unset, .unset, .unset] [(.int c1), (.int (1 : Int32)), (.ref x1)])) rfl rfl (hb hby at_63)
    rw [nar_c hq_.1 hq_.2] at W102
    have V102 : Arv Z h102 x1 kx .char (Int32.ofNat n) ((tkc n 1 cs ++ [c1]).map Value.int) (.int 0) := by have q := own_push V1 W102 (by rw [List.length_map, tk_len hl (by omega)]; rfl) (fits_c hq_.1 hq_.2); rw [push1] at q; exact q
    have N102 := Fr.snoc X102 N0 fr_x1
    have J102 := J0.wr W102 (List.mem_cons_self ..)
    have B102 := B0.mono (Nat.le_of_eq W102.size.symm)
    have O102 := O0.wr W102 (Nat.le_trans hb0 fr_x1)
    have K102 := K0.wr W102 (Or.inl (List.mem_of_getElem? (i := 0) rfl))
    refine Go.of (fun _ hr => st102 _ hr) ?_
    show Go p e s below _ _ _ _ T102 (mkF m 64 #[.val (.int p1), .val (.int p2), .val (.int p3), .val (.int p4), .val (.int (Int32.ofNat n)), .val (.int c0), .val (.int c1), .val (.int c2), .val (.int c3), .val (.int c4), .val (.ref x1), .unset, .unset, .unset] [])
    exact law_f2 l Z a0 hw p1 p2 p3 p4 c0 c1 c2 c3 c4 n x1 _ cs zc h102 n0 O102 nb hb0 (Nat.le_trans hnb K102.1) fs hfs S_F S_D S_H S_L hn hcs hr fr_x1 (by rw [tk_yes hl (by omega), hci]; exact V102) S_C hzc Cc X102 e102 N102 (J102.sub (own_sub1 (List.mem_cons_self ..) (fun x hx => (List.mem_cons_of_mem _ hx)))) B102
  · refine Go.of (fun _ hr => XS.icmpYes X0.here hx rfl (pc0 := 55) (pc' := 64) rfl (hb hby at_55) rfl (flt hb55_101).2.2.2 (by decide) (by decide) hr) ?_
    show Go p e s below _ _ _ _ T0 (mkF m 64 #[.val (.int p1), .val (.int p2), .val (.int p3), .val (.int p4), .val (.int (Int32.ofNat n)), .val (.int c0), .val (.int c1), .val (.int c2), .val (.int c3), .val (.int c4), .val (.ref x1), .unset, .unset, .unset] [])
    exact law_f2 l Z a0 hw p1 p2 p3 p4 c0 c1 c2 c3 c4 n x1 _ cs zc h0 n0 O0 nb hb0 (Nat.le_trans hnb K0.1) fs hfs S_F S_D S_H S_L hn hcs hr fr_x1 (by rw [tk_no (oi_nltR (i := 1) (by decide) (by omega) hb55_101)]; exact V1) S_C hzc Cc X0 e0 N0 (J0.sub (own_sub1 (List.mem_cons_self ..) (fun x hx => (List.mem_cons_of_mem _ hx)))) B0

set_option maxRecDepth 65536 in
set_option maxHeartbeats 40000000 in
theorem law_f0 (l : Launch) (Z : State) (a0 : Array Value) (hw : ∀ d ∈ tables_1, d.before a0 Z = true) {p : Program} {e : Env} {s b T0 : State} {m : MethodId} {args : Array Value} {below : List Frame} {meth : Method} {c : Code} {locs : List Loc} {ms : List Addr} (p1 p2 p3 p4 c0 c1 c2 c3 c4 : Int32) (n : Nat) (x1 : Addr) (kx : ClassId) (cs : List Int32) (zc : Int32) (h0 : Heap) (n0 : Nat) (O0 : Old Z n0 h0) (nb : Nat) (hb0 : n0 ≤ nb) (hnb : nb ≤ h0.size) (fs : Value) (hfs : fs = .null ∨ ∃ a, fs = .ref a) (S_F : Sta Z Z.heap "jdk/internal/util/Preconditions" "SIOOBE_FORMATTER" "Ljava/util/function/BiFunction;" fs) (S_D : Sta Z Z.heap "java/lang/StringUTF16" "$assertionsDisabled" "Z" (.int 1)) (S_H : Sta Z Z.heap "java/lang/StringUTF16" "HI_BYTE_SHIFT" "I" (.int 0)) (S_L : Sta Z Z.heap "java/lang/StringUTF16" "LO_BYTE_SHIFT" "I" (.int 8)) (hn : n ≤ 5) (hcs : cs = [c0, c1, c2, c3, c4]) (hr : ∀ x ∈ cs, rng16 x) (fr_x1 : nb ≤ x1) (V1 : Arv Z h0 x1 kx .char (Int32.ofNat n) ((tkc n 0 cs).map Value.int) (.int 0)) (S_C : Sta Z Z.heap "java/lang/String" "COMPACT_STRINGS" "Z" (.int zc)) (hzc : ¬ zc = 0) (Cc : Cx Z p b m meth c "com/example/goldspan/goldspan/rules/TextDigitsPinLaw" code 14 "law" ret) (X0 : Stand p l e room_1 b m args below meth c T0 locs 1 5) (e0 : T0.heap = h0) (N0 : Fr nb locs) (J0 : Hd Z (x1 :: ms) b.vm h0) (B0 : Bs s b h0) :
    Go p e s below room_1.cells room_1.slots (Hd Z ms) (fun v vm h L => v = some (.int 1) ∧ Fr nb L) T0 (mkF m 41 #[.val (.int p1), .val (.int p2), .val (.int p3), .val (.int p4), .val (.int (Int32.ofNat n)), .val (.int c0), .val (.int c1), .val (.int c2), .val (.int c3), .val (.int c4), .val (.ref x1), .unset, .unset, .unset] []) := by
  have hcl : cs.length = 5 := by rw [hcs]; rfl
  have hci : cs.getD 0 0 = c0 := by rw [hcs]; rfl
  have hq_ : rng16 c0 := hci ▸ hr _ (mem_getD (by omega))
  obtain ⟨hx, hZ, hown, hby, hml, hnm, hret, hlk⟩ := id Cc
  have K0 := Keep.refl h0 [x1]
  show Go p e s below _ _ _ _ T0 (mkF m 41 #[.val (.int p1), .val (.int p2), .val (.int p3), .val (.int p4), .val (.int (Int32.ofNat n)), .val (.int c0), .val (.int c1), .val (.int c2), .val (.int c3), .val (.int c4), .val (.ref x1), .unset, .unset, .unset] [])
  refine Go.of (fun _ hr => XS.iload X0.here hx rfl (hb hby at_41) rfl  hr) ?_
  show Go p e s below _ _ _ _ T0 (mkF m 43 #[.val (.int p1), .val (.int p2), .val (.int p3), .val (.int p4), .val (.int (Int32.ofNat n)), .val (.int c0), .val (.int c1), .val (.int c2), .val (.int c3), .val (.int c4), .val (.ref x1), .unset, .unset, .unset] [(.int (Int32.ofNat n))])
  by_cases hb43_101 : (0 : Int32) < (Int32.ofNat n)
  · refine Go.of (fun _ hr => XS.ifNo X0.here hx rfl (hb hby at_43) rfl ((if0 _ _).trans (tlt hb43_101).2.2.2) hr) ?_
    show Go p e s below _ _ _ _ T0 (mkF m 46 #[.val (.int p1), .val (.int p2), .val (.int p3), .val (.int p4), .val (.int (Int32.ofNat n)), .val (.int c0), .val (.int c1), .val (.int c2), .val (.int c3), .val (.int c4), .val (.ref x1), .unset, .unset, .unset] [])
    have hl : 0 < n := oi_ltR (i := 0) (by decide) (by omega) hb43_101
    refine Go.of (fun _ hr => XS.aload X0.here hx rfl (hb hby at_46) rfl rfl hr) ?_
    show Go p e s below _ _ _ _ T0 (mkF m 48 #[.val (.int p1), .val (.int p2), .val (.int p3), .val (.int p4), .val (.int (Int32.ofNat n)), .val (.int c0), .val (.int c1), .val (.int c2), .val (.int c3), .val (.int c4), .val (.ref x1), .unset, .unset, .unset] [(.ref x1)])
    refine Go.of (fun _ hr => XS.iconst X0.here hx rfl (hb hby at_48) hr) ?_
    show Go p e s below _ _ _ _ T0 (mkF m 49 #[.val (.int p1), .val (.int p2), .val (.int p3), .val (.int p4), .val (.int (Int32.ofNat n)), .val (.int c0), .val (.int c1), .val (.int c2), .val (.int c3), .val (.int c4), .val (.ref x1), .unset, .unset, .unset] [(.int (0 : Int32)), (.ref x1)])
    refine Go.of (fun _ hr => XS.iload X0.here hx rfl (hb hby at_49) rfl  hr) ?_
    show Go p e s below _ _ _ _ T0 (mkF m 51 #[.val (.int p1), .val (.int p2), .val (.int p3), .val (.int p4), .val (.int (Int32.ofNat n)), .val (.int c0), .val (.int c1), .val (.int c2), .val (.int c3), .val (.int c4), .val (.ref x1), .unset, .unset, .unset] [(.int c0), (.int (0 : Int32)), (.ref x1)])
    obtain ⟨cl102, Ar102, q102, S102, N102_, H102, G102⟩ := id V1
    have hin102 : ¬ ((0 : Int32) < 0 ∨ cl102.slots.size ≤ ((0 : Int32)).toNatClampNeg) := inb_of S102 ⟨by decide, oi_lt (i := 0) (by decide) (by omega) hl⟩
    obtain ⟨T102, h102, X102, e102, W102, st102⟩ := stC X0 hx hZ e0 Ar102 (j := (0 : Int32)) hin102 (g := (mkF m 51 #[.val (.int p1), .val (.int p2), .val (.int p3), .val (.int p4), .val (.int (Int32.ofNat n)), .val (.int c0), .val (.int c1), .val (.int c2), .val (.int c3), .val (.int c4), .val (.ref x1), .unset, .unset, .unset] [(.int c0), (.int (0 : Int32)), (.ref x1)])) rfl rfl (hb hby at_51)
    rw [nar_c hq_.1 hq_.2] at W102
    have V102 : Arv Z h102 x1 kx .char (Int32.ofNat n) ((tkc n 0 cs ++ [c0]).map Value.int) (.int 0) := by have q := own_push V1 W102 (by rw [List.length_map, tk_len hl (by omega)]; rfl) (fits_c hq_.1 hq_.2); rw [push1] at q; exact q
    have N102 := Fr.snoc X102 N0 fr_x1
    have J102 := J0.wr W102 (List.mem_cons_self ..)
    have B102 := B0.mono (Nat.le_of_eq W102.size.symm)
    have O102 := O0.wr W102 (Nat.le_trans hb0 fr_x1)
    have K102 := K0.wr W102 (Or.inl (List.mem_of_getElem? (i := 0) rfl))
    refine Go.of (fun _ hr => st102 _ hr) ?_
    show Go p e s below _ _ _ _ T102 (mkF m 52 #[.val (.int p1), .val (.int p2), .val (.int p3), .val (.int p4), .val (.int (Int32.ofNat n)), .val (.int c0), .val (.int c1), .val (.int c2), .val (.int c3), .val (.int c4), .val (.ref x1), .unset, .unset, .unset] [])
    exact law_f1 l Z a0 hw p1 p2 p3 p4 c0 c1 c2 c3 c4 n x1 _ cs zc h102 n0 O102 nb hb0 (Nat.le_trans hnb K102.1) fs hfs S_F S_D S_H S_L hn hcs hr fr_x1 (by rw [tk_yes hl (by omega), hci]; exact V102) S_C hzc Cc X102 e102 N102 (J102.sub (own_sub1 (List.mem_cons_self ..) (fun x hx => (List.mem_cons_of_mem _ hx)))) B102
  · refine Go.of (fun _ hr => XS.ifYes X0.here hx rfl (pc0 := 43) (pc' := 52) rfl (hb hby at_43) rfl ((if0 _ _).trans (flt hb43_101).2.2.2) (by decide) (by decide) hr) ?_
    show Go p e s below _ _ _ _ T0 (mkF m 52 #[.val (.int p1), .val (.int p2), .val (.int p3), .val (.int p4), .val (.int (Int32.ofNat n)), .val (.int c0), .val (.int c1), .val (.int c2), .val (.int c3), .val (.int c4), .val (.ref x1), .unset, .unset, .unset] [])
    exact law_f1 l Z a0 hw p1 p2 p3 p4 c0 c1 c2 c3 c4 n x1 _ cs zc h0 n0 O0 nb hb0 (Nat.le_trans hnb K0.1) fs hfs S_F S_D S_H S_L hn hcs hr fr_x1 (by rw [tk_no (oi_nltR (i := 0) (by decide) (by omega) hb43_101)]; exact V1) S_C hzc Cc X0 e0 N0 (J0.sub (own_sub1 (List.mem_cons_self ..) (fun x hx => (List.mem_cons_of_mem _ hx)))) B0

set_option maxRecDepth 65536 in
set_option maxHeartbeats 40000000 in
theorem rm0 (l : Launch) (Z : State) (a0 : Array Value) (hw : ∀ d ∈ tables_1, d.before a0 Z = true) (ws : List Jvm.Cond) (p1 p2 p3 p4 : Int32) (zc : Int32) (ms : List Addr) (h0 : Heap) (n0 : Nat) (O0 : Old Z n0 h0) (nb : Nat) (hb0 : n0 ≤ nb) (hnb : nb ≤ h0.size) (fs : Value) (hfs : fs = .null ∨ ∃ a, fs = .ref a) (S_F : Sta Z Z.heap "jdk/internal/util/Preconditions" "SIOOBE_FORMATTER" "Ljava/util/function/BiFunction;" fs) (S_D : Sta Z Z.heap "java/lang/StringUTF16" "$assertionsDisabled" "Z" (.int 1)) (S_H : Sta Z Z.heap "java/lang/StringUTF16" "HI_BYTE_SHIFT" "I" (.int 0)) (S_L : Sta Z Z.heap "java/lang/StringUTF16" "LO_BYTE_SHIFT" "I" (.int 8)) (S_C : Sta Z Z.heap "java/lang/String" "COMPACT_STRINGS" "Z" (.int zc)) (hzc : ¬ zc = 0) :
    Con l Z ms x code maxLocals ret ws room_1 #[(.int p1), (.int p2), (.int p3), (.int p4)] h0 (fun v vm h L => v = some (.int 1) ∧ Fr nb L) := by
  refine Con.mk (plainFor_of_name pn7) ?_
  intro p e s m below meth c s₁ Cc X0 e0 eb J0 B0 M0
  replace Cc : Cx Z p s m meth c "com/example/goldspan/goldspan/rules/TextDigitsPinLaw" code 14 "law" ret := Cc
  obtain ⟨hx, hZ, hown, hby, hml, hnm, hret, hlk⟩ := id Cc
  have N0 := Fr.nil h0.size
  have K0 := Keep.refl h0 []
  refine own_go0 (show argsToLocals #[(.int p1), (.int p2), (.int p3), (.int p4)] 14 = #[.val (.int p1), .val (.int p2), .val (.int p3), .val (.int p4), .unset, .unset, .unset, .unset, .unset, .unset, .unset, .unset, .unset, .unset] from by simp [argsToLocals, Value.category, Array.replicate, List.replicate]) ?_
  show Go p e s below _ _ _ _ s₁ (mkF m 0 #[.val (.int p1), .val (.int p2), .val (.int p3), .val (.int p4), .unset, .unset, .unset, .unset, .unset, .unset, .unset, .unset, .unset, .unset] [])
  refine Go.of (fun _ hr => XS.iloadN X0.here hx rfl (hb hby at_0) rfl  hr) ?_
  show Go p e s below _ _ _ _ s₁ (mkF m 1 #[.val (.int p1), .val (.int p2), .val (.int p3), .val (.int p4), .unset, .unset, .unset, .unset, .unset, .unset, .unset, .unset, .unset, .unset] [(.int p4)])
  refine Go.of (fun _ hr => X0.ldcInt hx hown (mvT hZ (hw _ (List.mem_of_getElem? (i := 0) rfl))) (g := (mkF m 1 #[.val (.int p1), .val (.int p2), .val (.int p3), .val (.int p4), .unset, .unset, .unset, .unset, .unset, .unset, .unset, .unset, .unset, .unset] [(.int p4)])) rfl (hb hby at_1) _ hr) ?_
  show Go p e s below _ _ _ _ s₁ (mkF m 3 #[.val (.int p1), .val (.int p2), .val (.int p3), .val (.int p4), .unset, .unset, .unset, .unset, .unset, .unset, .unset, .unset, .unset, .unset] [(.int (2147483647 : Int32)), (.int p4)])
  refine Go.of (fun _ hr => XS.iand X0.here hx rfl (hb hby at_3) rfl hr) ?_
  show Go p e s below _ _ _ _ s₁ (mkF m 4 #[.val (.int p1), .val (.int p2), .val (.int p3), .val (.int p4), .unset, .unset, .unset, .unset, .unset, .unset, .unset, .unset, .unset, .unset] [(.int (p4 &&& (2147483647 : Int32)))])
  refine Go.of (fun _ hr => XS.bipush X0.here hx rfl (hb hby at_4) hr) ?_
  show Go p e s below _ _ _ _ s₁ (mkF m 6 #[.val (.int p1), .val (.int p2), .val (.int p3), .val (.int p4), .unset, .unset, .unset, .unset, .unset, .unset, .unset, .unset, .unset, .unset] [(.int (6 : Int32)), (.int (p4 &&& (2147483647 : Int32)))])
  refine Go.of (fun _ hr => iremM X0 hx rfl (hb hby at_6) rfl (by decide) hr) ?_
  show Go p e s below _ _ _ _ s₁ (mkF m 7 #[.val (.int p1), .val (.int p2), .val (.int p3), .val (.int p4), .unset, .unset, .unset, .unset, .unset, .unset, .unset, .unset, .unset, .unset] [(.int ((p4 &&& (2147483647 : Int32)) % (6 : Int32)))])
  obtain ⟨n, hn, en⟩ := rem6 p4
  rw [en]
  show Go p e s below _ _ _ _ s₁ (mkF m 7 #[.val (.int p1), .val (.int p2), .val (.int p3), .val (.int p4), .unset, .unset, .unset, .unset, .unset, .unset, .unset, .unset, .unset, .unset] [(.int (Int32.ofNat n))])
  refine Go.of (fun _ hr => XS.istore X0.here hx rfl (hb hby at_7) rfl (l' := #[.val (.int p1), .val (.int p2), .val (.int p3), .val (.int p4), .val (.int (Int32.ofNat n)), .unset, .unset, .unset, .unset, .unset, .unset, .unset, .unset, .unset]) rfl hr) ?_
  show Go p e s below _ _ _ _ s₁ (mkF m 9 #[.val (.int p1), .val (.int p2), .val (.int p3), .val (.int p4), .val (.int (Int32.ofNat n)), .unset, .unset, .unset, .unset, .unset, .unset, .unset, .unset, .unset] [])
  refine Go.of (fun _ hr => XS.iloadN X0.here hx rfl (hb hby at_9) rfl  hr) ?_
  show Go p e s below _ _ _ _ s₁ (mkF m 10 #[.val (.int p1), .val (.int p2), .val (.int p3), .val (.int p4), .val (.int (Int32.ofNat n)), .unset, .unset, .unset, .unset, .unset, .unset, .unset, .unset, .unset] [(.int p1)])
  refine Go.of (fun _ hr => XS.i2c X0.here hx rfl (hb hby at_10) rfl hr) ?_
  show Go p e s below _ _ _ _ s₁ (mkF m 11 #[.val (.int p1), .val (.int p2), .val (.int p3), .val (.int p4), .val (.int (Int32.ofNat n)), .unset, .unset, .unset, .unset, .unset, .unset, .unset, .unset, .unset] [(.int (p1.toUInt32.toUInt16.toUInt32.toInt32))])
  have hq_c0 := chr16 p1
  generalize (p1.toUInt32.toUInt16.toUInt32.toInt32) = c0 at hq_c0 ⊢
  show Go p e s below _ _ _ _ s₁ (mkF m 11 #[.val (.int p1), .val (.int p2), .val (.int p3), .val (.int p4), .val (.int (Int32.ofNat n)), .unset, .unset, .unset, .unset, .unset, .unset, .unset, .unset, .unset] [(.int c0)])
  refine Go.of (fun _ hr => XS.istore X0.here hx rfl (hb hby at_11) rfl (l' := #[.val (.int p1), .val (.int p2), .val (.int p3), .val (.int p4), .val (.int (Int32.ofNat n)), .val (.int c0), .unset, .unset, .unset, .unset, .unset, .unset, .unset, .unset]) rfl hr) ?_
  show Go p e s below _ _ _ _ s₁ (mkF m 13 #[.val (.int p1), .val (.int p2), .val (.int p3), .val (.int p4), .val (.int (Int32.ofNat n)), .val (.int c0), .unset, .unset, .unset, .unset, .unset, .unset, .unset, .unset] [])
  refine Go.of (fun _ hr => XS.iloadN X0.here hx rfl (hb hby at_13) rfl  hr) ?_
  show Go p e s below _ _ _ _ s₁ (mkF m 14 #[.val (.int p1), .val (.int p2), .val (.int p3), .val (.int p4), .val (.int (Int32.ofNat n)), .val (.int c0), .unset, .unset, .unset, .unset, .unset, .unset, .unset, .unset] [(.int p1)])
  refine Go.of (fun _ hr => XS.bipush X0.here hx rfl (hb hby at_14) hr) ?_
  show Go p e s below _ _ _ _ s₁ (mkF m 16 #[.val (.int p1), .val (.int p2), .val (.int p3), .val (.int p4), .val (.int (Int32.ofNat n)), .val (.int c0), .unset, .unset, .unset, .unset, .unset, .unset, .unset, .unset] [(.int (16 : Int32)), (.int p1)])
  refine Go.of (fun _ hr => XS.iushr X0.here hx rfl (hb hby at_16) rfl hr) ?_
  show Go p e s below _ _ _ _ s₁ (mkF m 17 #[.val (.int p1), .val (.int p2), .val (.int p3), .val (.int p4), .val (.int (Int32.ofNat n)), .val (.int c0), .unset, .unset, .unset, .unset, .unset, .unset, .unset, .unset] [(.int ((p1.toUInt32 >>> ((16 : Int32) &&& 31).toUInt32).toInt32))])
  refine Go.of (fun _ hr => XS.i2c X0.here hx rfl (hb hby at_17) rfl hr) ?_
  show Go p e s below _ _ _ _ s₁ (mkF m 18 #[.val (.int p1), .val (.int p2), .val (.int p3), .val (.int p4), .val (.int (Int32.ofNat n)), .val (.int c0), .unset, .unset, .unset, .unset, .unset, .unset, .unset, .unset] [(.int (((p1.toUInt32 >>> ((16 : Int32) &&& 31).toUInt32).toInt32).toUInt32.toUInt16.toUInt32.toInt32))])
  have hq_c1 := chr16 ((p1.toUInt32 >>> ((16 : Int32) &&& 31).toUInt32).toInt32)
  generalize (((p1.toUInt32 >>> ((16 : Int32) &&& 31).toUInt32).toInt32).toUInt32.toUInt16.toUInt32.toInt32) = c1 at hq_c1 ⊢
  show Go p e s below _ _ _ _ s₁ (mkF m 18 #[.val (.int p1), .val (.int p2), .val (.int p3), .val (.int p4), .val (.int (Int32.ofNat n)), .val (.int c0), .unset, .unset, .unset, .unset, .unset, .unset, .unset, .unset] [(.int c1)])
  refine Go.of (fun _ hr => XS.istore X0.here hx rfl (hb hby at_18) rfl (l' := #[.val (.int p1), .val (.int p2), .val (.int p3), .val (.int p4), .val (.int (Int32.ofNat n)), .val (.int c0), .val (.int c1), .unset, .unset, .unset, .unset, .unset, .unset, .unset]) rfl hr) ?_
  show Go p e s below _ _ _ _ s₁ (mkF m 20 #[.val (.int p1), .val (.int p2), .val (.int p3), .val (.int p4), .val (.int (Int32.ofNat n)), .val (.int c0), .val (.int c1), .unset, .unset, .unset, .unset, .unset, .unset, .unset] [])
  refine Go.of (fun _ hr => XS.iloadN X0.here hx rfl (hb hby at_20) rfl  hr) ?_
  show Go p e s below _ _ _ _ s₁ (mkF m 21 #[.val (.int p1), .val (.int p2), .val (.int p3), .val (.int p4), .val (.int (Int32.ofNat n)), .val (.int c0), .val (.int c1), .unset, .unset, .unset, .unset, .unset, .unset, .unset] [(.int p2)])
  refine Go.of (fun _ hr => XS.i2c X0.here hx rfl (hb hby at_21) rfl hr) ?_
  show Go p e s below _ _ _ _ s₁ (mkF m 22 #[.val (.int p1), .val (.int p2), .val (.int p3), .val (.int p4), .val (.int (Int32.ofNat n)), .val (.int c0), .val (.int c1), .unset, .unset, .unset, .unset, .unset, .unset, .unset] [(.int (p2.toUInt32.toUInt16.toUInt32.toInt32))])
  have hq_c2 := chr16 p2
  generalize (p2.toUInt32.toUInt16.toUInt32.toInt32) = c2 at hq_c2 ⊢
  show Go p e s below _ _ _ _ s₁ (mkF m 22 #[.val (.int p1), .val (.int p2), .val (.int p3), .val (.int p4), .val (.int (Int32.ofNat n)), .val (.int c0), .val (.int c1), .unset, .unset, .unset, .unset, .unset, .unset, .unset] [(.int c2)])
  refine Go.of (fun _ hr => XS.istore X0.here hx rfl (hb hby at_22) rfl (l' := #[.val (.int p1), .val (.int p2), .val (.int p3), .val (.int p4), .val (.int (Int32.ofNat n)), .val (.int c0), .val (.int c1), .val (.int c2), .unset, .unset, .unset, .unset, .unset, .unset]) rfl hr) ?_
  show Go p e s below _ _ _ _ s₁ (mkF m 24 #[.val (.int p1), .val (.int p2), .val (.int p3), .val (.int p4), .val (.int (Int32.ofNat n)), .val (.int c0), .val (.int c1), .val (.int c2), .unset, .unset, .unset, .unset, .unset, .unset] [])
  refine Go.of (fun _ hr => XS.iloadN X0.here hx rfl (hb hby at_24) rfl  hr) ?_
  show Go p e s below _ _ _ _ s₁ (mkF m 25 #[.val (.int p1), .val (.int p2), .val (.int p3), .val (.int p4), .val (.int (Int32.ofNat n)), .val (.int c0), .val (.int c1), .val (.int c2), .unset, .unset, .unset, .unset, .unset, .unset] [(.int p2)])
  refine Go.of (fun _ hr => XS.bipush X0.here hx rfl (hb hby at_25) hr) ?_
  show Go p e s below _ _ _ _ s₁ (mkF m 27 #[.val (.int p1), .val (.int p2), .val (.int p3), .val (.int p4), .val (.int (Int32.ofNat n)), .val (.int c0), .val (.int c1), .val (.int c2), .unset, .unset, .unset, .unset, .unset, .unset] [(.int (16 : Int32)), (.int p2)])
  refine Go.of (fun _ hr => XS.iushr X0.here hx rfl (hb hby at_27) rfl hr) ?_
  show Go p e s below _ _ _ _ s₁ (mkF m 28 #[.val (.int p1), .val (.int p2), .val (.int p3), .val (.int p4), .val (.int (Int32.ofNat n)), .val (.int c0), .val (.int c1), .val (.int c2), .unset, .unset, .unset, .unset, .unset, .unset] [(.int ((p2.toUInt32 >>> ((16 : Int32) &&& 31).toUInt32).toInt32))])
  refine Go.of (fun _ hr => XS.i2c X0.here hx rfl (hb hby at_28) rfl hr) ?_
  show Go p e s below _ _ _ _ s₁ (mkF m 29 #[.val (.int p1), .val (.int p2), .val (.int p3), .val (.int p4), .val (.int (Int32.ofNat n)), .val (.int c0), .val (.int c1), .val (.int c2), .unset, .unset, .unset, .unset, .unset, .unset] [(.int (((p2.toUInt32 >>> ((16 : Int32) &&& 31).toUInt32).toInt32).toUInt32.toUInt16.toUInt32.toInt32))])
  have hq_c3 := chr16 ((p2.toUInt32 >>> ((16 : Int32) &&& 31).toUInt32).toInt32)
  generalize (((p2.toUInt32 >>> ((16 : Int32) &&& 31).toUInt32).toInt32).toUInt32.toUInt16.toUInt32.toInt32) = c3 at hq_c3 ⊢
  show Go p e s below _ _ _ _ s₁ (mkF m 29 #[.val (.int p1), .val (.int p2), .val (.int p3), .val (.int p4), .val (.int (Int32.ofNat n)), .val (.int c0), .val (.int c1), .val (.int c2), .unset, .unset, .unset, .unset, .unset, .unset] [(.int c3)])
  refine Go.of (fun _ hr => XS.istore X0.here hx rfl (hb hby at_29) rfl (l' := #[.val (.int p1), .val (.int p2), .val (.int p3), .val (.int p4), .val (.int (Int32.ofNat n)), .val (.int c0), .val (.int c1), .val (.int c2), .val (.int c3), .unset, .unset, .unset, .unset, .unset]) rfl hr) ?_
  show Go p e s below _ _ _ _ s₁ (mkF m 31 #[.val (.int p1), .val (.int p2), .val (.int p3), .val (.int p4), .val (.int (Int32.ofNat n)), .val (.int c0), .val (.int c1), .val (.int c2), .val (.int c3), .unset, .unset, .unset, .unset, .unset] [])
  refine Go.of (fun _ hr => XS.iloadN X0.here hx rfl (hb hby at_31) rfl  hr) ?_
  show Go p e s below _ _ _ _ s₁ (mkF m 32 #[.val (.int p1), .val (.int p2), .val (.int p3), .val (.int p4), .val (.int (Int32.ofNat n)), .val (.int c0), .val (.int c1), .val (.int c2), .val (.int c3), .unset, .unset, .unset, .unset, .unset] [(.int p3)])
  refine Go.of (fun _ hr => XS.i2c X0.here hx rfl (hb hby at_32) rfl hr) ?_
  show Go p e s below _ _ _ _ s₁ (mkF m 33 #[.val (.int p1), .val (.int p2), .val (.int p3), .val (.int p4), .val (.int (Int32.ofNat n)), .val (.int c0), .val (.int c1), .val (.int c2), .val (.int c3), .unset, .unset, .unset, .unset, .unset] [(.int (p3.toUInt32.toUInt16.toUInt32.toInt32))])
  have hq_c4 := chr16 p3
  generalize (p3.toUInt32.toUInt16.toUInt32.toInt32) = c4 at hq_c4 ⊢
  show Go p e s below _ _ _ _ s₁ (mkF m 33 #[.val (.int p1), .val (.int p2), .val (.int p3), .val (.int p4), .val (.int (Int32.ofNat n)), .val (.int c0), .val (.int c1), .val (.int c2), .val (.int c3), .unset, .unset, .unset, .unset, .unset] [(.int c4)])
  refine Go.of (fun _ hr => XS.istore X0.here hx rfl (hb hby at_33) rfl (l' := #[.val (.int p1), .val (.int p2), .val (.int p3), .val (.int p4), .val (.int (Int32.ofNat n)), .val (.int c0), .val (.int c1), .val (.int c2), .val (.int c3), .val (.int c4), .unset, .unset, .unset, .unset]) rfl hr) ?_
  show Go p e s below _ _ _ _ s₁ (mkF m 35 #[.val (.int p1), .val (.int p2), .val (.int p3), .val (.int p4), .val (.int (Int32.ofNat n)), .val (.int c0), .val (.int c1), .val (.int c2), .val (.int c3), .val (.int c4), .unset, .unset, .unset, .unset] [])
  refine Go.of (fun _ hr => XS.iload X0.here hx rfl (hb hby at_35) rfl  hr) ?_
  show Go p e s below _ _ _ _ s₁ (mkF m 37 #[.val (.int p1), .val (.int p2), .val (.int p3), .val (.int p4), .val (.int (Int32.ofNat n)), .val (.int c0), .val (.int c1), .val (.int c2), .val (.int c3), .val (.int c4), .unset, .unset, .unset, .unset] [(.int (Int32.ofNat n))])
  obtain ⟨T101, h101, k101, X101, e101, E101, A101, st101⟩ := newP X0 hx hZ (hw _ (List.mem_of_getElem? (i := 1) rfl)) e0 (g := (mkF m 37 #[.val (.int p1), .val (.int p2), .val (.int p3), .val (.int p4), .val (.int (Int32.ofNat n)), .val (.int c0), .val (.int c1), .val (.int c2), .val (.int c3), .val (.int c4), .unset, .unset, .unset, .unset] [(.int (Int32.ofNat n))])) rfl (hb hby at_37) rfl (oi_nn (by omega)) (cap := 5) (by rw [oi_nat (by omega)]; exact hn) (by decide) (by decide) (by decide)
  obtain ⟨o101, g101⟩ : ∃ z, z = h0.size := ⟨_, rfl⟩
  rw [← g101] at A101 st101
  have V101 := Arv.new A101 (oi_nn (by omega))
  have lt101 : o101 < h101.size := A101.lt
  have J101 := J0.add E101 g101 lt101
  have B101 := B0.mono E101.1
  have O101 := O0.ext E101
  have sz101 : h0.size ≤ o101 := Nat.le_trans K0.1 (Nat.le_of_eq g101.symm)
  have fr101 : h0.size ≤ o101 := sz101
  have K101 := K0.ext E101
  refine Go.of (fun _ hr => st101 _ hr) ?_
  show Go p e s below _ _ _ _ T101 (mkF m 39 #[.val (.int p1), .val (.int p2), .val (.int p3), .val (.int p4), .val (.int (Int32.ofNat n)), .val (.int c0), .val (.int c1), .val (.int c2), .val (.int c3), .val (.int c4), .unset, .unset, .unset, .unset] [(.ref o101)])
  refine Go.of (fun _ hr => XS.astore X101.here hx rfl (hb hby at_39) rfl rfl (l' := #[.val (.int p1), .val (.int p2), .val (.int p3), .val (.int p4), .val (.int (Int32.ofNat n)), .val (.int c0), .val (.int c1), .val (.int c2), .val (.int c3), .val (.int c4), .val (.ref o101), .unset, .unset, .unset]) rfl hr) ?_
  show Go p e s below _ _ _ _ T101 (mkF m 41 #[.val (.int p1), .val (.int p2), .val (.int p3), .val (.int p4), .val (.int (Int32.ofNat n)), .val (.int c0), .val (.int c1), .val (.int c2), .val (.int c3), .val (.int c4), .val (.ref o101), .unset, .unset, .unset] [])
  exact law_f0 l Z a0 hw p1 p2 p3 p4 c0 c1 c2 c3 c4 n o101 _ [c0, c1, c2, c3, c4] zc h101 n0 O101 nb hb0 (Nat.le_trans hnb K101.1) fs hfs S_F S_D S_H S_L hn rfl (by intro x hx; simp only [List.mem_cons, List.not_mem_nil, or_false] at hx; rcases hx with rfl | rfl | rfl | rfl | rfl <;> assumption) (Nat.le_trans hnb sz101) (by rw [show tkc n 0 [c0, c1, c2, c3, c4] = [] from by rw [tkc, Nat.min_zero]; rfl]; exact V101) S_C hzc Cc X101 e101 (fun y hy => Nat.le_trans hnb (N0 y hy)) (J101.sub (own_sub1 (List.mem_cons_self ..) (fun x hx => (List.mem_cons_of_mem _ hx)))) B101

set_option maxRecDepth 65536 in
set_option maxHeartbeats 40000000 in
theorem comes_1 {Post : Tables → Env → Array Value → State → Outcome → State → Prop} (hpost : ∀ tb e args s v u, (limb_1_1.after args s (.returned v) u = true ∧ limb_1_2.after args s (.returned v) u = true ∧ True) → ReturnedEndW s (.returned v) u (Jvm.fieldLocs frame_1_writes args s ++ Jvm.arrayLocs frame_1_arrays args s ++ Jvm.staticLocs frame_1_statics s) 32 1216 → Post tb e args s (.returned v) u) :
    ArmFor flags0 classFile x code maxLocals ret World_1 tables_1 room_1 Calls_1 rest_1 Pre_1 Post := by
  intro l hfl _ _ p e ha hc hk s m args below hf hA hF happ hP
  obtain ⟨hcalls, hrest, hpre⟩ := hP
  obtain ⟨-, -, -, hnamed, -, -, -, hat⟩ := (Spec.applies_iff hf).mp happ
  obtain ⟨hg, hn⟩ := and_e (Cond.before_iff.mp (show (Jvm.Cond.and given_1 narrow_1).before args s = true from hpre))
  have hw := fun d (hd : d ∈ tables_1) => atoms_spec (ws := Jvm.Cond.code x code maxLocals ret :: tables_1) hat d (List.mem_cons_of_mem _ hd)
  obtain ⟨hsets, hown0⟩ := atoms_of _ (rest_1_c_eq ▸ (show rest_1_c.before _ s = true from hrest))
  have hfit : Fit s := fun {y c} hc i hi => by
    obtain ⟨ha, rfl⟩ := Array.getElem?_eq_some_iff.mp hc
    have q := List.all_eq_true.mp ((Array.all_eq_true_iff_forall_mem.mp hF) _ (Array.getElem_mem ha)) i (List.mem_range.mpr hi)
    simpa [Array.getElem?_eq_getElem hi] using q
  obtain ⟨hg0, hg⟩ := and_e hg
  obtain ⟨hg1, hg⟩ := and_e hg
  obtain ⟨hg2, hg⟩ := and_e hg
  obtain ⟨hg3, hg⟩ := and_e hg
  obtain ⟨w0, w1, w2, w3, rfl⟩ : ∃ w0 w1 w2 w3 : Value, args = #[w0, w1, w2, w3] := by
    have hs : args.size = 4 := by simpa [Cond.value] using hg0
    obtain ⟨L⟩ := args
    match L, hs with
    | [w0, w1, w2, w3], _ => exact ⟨w0, w1, w2, w3, rfl⟩
  obtain ⟨i0, ev0⟩ := is_v hg1
  obtain rfl : w0 = (.int i0) := Option.some.inj ev0
  obtain ⟨i1, ev1⟩ := is_v hg2
  obtain rfl : w1 = (.int i1) := Option.some.inj ev1
  obtain ⟨i2, ev2⟩ := is_v hg3
  obtain rfl : w2 = (.int i2) := Option.some.inj ev2
  obtain ⟨i3, ev3⟩ := is_v hg
  obtain rfl : w3 = (.int i3) := Option.some.inj ev3
  obtain ⟨zc, evC⟩ := is_v (Cond.before_iff.mp (hsets _ (List.mem_of_getElem? (i := 1) rfl)))
  have S_C : Sta s s.heap "java/lang/String" "COMPACT_STRINGS" "Z" (.int zc) := Sta.start evC (Or.inl (hsets _ (List.mem_of_getElem? (i := 0) rfl)))
  have hzc : ¬ (zc = (0 : Int32)) := gotF (Cond.eq_ints evC (Term.int_eval (0))) (not_v (Cond.before_iff.mp (hsets _ (List.mem_of_getElem? (i := 2) rfl))))
  have hcm : ∀ q ∈ litCs, (q.1, q.2.1) ∈ consts_1 := by decide +kernel
  have hJ : Hd s [] s.vm s.heap := Hd.start ⟨fun q hq => hcalls.1 _ (hcm q hq), fun a0 => own_compact (hsets _ (List.mem_of_getElem? (i := 2) rfl))⟩
  obtain ⟨fs, hfs, evF⟩ := own_isr (Cond.before_iff.mp (hsets _ (List.mem_of_getElem? (i := 8) rfl)))
  have S_F : Sta s s.heap "jdk/internal/util/Preconditions" "SIOOBE_FORMATTER" "Ljava/util/function/BiFunction;" fs := Sta.start evF (Or.inl (hsets _ (List.mem_of_getElem? (i := 7) rfl)))
  have S_D : Sta s s.heap "java/lang/StringUTF16" "$assertionsDisabled" "Z" (.int 1) := Sta.start (own_eqI (Cond.before_iff.mp (hsets _ (List.mem_of_getElem? (i := 12) rfl)))) (Or.inl (hsets _ (List.mem_of_getElem? (i := 11) rfl)))
  have S_H : Sta s s.heap "java/lang/StringUTF16" "HI_BYTE_SHIFT" "I" (.int 0) := Sta.start (own_eqI (Cond.before_iff.mp (hsets _ (List.mem_of_getElem? (i := 15) rfl)))) (Or.inl (hsets _ (List.mem_of_getElem? (i := 14) rfl)))
  have S_L : Sta s s.heap "java/lang/StringUTF16" "LO_BYTE_SHIFT" "I" (.int 8) := Sta.start (own_eqI (Cond.before_iff.mp (hsets _ (List.mem_of_getElem? (i := 18) rfl)))) (Or.inl (hsets _ (List.mem_of_getElem? (i := 17) rfl)))
  obtain ⟨n, o, h1, h2, h3, _, L, rfl, ⟨rfl, N⟩, -, hq⟩ := rm0 l s _ hw tables_1 i0 i1 i2 i3 zc [] s.heap s.heap.size (Old.start s) s.heap.size (Nat.le_refl _) (Nat.le_refl _) fs hfs S_F S_D S_H S_L S_C hzc p e ha hc hk s m _ below hf ((Spec.applies_iff_loose hf).mp happ).1 ⟨rfl, State.Warmed39.refl s, rfl, hJ⟩ trivial
  refine ⟨n, _, h1, h2, h3, hpost _ _ _ _ _ _ ⟨Cond.after_iff.mpr rfl, Cond.after_iff.mpr (eq_i res_at (Term.int_eval (1)) rfl), trivial⟩ ⟨hq.1, hq.2.1, hq.2.2.1, (hq.2.2.2.sift fun y hy => Or.inr (N y hy)).mono (by decide) (by decide)⟩⟩
theorem main_1_1 : Claimed_1_1 := comes_1 fun _ _ _ _ _ _ h hF => ⟨h.1, hF⟩
theorem main_1_2 : Claimed_1_2 := comes_1 fun _ _ _ _ _ _ h hF => ⟨h.2.1, hF⟩

end Jvm.Pilot.@@N@@
namespace Jvm.Pilot.@@N@@
open Jvm Jvm.ClassFile Sem Op Lib Jvm.Free Jvm.Stand Jvm.Pilot.@@N@@.Jvm.D
/-! MADE BY PROGRAM (witnessworld.py) out of the Statement's table words and the real class files: 24 classes; the members and pool entries that the words name. The judged class is class 1, her method 2. -/
namespace start1
open Jvm.ClassFile
def u (s : String) : CpInfo := .utf8 (stringToUtf16 s)
/-- a pool by its gaps: so many unusable entries, then the entry; so many at the end -/
def gap : Nat → List CpInfo → List CpInfo
  | 0, r => r
  | n + 1, r => .unusable :: gap n r
def poolList (es : List (Nat × CpInfo)) (last : Nat) : List CpInfo := es.foldr (fun e r => gap e.1 (e.2 :: r)) (gap last [])
def pool (es : List (Nat × CpInfo)) (last : Nat) : Array CpInfo := ⟨poolList es last⟩
def fileOf (pool : Array CpInfo) (this : Nat) (attrs : Array Attribute := #[]) (ms : Array MethodInfo := #[]) (fl : Nat := 33) (sup : Nat := 0) (ifs : Array Nat := #[]) (fds : Array FieldInfo := #[]) : ClassFile where
  minorVersion := 0
  majorVersion := 65
  constantPool := pool
  accessFlags := fl
  thisClass := this
  superClass := sup
  interfaces := ifs
  fields := fds
  methods := ms
  attributes := attrs
def plain (name : String) (sup : Option ClassId) : Class where
  name := name
  kind := .ordinary
  loader := none
  accessFlags := 33
  super := sup
  interfaces := #[]
  cf := none
  fields := #[]
  methods := #[]
  instanceTypes := #[]
  staticTypes := #[]
  resolved := #[]
  callSites := []
  init := .initialized
  statics := none
  mirror := none

def pool0 : Array CpInfo := pool [(5, u "<init>"), (0, u "()V"), (1, .class_ 10), (1, u "java/lang/Object"), (85, u "clone"), (0, u "()Ljava/lang/Object;")] 26

def k0c0 : Code := { maxStack := 0, maxLocals := 1, code := object_method_1_code, exceptionTable := #[], attributes := #[] }
def k0m0 : Method := { name := "<init>", desc := "()V", sig := { parameters := [], returnType := none }, accessFlags := 1, code := some k0c0 }
def k0m1 : Method := { name := "clone", desc := "()Ljava/lang/Object;", sig := { parameters := [], returnType := some (.object "java/lang/Object") }, accessFlags := 260, code := none }
/-- java/lang/Object -/
def k0 : Class := { plain "java/lang/Object" none with
  accessFlags := 33
  interfaces := #[]
  cf := some (fileOf pool0 8 #[] #[{ accessFlags := 1, nameIndex := 5, descriptorIndex := 6, attributes := #[] }, { accessFlags := 260, nameIndex := 96, descriptorIndex := 97, attributes := #[] }] 33 0 #[] #[])
  fields := #[]
  methods := #[k0m0, k0m1]
  instanceTypes := #[]
  staticTypes := #[]
  resolved := Array.replicate 124 none
  statics := none }

def pool1 : Array CpInfo := pool [(2, .class_ 4), (1, u "java/lang/Object"), (0, u "<init>"), (0, u "()V"), (0, .integer 2147483647), (0, .methodref 9 10), (0, .class_ 11), (0, .nameAndType 12 13), (0, u "com/example/goldspan/goldspan/rules/TextDigitsPinLaw"), (0, u "isAsciiDigit"), (0, u "(C)Z"), (0, .class_ 15), (0, u "java/lang/String"), (0, .methodref 14 17), (0, .nameAndType 5 18), (0, u "([C)V"), (0, .methodref 20 21), (0, .class_ 22), (0, .nameAndType 23 24), (0, u "com/example/goldspan/goldspan/rules/Text"), (0, u "digits"), (0, u "(Ljava/lang/String;)Ljava/lang/String;"), (0, .methodref 14 26), (0, .nameAndType 27 28), (0, u "length"), (0, u "()I"), (0, .methodref 14 30), (0, .nameAndType 31 32), (0, u "charAt"), (0, u "(I)C"), (3, u "law"), (0, u "(IIII)Z")] 4

def k1m0 : Method := { name := "<init>", desc := "()V", sig := { parameters := [], returnType := none }, accessFlags := 1, code := none }
def k1c1 : Code := { maxStack := 2, maxLocals := 1, code := method_2_code, exceptionTable := #[], attributes := #[] }
def k1m1 : Method := { name := "isAsciiDigit", desc := "(C)Z", sig := { parameters := [.char], returnType := some .boolean }, accessFlags := 10, code := some k1c1 }
def k1c2 : Code := { maxStack := 3, maxLocals := 14, code := code, exceptionTable := #[], attributes := #[] }
def k1m2 : Method := { name := "law", desc := "(IIII)Z", sig := { parameters := [.int, .int, .int, .int], returnType := some .boolean }, accessFlags := 9, code := some k1c2 }
/-- com/example/goldspan/goldspan/rules/TextDigitsPinLaw -/
def k1 : Class := { plain "com/example/goldspan/goldspan/rules/TextDigitsPinLaw" (some 0) with
  accessFlags := 49
  interfaces := #[]
  cf := some (fileOf pool1 9 #[] #[{ accessFlags := 1, nameIndex := 5, descriptorIndex := 6, attributes := #[] }, { accessFlags := 10, nameIndex := 12, descriptorIndex := 13, attributes := #[] }, { accessFlags := 9, nameIndex := 36, descriptorIndex := 37, attributes := #[] }] 49 2 #[] #[])
  fields := #[]
  methods := #[k1m0, k1m1, k1m2]
  instanceTypes := #[]
  staticTypes := #[]
  resolved := Array.replicate 42 none
  statics := none }

def pool2 : Array CpInfo := pool [(1, .class_ 2), (0, u "java/io/Serializable"), (0, .class_ 4), (0, u "java/lang/Object")] 2

/-- java/io/Serializable -/
def k2 : Class := { plain "java/io/Serializable" (some 0) with
  accessFlags := 1537
  interfaces := #[]
  cf := some (fileOf pool2 1 #[] #[] 1537 3 #[] #[])
  fields := #[]
  methods := #[]
  instanceTypes := #[]
  staticTypes := #[]
  resolved := Array.replicate 7 none
  statics := none }

def pool3 : Array CpInfo := pool [(1, .class_ 2), (0, u "java/lang/Comparable"), (0, .class_ 4), (0, u "java/lang/Object")] 7

/-- java/lang/Comparable -/
def k3 : Class := { plain "java/lang/Comparable" (some 0) with
  accessFlags := 1537
  interfaces := #[]
  cf := some (fileOf pool3 1 #[] #[] 1537 3 #[] #[])
  fields := #[]
  methods := #[]
  instanceTypes := #[]
  staticTypes := #[]
  resolved := Array.replicate 12 none
  statics := none }

def pool4 : Array CpInfo := pool [(2, .class_ 4), (1, u "java/lang/CharSequence"), (42, .class_ 48), (0, u "java/lang/CharSequence$1CodePointIterator"), (10, .class_ 60), (0, u "java/lang/CharSequence$1CharIterator"), (5, .class_ 67), (0, u "java/lang/Object")] 63

/-- java/lang/CharSequence -/
def k4 : Class := { plain "java/lang/CharSequence" (some 0) with
  accessFlags := 1537
  interfaces := #[]
  cf := some (fileOf pool4 2 #[.nestMembers #[47, 59]] #[] 1537 66 #[] #[])
  fields := #[]
  methods := #[]
  instanceTypes := #[]
  staticTypes := #[]
  resolved := Array.replicate 131 none
  statics := none }

def pool5 : Array CpInfo := pool [(1, .class_ 2), (0, u "java/lang/constant/Constable"), (0, .class_ 4), (0, u "java/lang/Object")] 6

/-- java/lang/constant/Constable -/
def k5 : Class := { plain "java/lang/constant/Constable" (some 0) with
  accessFlags := 1537
  interfaces := #[]
  cf := some (fileOf pool5 1 #[] #[] 1537 3 #[] #[])
  fields := #[]
  methods := #[]
  instanceTypes := #[]
  staticTypes := #[]
  resolved := Array.replicate 11 none
  statics := none }

def pool6 : Array CpInfo := pool [(1, .class_ 2), (0, u "java/lang/constant/ConstantDesc"), (0, .class_ 4), (0, u "java/lang/Object")] 32

/-- java/lang/constant/ConstantDesc -/
def k6 : Class := { plain "java/lang/constant/ConstantDesc" (some 0) with
  accessFlags := 1537
  interfaces := #[]
  cf := some (fileOf pool6 1 #[] #[] 1537 3 #[] #[])
  fields := #[]
  methods := #[]
  instanceTypes := #[]
  staticTypes := #[]
  resolved := Array.replicate 37 none
  statics := none }

def pool7 : Array CpInfo := pool [(1, .methodref 2 3), (0, .class_ 4), (0, .nameAndType 5 6), (0, u "java/lang/Object"), (0, u "<init>"), (0, u "()V"), (0, .string 8), (0, u ""), (0, .fieldref 10 11), (0, .class_ 12), (0, .nameAndType 13 14), (0, u "java/lang/String"), (0, u "value"), (0, u "[B"), (0, .fieldref 10 16), (0, .nameAndType 17 18), (0, u "coder"), (0, u "B"), (2, u "hash"), (0, u "I"), (2, u "hashIsZero"), (0, u "Z"), (0, .methodref 10 28), (0, .nameAndType 5 29), (0, u "([CIILjava/lang/Void;)V"), (8, .fieldref 10 39), (0, .nameAndType 40 26), (0, u "COMPACT_STRINGS"), (1, .class_ 44), (1, u "java/lang/StringUTF16"), (0, u "compress"), (1, .methodref 42 48), (0, .nameAndType 49 50), (0, u "coderFromArrayLen"), (0, u "([BI)B"), (3, .methodref 55 56), (0, .class_ 57), (0, .nameAndType 58 59), (0, u "java/util/Arrays"), (0, u "copyOfRange"), (0, u "([BII)[B"), (47, .class_ 109), (1, u "java/lang/StringLatin1"), (32, u "()Z"), (34, .methodref 42 178), (0, .nameAndType 45 179), (0, u "([CII)[B"), (154, u "()I"), (0, .methodref 10 336), (0, .nameAndType 17 337), (0, u "()B"), (2, u "()[B"), (22, u "([BI)C"), (27, u "(II)V"), (35, u "(I)C"), (61, .methodref 10 490), (0, .nameAndType 5 491), (0, u "(Ljava/lang/AbstractStringBuilder;Ljava/lang/Void;)V"), (0, .methodref 10 493), (0, .nameAndType 494 142), (0, u "isLatin1"), (0, .methodref 107 496), (0, .nameAndType 497 363), (0, u "charAt"), (0, .methodref 42 496), (2, u "checkIndex"), (4, .nameAndType 507 334), (0, u "length"), (41, .methodref 550 506), (0, .class_ 551), (0, u "java/lang/AbstractStringBuilder"), (0, .methodref 550 553), (0, .nameAndType 554 340), (0, u "getValue"), (20, .class_ 576), (0, u "java/lang/CharSequence"), (22, u "CASE_INSENSITIVE_ORDER"), (0, u "Ljava/util/Comparator;"), (409, u "([C)V"), (36, .methodref 550 493), (5, .fieldref 1054 1055), (0, .class_ 1056), (0, .nameAndType 1057 1058), (0, u "jdk/internal/util/Preconditions"), (0, u "SIOOBE_FORMATTER"), (0, u "Ljava/util/function/BiFunction;"), (0, .methodref 1054 1060), (0, .nameAndType 501 1061), (0, u "(IILjava/util/function/BiFunction;)I"), (39, u "serialPersistentFields"), (0, u "[Ljava/io/ObjectStreamField;"), (0, .class_ 1104), (0, u "java/lang/String$CaseInsensitiveComparator"), (1, .class_ 1107), (0, u "java/io/Serializable"), (0, .class_ 1109), (0, u "java/lang/Comparable"), (0, .class_ 1111), (0, u "java/lang/constant/Constable"), (0, .class_ 1113), (0, u "java/lang/constant/ConstantDesc"), (2, u "serialVersionUID"), (0, u "J"), (3, u "REPL"), (0, u "C"), (2, u "LATIN1"), (1, u "UTF16"), (105, u "(Ljava/lang/StringBuilder;)V")] 217

def k7m0 : Method := { name := "<init>", desc := "()V", sig := { parameters := [], returnType := none }, accessFlags := 1, code := none }
def k7c1 : Code := { maxStack := 5, maxLocals := 2, code := jdk_42_method_3_code, exceptionTable := #[], attributes := #[] }
def k7m1 : Method := { name := "<init>", desc := "([C)V", sig := { parameters := [(.array .char)], returnType := none }, accessFlags := 1, code := some k7c1 }
def k7c2 : Code := { maxStack := 3, maxLocals := 2, code := jdk_42_method_53_code, exceptionTable := #[], attributes := #[] }
def k7m2 : Method := { name := "<init>", desc := "(Ljava/lang/StringBuilder;)V", sig := { parameters := [(.object "java/lang/StringBuilder")], returnType := none }, accessFlags := 1, code := some k7c2 }
def k7c3 : Code := { maxStack := 2, maxLocals := 1, code := jdk_42_method_54_code, exceptionTable := #[], attributes := #[] }
def k7m3 : Method := { name := "length", desc := "()I", sig := { parameters := [], returnType := some .int }, accessFlags := 1, code := some k7c3 }
def k7c4 : Code := { maxStack := 2, maxLocals := 2, code := jdk_42_method_56_code, exceptionTable := #[], attributes := #[] }
def k7m4 : Method := { name := "charAt", desc := "(I)C", sig := { parameters := [.int], returnType := some .char }, accessFlags := 1, code := some k7c4 }
def k7c5 : Code := { maxStack := 4, maxLocals := 6, code := jdk_42_method_149_code, exceptionTable := #[], attributes := #[] }
def k7m5 : Method := { name := "<init>", desc := "([CIILjava/lang/Void;)V", sig := { parameters := [(.array .char), .int, .int, (.object "java/lang/Void")], returnType := none }, accessFlags := 2, code := some k7c5 }
def k7c6 : Code := { maxStack := 5, maxLocals := 5, code := jdk_42_method_150_code, exceptionTable := #[], attributes := #[] }
def k7m6 : Method := { name := "<init>", desc := "(Ljava/lang/AbstractStringBuilder;Ljava/lang/Void;)V", sig := { parameters := [(.object "java/lang/AbstractStringBuilder"), (.object "java/lang/Void")], returnType := none }, accessFlags := 0, code := some k7c6 }
def k7c7 : Code := { maxStack := 1, maxLocals := 1, code := jdk_42_method_152_code, exceptionTable := #[], attributes := #[] }
def k7m7 : Method := { name := "coder", desc := "()B", sig := { parameters := [], returnType := some .byte }, accessFlags := 0, code := some k7c7 }
def k7c8 : Code := { maxStack := 1, maxLocals := 1, code := jdk_42_method_154_code, exceptionTable := #[], attributes := #[] }
def k7m8 : Method := { name := "isLatin1", desc := "()Z", sig := { parameters := [], returnType := some .boolean }, accessFlags := 0, code := some k7c8 }
def k7c9 : Code := { maxStack := 3, maxLocals := 2, code := jdk_42_method_155_code, exceptionTable := #[], attributes := #[] }
def k7m9 : Method := { name := "checkIndex", desc := "(II)V", sig := { parameters := [.int, .int], returnType := none }, accessFlags := 8, code := some k7c9 }
/-- java/lang/String -/
def k7 : Class := { plain "java/lang/String" (some 0) with
  accessFlags := 49
  interfaces := #[2, 3, 4, 5, 6]
  cf := some (fileOf pool7 10 #[.nestMembers #[1103]] #[{ accessFlags := 1, nameIndex := 5, descriptorIndex := 6, attributes := #[] }, { accessFlags := 1, nameIndex := 5, descriptorIndex := 1010, attributes := #[] }, { accessFlags := 1, nameIndex := 5, descriptorIndex := 1233, attributes := #[] }, { accessFlags := 1, nameIndex := 507, descriptorIndex := 334, attributes := #[] }, { accessFlags := 1, nameIndex := 497, descriptorIndex := 427, attributes := #[] }, { accessFlags := 2, nameIndex := 5, descriptorIndex := 29, attributes := #[] }, { accessFlags := 0, nameIndex := 5, descriptorIndex := 491, attributes := #[] }, { accessFlags := 0, nameIndex := 17, descriptorIndex := 337, attributes := #[] }, { accessFlags := 0, nameIndex := 494, descriptorIndex := 142, attributes := #[] }, { accessFlags := 8, nameIndex := 501, descriptorIndex := 391, attributes := #[] }] 49 2 #[1106, 1108, 575, 1110, 1112] #[{ accessFlags := 18, nameIndex := 13, descriptorIndex := 14, attributes := #[] }, { accessFlags := 18, nameIndex := 17, descriptorIndex := 18, attributes := #[] }, { accessFlags := 2, nameIndex := 21, descriptorIndex := 22, attributes := #[] }, { accessFlags := 2, nameIndex := 25, descriptorIndex := 26, attributes := #[] }, { accessFlags := 26, nameIndex := 1116, descriptorIndex := 1117, attributes := #[] }, { accessFlags := 24, nameIndex := 40, descriptorIndex := 26, attributes := #[] }, { accessFlags := 26, nameIndex := 1101, descriptorIndex := 1102, attributes := #[] }, { accessFlags := 26, nameIndex := 1121, descriptorIndex := 1122, attributes := #[] }, { accessFlags := 25, nameIndex := 599, descriptorIndex := 600, attributes := #[] }, { accessFlags := 24, nameIndex := 1125, descriptorIndex := 18, attributes := #[] }, { accessFlags := 24, nameIndex := 1127, descriptorIndex := 18, attributes := #[] }])
  fields := #[{ name := "value", type := (.array .byte), accessFlags := 18, slot := 0, constantValue := 0 }, { name := "coder", type := .byte, accessFlags := 18, slot := 1, constantValue := 0 }, { name := "hash", type := .int, accessFlags := 2, slot := 2, constantValue := 0 }, { name := "hashIsZero", type := .boolean, accessFlags := 2, slot := 3, constantValue := 0 }, { name := "serialVersionUID", type := .long, accessFlags := 26, slot := 0, constantValue := 0 }, { name := "COMPACT_STRINGS", type := .boolean, accessFlags := 24, slot := 1, constantValue := 0 }, { name := "serialPersistentFields", type := (.array (.object "java/io/ObjectStreamField")), accessFlags := 26, slot := 2, constantValue := 0 }, { name := "REPL", type := .char, accessFlags := 26, slot := 3, constantValue := 0 }, { name := "CASE_INSENSITIVE_ORDER", type := (.object "java/util/Comparator"), accessFlags := 25, slot := 4, constantValue := 0 }, { name := "LATIN1", type := .byte, accessFlags := 24, slot := 5, constantValue := 0 }, { name := "UTF16", type := .byte, accessFlags := 24, slot := 6, constantValue := 0 }]
  methods := #[k7m0, k7m1, k7m2, k7m3, k7m4, k7m5, k7m6, k7m7, k7m8, k7m9]
  instanceTypes := #[(.array .byte), .byte, .int, .boolean]
  staticTypes := #[.long, .boolean, (.array (.object "java/io/ObjectStreamField")), .char, (.object "java/util/Comparator"), .byte, .byte]
  resolved := Array.replicate 1451 none
  statics := some 0 }

def pool8 : Array CpInfo := pool [(3, .class_ 4), (0, u "java/lang/String"), (1, .class_ 8), (1, u "java/lang/Object"), (0, u "<init>"), (0, u "()V"), (0, .methodref 12 13), (0, .class_ 14), (0, .nameAndType 15 16), (0, u "java/lang/StringUTF16"), (0, u "newBytesLength"), (0, u "(I)I"), (3, .integer 1073741823), (23, .fieldref 12 45), (0, .nameAndType 46 47), (0, u "$assertionsDisabled"), (0, u "Z"), (0, .methodref 12 49), (0, .nameAndType 50 51), (0, u "length"), (0, u "([B)I"), (7, .fieldref 12 60), (0, .nameAndType 61 62), (0, u "HI_BYTE_SHIFT"), (0, u "I"), (0, .fieldref 12 64), (0, .nameAndType 65 62), (0, u "LO_BYTE_SHIFT"), (1, .methodref 12 68), (0, .nameAndType 69 70), (0, u "checkIndex"), (0, u "(I[B)V"), (0, .methodref 12 72), (0, .nameAndType 73 74), (0, u "getChar"), (0, u "([BI)C"), (32, .methodref 12 108), (0, .nameAndType 109 110), (0, u "newBytesFor"), (0, u "(I)[B"), (0, .methodref 12 112), (0, .nameAndType 113 114), (0, u "putChar"), (0, u "([BII)V"), (0, .methodref 12 116), (0, .nameAndType 117 118), (0, u "compress"), (0, u "([CI[BII)I"), (0, .methodref 12 120), (0, .nameAndType 121 122), (0, u "toBytes"), (0, u "([CII)[B"), (138, u "coderFromArrayLen"), (0, u "([BI)B"), (106, .class_ 371), (1, u "java/lang/StringUTF16$LinesSpliterator"), (20, u "charAt"), (21, .methodref 3 415), (0, .nameAndType 69 416), (0, u "(II)V"), (13, u "MAX_LENGTH"), (196, .class_ 628), (0, u "java/lang/StringUTF16$CodePointsSpliterator"), (0, .class_ 630), (0, u "java/lang/StringUTF16$CharsSpliterator")] 4

def k8m0 : Method := { name := "<init>", desc := "()V", sig := { parameters := [], returnType := none }, accessFlags := 0, code := none }
def k8c1 : Code := { maxStack := 1, maxLocals := 1, code := jdk_52_method_2_code, exceptionTable := #[], attributes := #[] }
def k8m1 : Method := { name := "newBytesFor", desc := "(I)[B", sig := { parameters := [.int], returnType := some (.array .byte) }, accessFlags := 9, code := some k8c1 }
def k8c2 : Code := { maxStack := 4, maxLocals := 1, code := jdk_52_method_3_code, exceptionTable := #[], attributes := #[] }
def k8m2 : Method := { name := "newBytesLength", desc := "(I)I", sig := { parameters := [.int], returnType := some .int }, accessFlags := 9, code := some k8c2 }
def k8c3 : Code := { maxStack := 4, maxLocals := 3, code := jdk_52_method_4_code, exceptionTable := #[], attributes := #[] }
def k8m3 : Method := { name := "putChar", desc := "([BII)V", sig := { parameters := [(.array .byte), .int, .int], returnType := none }, accessFlags := 8, code := some k8c3 }
def k8c4 : Code := { maxStack := 3, maxLocals := 2, code := jdk_52_method_5_code, exceptionTable := #[], attributes := #[] }
def k8m4 : Method := { name := "getChar", desc := "([BI)C", sig := { parameters := [(.array .byte), .int], returnType := some .char }, accessFlags := 8, code := some k8c4 }
def k8c5 : Code := { maxStack := 2, maxLocals := 1, code := jdk_52_method_6_code, exceptionTable := #[], attributes := #[] }
def k8m5 : Method := { name := "length", desc := "([B)I", sig := { parameters := [(.array .byte)], returnType := some .int }, accessFlags := 9, code := some k8c5 }
def k8c6 : Code := { maxStack := 4, maxLocals := 5, code := jdk_52_method_14_code, exceptionTable := #[], attributes := #[] }
def k8m6 : Method := { name := "toBytes", desc := "([CII)[B", sig := { parameters := [(.array .char), .int, .int], returnType := some (.array .byte) }, accessFlags := 9, code := some k8c6 }
def k8c7 : Code := { maxStack := 2, maxLocals := 2, code := jdk_52_method_15_code, exceptionTable := #[], attributes := #[] }
def k8m7 : Method := { name := "coderFromArrayLen", desc := "([BI)B", sig := { parameters := [(.array .byte), .int], returnType := some .byte }, accessFlags := 8, code := some k8c7 }
def k8c8 : Code := { maxStack := 5, maxLocals := 6, code := jdk_52_method_16_code, exceptionTable := #[], attributes := #[] }
def k8m8 : Method := { name := "compress", desc := "([CII)[B", sig := { parameters := [(.array .char), .int, .int], returnType := some (.array .byte) }, accessFlags := 9, code := some k8c8 }
def k8c9 : Code := { maxStack := 3, maxLocals := 7, code := jdk_52_method_21_code, exceptionTable := #[], attributes := #[] }
def k8m9 : Method := { name := "compress", desc := "([CI[BII)I", sig := { parameters := [(.array .char), .int, (.array .byte), .int, .int], returnType := some .int }, accessFlags := 9, code := some k8c9 }
def k8c10 : Code := { maxStack := 2, maxLocals := 2, code := jdk_52_method_83_code, exceptionTable := #[], attributes := #[] }
def k8m10 : Method := { name := "charAt", desc := "([BI)C", sig := { parameters := [(.array .byte), .int], returnType := some .char }, accessFlags := 9, code := some k8c10 }
def k8c11 : Code := { maxStack := 2, maxLocals := 2, code := jdk_52_method_91_code, exceptionTable := #[], attributes := #[] }
def k8m11 : Method := { name := "checkIndex", desc := "(I[B)V", sig := { parameters := [.int, (.array .byte)], returnType := none }, accessFlags := 9, code := some k8c11 }
/-- java/lang/StringUTF16 -/
def k8 : Class := { plain "java/lang/StringUTF16" (some 0) with
  accessFlags := 48
  interfaces := #[]
  cf := some (fileOf pool8 12 #[.nestMembers #[627, 629, 369]] #[{ accessFlags := 0, nameIndex := 9, descriptorIndex := 10, attributes := #[] }, { accessFlags := 9, nameIndex := 109, descriptorIndex := 110, attributes := #[] }, { accessFlags := 9, nameIndex := 15, descriptorIndex := 16, attributes := #[] }, { accessFlags := 8, nameIndex := 113, descriptorIndex := 114, attributes := #[] }, { accessFlags := 8, nameIndex := 73, descriptorIndex := 74, attributes := #[] }, { accessFlags := 9, nameIndex := 50, descriptorIndex := 51, attributes := #[] }, { accessFlags := 9, nameIndex := 121, descriptorIndex := 122, attributes := #[] }, { accessFlags := 8, nameIndex := 261, descriptorIndex := 262, attributes := #[] }, { accessFlags := 9, nameIndex := 117, descriptorIndex := 122, attributes := #[] }, { accessFlags := 9, nameIndex := 117, descriptorIndex := 118, attributes := #[] }, { accessFlags := 9, nameIndex := 392, descriptorIndex := 74, attributes := #[] }, { accessFlags := 9, nameIndex := 69, descriptorIndex := 70, attributes := #[] }] 48 6 #[] #[{ accessFlags := 26, nameIndex := 61, descriptorIndex := 62, attributes := #[] }, { accessFlags := 26, nameIndex := 65, descriptorIndex := 62, attributes := #[] }, { accessFlags := 24, nameIndex := 430, descriptorIndex := 62, attributes := #[] }, { accessFlags := 4120, nameIndex := 46, descriptorIndex := 47, attributes := #[] }])
  fields := #[{ name := "HI_BYTE_SHIFT", type := .int, accessFlags := 26, slot := 0, constantValue := 0 }, { name := "LO_BYTE_SHIFT", type := .int, accessFlags := 26, slot := 1, constantValue := 0 }, { name := "MAX_LENGTH", type := .int, accessFlags := 24, slot := 2, constantValue := 0 }, { name := "$assertionsDisabled", type := .boolean, accessFlags := 4120, slot := 3, constantValue := 0 }]
  methods := #[k8m0, k8m1, k8m2, k8m3, k8m4, k8m5, k8m6, k8m7, k8m8, k8m9, k8m10, k8m11]
  instanceTypes := #[]
  staticTypes := #[.int, .int, .int, .boolean]
  resolved := Array.replicate 635 none
  statics := some 1 }

def pool9 : Array CpInfo := pool [(2, .class_ 4), (1, u "java/lang/Object"), (0, u "<init>"), (0, u "()V"), (1, .class_ 10), (1, u "com/example/goldspan/goldspan/rules/Text"), (4, u "(Ljava/lang/String;)Ljava/lang/String;"), (12, .class_ 29), (0, u "java/lang/StringBuilder"), (0, .methodref 31 32), (0, .class_ 33), (0, .nameAndType 34 35), (0, u "java/lang/String"), (0, u "length"), (0, u "()I"), (0, .methodref 28 37), (0, .nameAndType 5 38), (0, u "(I)V"), (25, u "append"), (12, .methodref 28 78), (0, .nameAndType 79 80), (0, u "toString"), (0, u "()Ljava/lang/String;"), (21, .methodref 31 103), (0, .nameAndType 104 105), (0, u "charAt"), (0, u "(I)C"), (0, .methodref 28 107), (0, .nameAndType 64 108), (0, u "(C)Ljava/lang/StringBuilder;"), (192, u "DIAERESIS"), (0, u "C"), (10, u "digits")] 25

def k9m0 : Method := { name := "<init>", desc := "()V", sig := { parameters := [], returnType := none }, accessFlags := 2, code := none }
def k9c1 : Code := { maxStack := 3, maxLocals := 4, code := prog_39_method_6_code, exceptionTable := #[], attributes := #[] }
def k9m1 : Method := { name := "digits", desc := "(Ljava/lang/String;)Ljava/lang/String;", sig := { parameters := [(.object "java/lang/String")], returnType := some (.object "java/lang/String") }, accessFlags := 9, code := some k9c1 }
/-- com/example/goldspan/goldspan/rules/Text -/
def k9 : Class := { plain "com/example/goldspan/goldspan/rules/Text" (some 0) with
  accessFlags := 49
  interfaces := #[]
  cf := some (fileOf pool9 8 #[] #[{ accessFlags := 2, nameIndex := 5, descriptorIndex := 6, attributes := #[] }, { accessFlags := 9, nameIndex := 313, descriptorIndex := 15, attributes := #[] }] 49 2 #[] #[{ accessFlags := 26, nameIndex := 301, descriptorIndex := 302, attributes := #[] }])
  fields := #[{ name := "DIAERESIS", type := .char, accessFlags := 26, slot := 0, constantValue := 0 }]
  methods := #[k9m0, k9m1]
  instanceTypes := #[]
  staticTypes := #[.char]
  resolved := Array.replicate 339 none
  statics := none }

def pool10 : Array CpInfo := pool [(1, .class_ 2), (0, u "java/lang/Appendable"), (0, .class_ 4), (0, u "java/lang/Object")] 9

/-- java/lang/Appendable -/
def k10 : Class := { plain "java/lang/Appendable" (some 0) with
  accessFlags := 1537
  interfaces := #[]
  cf := some (fileOf pool10 1 #[] #[] 1537 3 #[] #[])
  fields := #[]
  methods := #[]
  instanceTypes := #[]
  staticTypes := #[]
  resolved := Array.replicate 14 none
  statics := none }

def pool11 : Array CpInfo := pool [(1, .class_ 2), (0, u "java/lang/String"), (0, .methodref 4 5), (0, .class_ 6), (0, .nameAndType 7 8), (0, u "java/lang/Object"), (0, u "<init>"), (0, u "()V"), (1, .class_ 12), (1, u "java/lang/AbstractStringBuilder"), (0, u "EMPTYVALUE"), (0, u "[B"), (0, .fieldref 10 16), (0, .nameAndType 17 14), (0, u "value"), (0, .fieldref 1 19), (0, .nameAndType 20 21), (0, u "COMPACT_STRINGS"), (0, u "Z"), (0, .fieldref 10 23), (0, .nameAndType 24 25), (0, u "coder"), (0, u "B"), (8, u "length"), (0, u "()I"), (9, u "append"), (2, .class_ 49), (0, u "java/lang/CharSequence"), (25, u "maybeLatin1"), (3, .fieldref 10 80), (0, .nameAndType 81 82), (0, u "count"), (0, u "I"), (0, .methodref 10 84), (0, .nameAndType 85 86), (0, u "isLatin1"), (0, u "()Z"), (1, .class_ 90), (1, u "java/lang/StringLatin1"), (9, .methodref 10 101), (0, .nameAndType 102 103), (0, u "ensureCapacityInternal"), (0, u "(I)V"), (87, .methodref 88 192), (0, .nameAndType 193 194), (0, u "canEncode"), (0, u "(C)Z"), (97, u "(C)Ljava/lang/AbstractStringBuilder;"), (110, u "()[B"), (40, .class_ 445), (0, u "java/lang/Appendable"), (106, u "getValue")] 56

def k11m0 : Method := { name := "<init>", desc := "()V", sig := { parameters := [], returnType := none }, accessFlags := 0, code := none }
def k11c1 : Code := { maxStack := 2, maxLocals := 2, code := jdk_68_method_2_code, exceptionTable := #[], attributes := #[] }
def k11m1 : Method := { name := "<init>", desc := "(I)V", sig := { parameters := [.int], returnType := none }, accessFlags := 0, code := some k11c1 }
def k11c2 : Code := { maxStack := 1, maxLocals := 1, code := jdk_68_method_6_code, exceptionTable := #[], attributes := #[] }
def k11m2 : Method := { name := "length", desc := "()I", sig := { parameters := [], returnType := some .int }, accessFlags := 1, code := some k11c2 }
def k11c3 : Code := { maxStack := 4, maxLocals := 3, code := jdk_68_method_9_code, exceptionTable := #[], attributes := #[] }
def k11m3 : Method := { name := "ensureCapacityInternal", desc := "(I)V", sig := { parameters := [.int], returnType := none }, accessFlags := 2, code := some k11c3 }
def k11c4 : Code := { maxStack := 5, maxLocals := 2, code := jdk_68_method_31_code, exceptionTable := #[], attributes := #[] }
def k11m4 : Method := { name := "append", desc := "(C)Ljava/lang/AbstractStringBuilder;", sig := { parameters := [.char], returnType := some (.object "java/lang/AbstractStringBuilder") }, accessFlags := 1, code := some k11c4 }
def k11c5 : Code := { maxStack := 1, maxLocals := 1, code := jdk_68_method_64_code, exceptionTable := #[], attributes := #[] }
def k11m5 : Method := { name := "getValue", desc := "()[B", sig := { parameters := [], returnType := some (.array .byte) }, accessFlags := 16, code := some k11c5 }
def k11c6 : Code := { maxStack := 1, maxLocals := 1, code := jdk_68_method_68_code, exceptionTable := #[], attributes := #[] }
def k11m6 : Method := { name := "isLatin1", desc := "()Z", sig := { parameters := [], returnType := some .boolean }, accessFlags := 16, code := some k11c6 }
/-- java/lang/AbstractStringBuilder -/
def k11 : Class := { plain "java/lang/AbstractStringBuilder" (some 0) with
  accessFlags := 1056
  interfaces := #[10, 4]
  cf := some (fileOf pool11 10 #[] #[{ accessFlags := 0, nameIndex := 7, descriptorIndex := 8, attributes := #[] }, { accessFlags := 0, nameIndex := 7, descriptorIndex := 103, attributes := #[] }, { accessFlags := 1, nameIndex := 34, descriptorIndex := 35, attributes := #[] }, { accessFlags := 2, nameIndex := 102, descriptorIndex := 103, attributes := #[] }, { accessFlags := 1, nameIndex := 45, descriptorIndex := 292, attributes := #[] }, { accessFlags := 16, nameIndex := 552, descriptorIndex := 403, attributes := #[] }, { accessFlags := 16, nameIndex := 85, descriptorIndex := 86, attributes := #[] }] 1056 4 #[444, 48] #[{ accessFlags := 0, nameIndex := 17, descriptorIndex := 14, attributes := #[] }, { accessFlags := 0, nameIndex := 24, descriptorIndex := 25, attributes := #[] }, { accessFlags := 0, nameIndex := 75, descriptorIndex := 21, attributes := #[] }, { accessFlags := 0, nameIndex := 81, descriptorIndex := 82, attributes := #[] }, { accessFlags := 26, nameIndex := 13, descriptorIndex := 14, attributes := #[] }])
  fields := #[{ name := "value", type := (.array .byte), accessFlags := 0, slot := 0, constantValue := 0 }, { name := "coder", type := .byte, accessFlags := 0, slot := 1, constantValue := 0 }, { name := "maybeLatin1", type := .boolean, accessFlags := 0, slot := 2, constantValue := 0 }, { name := "count", type := .int, accessFlags := 0, slot := 3, constantValue := 0 }, { name := "EMPTYVALUE", type := (.array .byte), accessFlags := 26, slot := 0, constantValue := 0 }]
  methods := #[k11m0, k11m1, k11m2, k11m3, k11m4, k11m5, k11m6]
  instanceTypes := #[(.array .byte), .byte, .boolean, .int]
  staticTypes := #[(.array .byte)]
  resolved := Array.replicate 609 none
  statics := none }

def pool12 : Array CpInfo := pool [(1, .methodref 2 3), (0, .class_ 4), (0, .nameAndType 5 6), (0, u "java/lang/AbstractStringBuilder"), (0, u "<init>"), (0, u "(I)V"), (11, .class_ 20), (1, u "java/lang/String"), (3, .class_ 26), (1, u "java/lang/StringBuilder"), (0, u "append"), (22, .methodref 2 51), (0, .nameAndType 27 52), (0, u "(C)Ljava/lang/AbstractStringBuilder;"), (84, .methodref 18 138), (0, .nameAndType 5 139), (0, u "(Ljava/lang/StringBuilder;)V"), (5, u "()V"), (10, u "()I"), (129, u "(C)Ljava/lang/StringBuilder;"), (56, .methodref 2 344), (0, .nameAndType 345 156), (0, u "length"), (3, .class_ 350), (0, u "java/lang/Appendable"), (0, .class_ 352), (0, u "java/io/Serializable"), (0, .class_ 354), (0, u "java/lang/Comparable"), (0, .class_ 356), (0, u "java/lang/CharSequence"), (0, u "serialVersionUID"), (0, u "J"), (40, u "toString"), (0, u "()Ljava/lang/String;")] 21

def k12m0 : Method := { name := "<init>", desc := "()V", sig := { parameters := [], returnType := none }, accessFlags := 1, code := none }
def k12c1 : Code := { maxStack := 2, maxLocals := 2, code := jdk_67_method_2_code, exceptionTable := #[], attributes := #[] }
def k12m1 : Method := { name := "<init>", desc := "(I)V", sig := { parameters := [.int], returnType := none }, accessFlags := 1, code := some k12c1 }
def k12c2 : Code := { maxStack := 2, maxLocals := 2, code := jdk_67_method_14_code, exceptionTable := #[], attributes := #[] }
def k12m2 : Method := { name := "append", desc := "(C)Ljava/lang/StringBuilder;", sig := { parameters := [.char], returnType := some (.object "java/lang/StringBuilder") }, accessFlags := 1, code := some k12c2 }
def k12c3 : Code := { maxStack := 3, maxLocals := 1, code := jdk_67_method_42_code, exceptionTable := #[], attributes := #[] }
def k12m3 : Method := { name := "toString", desc := "()Ljava/lang/String;", sig := { parameters := [], returnType := some (.object "java/lang/String") }, accessFlags := 1, code := some k12c3 }
def k12c4 : Code := { maxStack := 1, maxLocals := 1, code := jdk_67_method_93_code, exceptionTable := #[], attributes := #[] }
def k12m4 : Method := { name := "length", desc := "()I", sig := { parameters := [], returnType := some .int }, accessFlags := 4161, code := some k12c4 }
/-- java/lang/StringBuilder -/
def k12 : Class := { plain "java/lang/StringBuilder" (some 11) with
  accessFlags := 49
  interfaces := #[10, 2, 3, 4]
  cf := some (fileOf pool12 24 #[] #[{ accessFlags := 1, nameIndex := 5, descriptorIndex := 145, attributes := #[] }, { accessFlags := 1, nameIndex := 5, descriptorIndex := 6, attributes := #[] }, { accessFlags := 1, nameIndex := 27, descriptorIndex := 286, attributes := #[] }, { accessFlags := 1, nameIndex := 399, descriptorIndex := 400, attributes := #[] }, { accessFlags := 4161, nameIndex := 345, descriptorIndex := 156, attributes := #[] }] 49 2 #[349, 351, 353, 355] #[{ accessFlags := 24, nameIndex := 357, descriptorIndex := 358, attributes := #[] }])
  fields := #[{ name := "serialVersionUID", type := .long, accessFlags := 24, slot := 0, constantValue := 0 }]
  methods := #[k12m0, k12m1, k12m2, k12m3, k12m4]
  instanceTypes := #[(.array .byte), .byte, .boolean, .int]
  staticTypes := #[.long]
  resolved := Array.replicate 422 none
  statics := none }

def pool13 : Array CpInfo := pool [(1, .class_ 2), (0, u "java/lang/String"), (1, .class_ 6), (1, u "java/lang/Object"), (0, u "<init>"), (0, u "()V"), (0, .methodref 1 10), (0, .nameAndType 11 12), (0, u "checkIndex"), (0, u "(II)V"), (1, .class_ 16), (1, u "java/lang/StringLatin1"), (36, u "([BI)C"), (36, u "canEncode"), (14, u "(C)Z"), (15, u "$assertionsDisabled"), (0, u "Z"), (98, .class_ 223), (1, u "java/lang/StringLatin1$LinesSpliterator"), (28, u "charAt"), (137, .class_ 391), (0, u "java/lang/StringLatin1$CharsSpliterator")] 3

def k13m0 : Method := { name := "<init>", desc := "()V", sig := { parameters := [], returnType := none }, accessFlags := 0, code := none }
def k13c1 : Code := { maxStack := 2, maxLocals := 2, code := jdk_43_method_2_code, exceptionTable := #[], attributes := #[] }
def k13m1 : Method := { name := "charAt", desc := "([BI)C", sig := { parameters := [(.array .byte), .int], returnType := some .char }, accessFlags := 9, code := some k13c1 }
def k13c2 : Code := { maxStack := 2, maxLocals := 1, code := jdk_43_method_3_code, exceptionTable := #[], attributes := #[] }
def k13m2 : Method := { name := "canEncode", desc := "(C)Z", sig := { parameters := [.char], returnType := some .boolean }, accessFlags := 9, code := some k13c2 }
/-- java/lang/StringLatin1 -/
def k13 : Class := { plain "java/lang/StringLatin1" (some 0) with
  accessFlags := 48
  interfaces := #[]
  cf := some (fileOf pool13 14 #[.nestMembers #[390, 221]] #[{ accessFlags := 0, nameIndex := 7, descriptorIndex := 8, attributes := #[] }, { accessFlags := 9, nameIndex := 252, descriptorIndex := 53, attributes := #[] }, { accessFlags := 9, nameIndex := 90, descriptorIndex := 105, attributes := #[] }] 48 4 #[] #[{ accessFlags := 4120, nameIndex := 121, descriptorIndex := 122, attributes := #[] }])
  fields := #[{ name := "$assertionsDisabled", type := .boolean, accessFlags := 4120, slot := 0, constantValue := 0 }]
  methods := #[k13m0, k13m1, k13m2]
  instanceTypes := #[]
  staticTypes := #[.boolean]
  resolved := Array.replicate 395 none
  statics := none }

def pool14 : Array CpInfo := pool [(2, .class_ 4), (1, u "java/lang/Object"), (0, u "<init>"), (0, u "()V"), (17, .class_ 26), (1, u "jdk/internal/util/Preconditions"), (6, u "checkIndex"), (21, .class_ 56), (0, u "jdk/internal/util/Preconditions$4"), (57, .class_ 115), (0, u "jdk/internal/util/Preconditions$1"), (7, u "SIOOBE_FORMATTER"), (0, u "Ljava/util/function/BiFunction;"), (0, .class_ 126), (0, u "jdk/internal/util/Preconditions$2"), (3, u "AIOOBE_FORMATTER"), (0, .class_ 132), (0, u "jdk/internal/util/Preconditions$3"), (3, u "IOOBE_FORMATTER"), (41, u "(IILjava/util/function/BiFunction;)I")] 15

def k14m0 : Method := { name := "<init>", desc := "()V", sig := { parameters := [], returnType := none }, accessFlags := 1, code := none }
def k14c1 : Code := { maxStack := 3, maxLocals := 3, code := jdk_41_method_11_code, exceptionTable := #[], attributes := #[] }
def k14m1 : Method := { name := "checkIndex", desc := "(IILjava/util/function/BiFunction;)I", sig := { parameters := [.int, .int, (.object "java/util/function/BiFunction")], returnType := some .int }, accessFlags := 9, code := some k14c1 }
/-- jdk/internal/util/Preconditions -/
def k14 : Class := { plain "jdk/internal/util/Preconditions" (some 0) with
  accessFlags := 33
  interfaces := #[]
  cf := some (fileOf pool14 24 #[.nestMembers #[55, 131, 125, 114]] #[{ accessFlags := 1, nameIndex := 5, descriptorIndex := 6, attributes := #[] }, { accessFlags := 9, nameIndex := 33, descriptorIndex := 178, attributes := #[] }] 33 2 #[] #[{ accessFlags := 25, nameIndex := 123, descriptorIndex := 124, attributes := #[] }, { accessFlags := 25, nameIndex := 130, descriptorIndex := 124, attributes := #[] }, { accessFlags := 25, nameIndex := 136, descriptorIndex := 124, attributes := #[] }])
  fields := #[{ name := "SIOOBE_FORMATTER", type := (.object "java/util/function/BiFunction"), accessFlags := 25, slot := 0, constantValue := 0 }, { name := "AIOOBE_FORMATTER", type := (.object "java/util/function/BiFunction"), accessFlags := 25, slot := 1, constantValue := 0 }, { name := "IOOBE_FORMATTER", type := (.object "java/util/function/BiFunction"), accessFlags := 25, slot := 2, constantValue := 0 }]
  methods := #[k14m0, k14m1]
  instanceTypes := #[]
  staticTypes := #[(.object "java/util/function/BiFunction"), (.object "java/util/function/BiFunction"), (.object "java/util/function/BiFunction")]
  resolved := Array.replicate 194 none
  statics := some 2 }

def pool15 : Array CpInfo := pool [(2, .class_ 4), (1, u "java/lang/Object"), (0, u "<init>"), (0, u "()V"), (7, .class_ 16), (1, u "java/util/Arrays"), (57, .class_ 76), (1, u "java/util/Arrays$NaturalOrder"), (32, u "()Ljava/lang/Object;"), (3, .class_ 115), (1, u "java/util/Arrays$LegacyMergeSort"), (1, u "Z"), (10, .nameAndType 129 109), (0, u "clone"), (9, u "copyOfRange"), (10, .methodref 151 152), (0, .class_ 153), (0, .nameAndType 154 155), (0, u "java/lang/System"), (0, u "arraycopy"), (0, u "(Ljava/lang/Object;ILjava/lang/Object;II)V"), (148, .methodref 305 306), (0, .class_ 307), (0, .nameAndType 308 309), (0, u "java/lang/Math"), (0, u "min"), (0, u "(II)I"), (0, .methodref 311 128), (0, .class_ 312), (0, u "[B"), (26, .methodref 14 340), (0, .nameAndType 341 342), (0, u "copyOfRangeByte"), (0, u "([BII)[B"), (0, .methodref 14 344), (0, .nameAndType 345 346), (0, u "checkLength"), (0, u "(II)V"), (28, .class_ 376), (0, u "java/util/Arrays$ArrayList"), (68, u "$assertionsDisabled"), (269, u "MIN_ARRAY_SORT_GRAN"), (0, u "I"), (2, u "INSERTIONSORT_THRESHOLD"), (255, .class_ 976), (0, u "java/util/Arrays$ArrayItr")] 52

def k15m0 : Method := { name := "<init>", desc := "()V", sig := { parameters := [], returnType := none }, accessFlags := 2, code := none }
def k15c1 : Code := { maxStack := 4, maxLocals := 2, code := jdk_65_method_131_code, exceptionTable := #[], attributes := #[] }
def k15m1 : Method := { name := "checkLength", desc := "(II)V", sig := { parameters := [.int, .int], returnType := none }, accessFlags := 10, code := some k15c1 }
def k15c2 : Code := { maxStack := 3, maxLocals := 3, code := jdk_65_method_132_code, exceptionTable := #[], attributes := #[] }
def k15m2 : Method := { name := "copyOfRange", desc := "([BII)[B", sig := { parameters := [(.array .byte), .int, .int], returnType := some (.array .byte) }, accessFlags := 9, code := some k15c2 }
def k15c3 : Code := { maxStack := 6, maxLocals := 5, code := jdk_65_method_133_code, exceptionTable := #[], attributes := #[] }
def k15m3 : Method := { name := "copyOfRangeByte", desc := "([BII)[B", sig := { parameters := [(.array .byte), .int, .int], returnType := some (.array .byte) }, accessFlags := 10, code := some k15c3 }
/-- java/util/Arrays -/
def k15 : Class := { plain "java/util/Arrays" (some 0) with
  accessFlags := 49
  interfaces := #[]
  cf := some (fileOf pool15 14 #[.nestMembers #[975, 375, 113, 74]] #[{ accessFlags := 2, nameIndex := 5, descriptorIndex := 6, attributes := #[] }, { accessFlags := 10, nameIndex := 345, descriptorIndex := 346, attributes := #[] }, { accessFlags := 9, nameIndex := 139, descriptorIndex := 342, attributes := #[] }, { accessFlags := 10, nameIndex := 341, descriptorIndex := 342, attributes := #[] }] 49 2 #[] #[{ accessFlags := 26, nameIndex := 715, descriptorIndex := 716, attributes := #[] }, { accessFlags := 26, nameIndex := 719, descriptorIndex := 716, attributes := #[] }, { accessFlags := 4120, nameIndex := 445, descriptorIndex := 117, attributes := #[] }])
  fields := #[{ name := "MIN_ARRAY_SORT_GRAN", type := .int, accessFlags := 26, slot := 0, constantValue := 0 }, { name := "INSERTIONSORT_THRESHOLD", type := .int, accessFlags := 26, slot := 1, constantValue := 0 }, { name := "$assertionsDisabled", type := .boolean, accessFlags := 4120, slot := 2, constantValue := 0 }]
  methods := #[k15m0, k15m1, k15m2, k15m3]
  instanceTypes := #[]
  staticTypes := #[.int, .int, .boolean]
  resolved := Array.replicate 1029 none
  statics := none }

def pool16 : Array CpInfo := pool [(1, .class_ 2), (0, u "java/lang/Math"), (1, .class_ 6), (1, u "java/lang/Object"), (0, u "<init>"), (0, u "()V"), (89, .class_ 100), (1, u "java/lang/Math$RandomNumberGeneratorHolder"), (71, u "negativeZeroFloatBits"), (0, u "J"), (2, u "negativeZeroDoubleBits"), (24, u "min"), (43, u "$assertionsDisabled"), (0, u "Z"), (88, u "(II)I"), (2, u "twoToTheDoubleScaleDown"), (0, u "D"), (4, u "twoToTheDoubleScaleUp"), (9, u "E"), (3, u "PI"), (2, u "TAU"), (2, u "DEGREES_TO_RADIANS"), (0, u "RADIANS_TO_DEGREES")] 94

def k16m0 : Method := { name := "<init>", desc := "()V", sig := { parameters := [], returnType := none }, accessFlags := 2, code := none }
def k16c1 : Code := { maxStack := 2, maxLocals := 2, code := jdk_29_method_69_code, exceptionTable := #[], attributes := #[] }
def k16m1 : Method := { name := "min", desc := "(II)I", sig := { parameters := [.int, .int], returnType := some .int }, accessFlags := 9, code := some k16c1 }
/-- java/lang/Math -/
def k16 : Class := { plain "java/lang/Math" (some 0) with
  accessFlags := 49
  interfaces := #[]
  cf := some (fileOf pool16 1 #[.nestMembers #[98]] #[{ accessFlags := 2, nameIndex := 7, descriptorIndex := 8, attributes := #[] }, { accessFlags := 9, nameIndex := 201, descriptorIndex := 335, attributes := #[] }] 49 4 #[] #[{ accessFlags := 25, nameIndex := 354, descriptorIndex := 339, attributes := #[] }, { accessFlags := 25, nameIndex := 358, descriptorIndex := 339, attributes := #[] }, { accessFlags := 25, nameIndex := 361, descriptorIndex := 339, attributes := #[] }, { accessFlags := 26, nameIndex := 364, descriptorIndex := 339, attributes := #[] }, { accessFlags := 26, nameIndex := 365, descriptorIndex := 339, attributes := #[] }, { accessFlags := 26, nameIndex := 172, descriptorIndex := 173, attributes := #[] }, { accessFlags := 26, nameIndex := 176, descriptorIndex := 173, attributes := #[] }, { accessFlags := 8, nameIndex := 344, descriptorIndex := 339, attributes := #[] }, { accessFlags := 8, nameIndex := 338, descriptorIndex := 339, attributes := #[] }, { accessFlags := 4120, nameIndex := 245, descriptorIndex := 246, attributes := #[] }])
  fields := #[{ name := "E", type := .double, accessFlags := 25, slot := 0, constantValue := 0 }, { name := "PI", type := .double, accessFlags := 25, slot := 1, constantValue := 0 }, { name := "TAU", type := .double, accessFlags := 25, slot := 2, constantValue := 0 }, { name := "DEGREES_TO_RADIANS", type := .double, accessFlags := 26, slot := 3, constantValue := 0 }, { name := "RADIANS_TO_DEGREES", type := .double, accessFlags := 26, slot := 4, constantValue := 0 }, { name := "negativeZeroFloatBits", type := .long, accessFlags := 26, slot := 5, constantValue := 0 }, { name := "negativeZeroDoubleBits", type := .long, accessFlags := 26, slot := 6, constantValue := 0 }, { name := "twoToTheDoubleScaleUp", type := .double, accessFlags := 8, slot := 7, constantValue := 0 }, { name := "twoToTheDoubleScaleDown", type := .double, accessFlags := 8, slot := 8, constantValue := 0 }, { name := "$assertionsDisabled", type := .boolean, accessFlags := 4120, slot := 9, constantValue := 0 }]
  methods := #[k16m0, k16m1]
  instanceTypes := #[]
  staticTypes := #[.double, .double, .double, .double, .double, .long, .long, .double, .double, .boolean]
  resolved := Array.replicate 460 none
  statics := none }

def pool17 : Array CpInfo := pool [(2, .class_ 4), (1, u "java/lang/Object"), (0, u "<init>"), (0, u "()V"), (1, .class_ 10), (1, u "java/lang/System"), (0, u "allowSecurityManager"), (0, u "I"), (16, u "cons"), (0, u "Ljava/io/Console;"), (77, .class_ 110), (1, u "java/lang/System$CallersHolder"), (43, u "initialErrStream"), (0, u "Ljava/io/PrintStream;"), (19, u "security"), (0, u "Ljava/lang/SecurityManager;"), (31, .class_ 209), (0, u "java/lang/System$1"), (7, u "props"), (0, u "Ljava/util/Properties;"), (2, u "lineSeparator"), (0, u "Ljava/lang/String;"), (96, .class_ 321), (1, u "java/lang/System$LoggerFinder"), (5, .class_ 328), (0, u "java/lang/System$Logger"), (67, u "err"), (2, u "out"), (91, u "notSupportedJnuEncoding"), (15, u "in"), (17, u "initialIn"), (0, u "Ljava/io/InputStream;"), (35, u "bootLayer"), (0, u "Ljava/lang/ModuleLayer;"), (99, .class_ 664), (0, u "java/lang/System$2"), (9, u "NEVER"), (2, u "MAYBE"), (49, u "arraycopy"), (0, u "(Ljava/lang/Object;ILjava/lang/Object;II)V"), (72, .class_ 802), (0, u "java/lang/System$Logger$Level")] 31

def k17m0 : Method := { name := "<init>", desc := "()V", sig := { parameters := [], returnType := none }, accessFlags := 2, code := none }
def k17m1 : Method := { name := "arraycopy", desc := "(Ljava/lang/Object;ILjava/lang/Object;II)V", sig := { parameters := [(.object "java/lang/Object"), .int, (.object "java/lang/Object"), .int, .int], returnType := none }, accessFlags := 265, code := none }
/-- java/lang/System -/
def k17 : Class := { plain "java/lang/System" (some 0) with
  accessFlags := 49
  interfaces := #[]
  cf := some (fileOf pool17 8 #[.nestMembers #[319, 327, 801, 108, 663, 208]] #[{ accessFlags := 2, nameIndex := 5, descriptorIndex := 6, attributes := #[] }, { accessFlags := 265, nameIndex := 727, descriptorIndex := 728, attributes := #[] }] 49 2 #[] #[{ accessFlags := 25, nameIndex := 507, descriptorIndex := 526, attributes := #[] }, { accessFlags := 25, nameIndex := 399, descriptorIndex := 155, attributes := #[] }, { accessFlags := 25, nameIndex := 396, descriptorIndex := 155, attributes := #[] }, { accessFlags := 10, nameIndex := 525, descriptorIndex := 526, attributes := #[] }, { accessFlags := 26, nameIndex := 674, descriptorIndex := 12, attributes := #[] }, { accessFlags := 26, nameIndex := 677, descriptorIndex := 12, attributes := #[] }, { accessFlags := 10, nameIndex := 11, descriptorIndex := 12, attributes := #[] }, { accessFlags := 74, nameIndex := 175, descriptorIndex := 176, attributes := #[] }, { accessFlags := 10, nameIndex := 491, descriptorIndex := 222, attributes := #[] }, { accessFlags := 74, nameIndex := 29, descriptorIndex := 30, attributes := #[] }, { accessFlags := 74, nameIndex := 154, descriptorIndex := 155, attributes := #[] }, { accessFlags := 10, nameIndex := 217, descriptorIndex := 218, attributes := #[] }, { accessFlags := 10, nameIndex := 221, descriptorIndex := 222, attributes := #[] }, { accessFlags := 8, nameIndex := 562, descriptorIndex := 563, attributes := #[] }])
  fields := #[{ name := "in", type := (.object "java/io/InputStream"), accessFlags := 25, slot := 0, constantValue := 0 }, { name := "out", type := (.object "java/io/PrintStream"), accessFlags := 25, slot := 1, constantValue := 0 }, { name := "err", type := (.object "java/io/PrintStream"), accessFlags := 25, slot := 2, constantValue := 0 }, { name := "initialIn", type := (.object "java/io/InputStream"), accessFlags := 10, slot := 3, constantValue := 0 }, { name := "NEVER", type := .int, accessFlags := 26, slot := 4, constantValue := 0 }, { name := "MAYBE", type := .int, accessFlags := 26, slot := 5, constantValue := 0 }, { name := "allowSecurityManager", type := .int, accessFlags := 10, slot := 6, constantValue := 0 }, { name := "security", type := (.object "java/lang/SecurityManager"), accessFlags := 74, slot := 7, constantValue := 0 }, { name := "notSupportedJnuEncoding", type := (.object "java/lang/String"), accessFlags := 10, slot := 8, constantValue := 0 }, { name := "cons", type := (.object "java/io/Console"), accessFlags := 74, slot := 9, constantValue := 0 }, { name := "initialErrStream", type := (.object "java/io/PrintStream"), accessFlags := 74, slot := 10, constantValue := 0 }, { name := "props", type := (.object "java/util/Properties"), accessFlags := 10, slot := 11, constantValue := 0 }, { name := "lineSeparator", type := (.object "java/lang/String"), accessFlags := 10, slot := 12, constantValue := 0 }, { name := "bootLayer", type := (.object "java/lang/ModuleLayer"), accessFlags := 8, slot := 13, constantValue := 0 }]
  methods := #[k17m0, k17m1]
  instanceTypes := #[]
  staticTypes := #[(.object "java/io/InputStream"), (.object "java/io/PrintStream"), (.object "java/io/PrintStream"), (.object "java/io/InputStream"), .int, .int, .int, (.object "java/lang/SecurityManager"), (.object "java/lang/String"), (.object "java/io/Console"), (.object "java/io/PrintStream"), (.object "java/util/Properties"), (.object "java/lang/String"), (.object "java/lang/ModuleLayer")]
  resolved := Array.replicate 834 none
  statics := none }

def pool18 : Array CpInfo := pool [(1, .class_ 2), (0, u "java/lang/Cloneable"), (0, .class_ 4), (0, u "java/lang/Object")] 2

/-- java/lang/Cloneable -/
def k18 : Class := { plain "java/lang/Cloneable" (some 0) with
  accessFlags := 1537
  interfaces := #[]
  cf := some (fileOf pool18 1 #[] #[] 1537 3 #[] #[])
  fields := #[]
  methods := #[]
  instanceTypes := #[]
  staticTypes := #[]
  resolved := Array.replicate 7 none
  statics := none }

def pool19 : Array CpInfo := pool [(9, u "<init>"), (6, .class_ 18), (1, u "java/lang/Object"), (0, u "()V"), (1, .class_ 23), (1, u "jdk/internal/util/ArraysSupport"), (0, u "LOG2_ARRAY_LONG_INDEX_SCALE"), (0, u "I"), (2, u "U"), (0, u "Ljdk/internal/misc/Unsafe;"), (8, u "BIG_ENDIAN"), (0, u "Z"), (8, u "LOG2_BYTE_BIT_SIZE"), (4, u "LOG2_ARRAY_INT_INDEX_SCALE"), (54, u "JLA"), (0, u "Ljdk/internal/access/JavaLangAccess;"), (11, u "LOG2_ARRAY_BOOLEAN_INDEX_SCALE"), (9, u "LOG2_ARRAY_BYTE_INDEX_SCALE"), (5, u "LOG2_ARRAY_CHAR_INDEX_SCALE"), (5, u "LOG2_ARRAY_SHORT_INDEX_SCALE"), (18, u "LOG2_ARRAY_FLOAT_INDEX_SCALE"), (24, u "LOG2_ARRAY_DOUBLE_INDEX_SCALE"), (89, u "T_BOOLEAN"), (2, u "T_CHAR"), (1, u "T_FLOAT"), (1, u "T_DOUBLE"), (1, u "T_BYTE"), (1, u "T_SHORT"), (1, u "T_INT"), (1, u "T_LONG"), (1, u "SOFT_MAX_ARRAY_LENGTH")] 83

def k19m0 : Method := { name := "<init>", desc := "()V", sig := { parameters := [], returnType := none }, accessFlags := 2, code := none }
/-- jdk/internal/util/ArraysSupport -/
def k19 : Class := { plain "jdk/internal/util/ArraysSupport" (some 0) with
  accessFlags := 33
  interfaces := #[]
  cf := some (fileOf pool19 21 #[] #[{ accessFlags := 2, nameIndex := 9, descriptorIndex := 19, attributes := #[] }] 33 16 #[] #[{ accessFlags := 24, nameIndex := 28, descriptorIndex := 29, attributes := #[] }, { accessFlags := 26, nameIndex := 38, descriptorIndex := 39, attributes := #[] }, { accessFlags := 25, nameIndex := 121, descriptorIndex := 25, attributes := #[] }, { accessFlags := 25, nameIndex := 131, descriptorIndex := 25, attributes := #[] }, { accessFlags := 25, nameIndex := 137, descriptorIndex := 25, attributes := #[] }, { accessFlags := 25, nameIndex := 143, descriptorIndex := 25, attributes := #[] }, { accessFlags := 25, nameIndex := 53, descriptorIndex := 25, attributes := #[] }, { accessFlags := 25, nameIndex := 24, descriptorIndex := 25, attributes := #[] }, { accessFlags := 25, nameIndex := 162, descriptorIndex := 25, attributes := #[] }, { accessFlags := 25, nameIndex := 187, descriptorIndex := 25, attributes := #[] }, { accessFlags := 26, nameIndex := 48, descriptorIndex := 25, attributes := #[] }, { accessFlags := 25, nameIndex := 277, descriptorIndex := 25, attributes := #[] }, { accessFlags := 25, nameIndex := 280, descriptorIndex := 25, attributes := #[] }, { accessFlags := 25, nameIndex := 282, descriptorIndex := 25, attributes := #[] }, { accessFlags := 25, nameIndex := 284, descriptorIndex := 25, attributes := #[] }, { accessFlags := 25, nameIndex := 286, descriptorIndex := 25, attributes := #[] }, { accessFlags := 25, nameIndex := 288, descriptorIndex := 25, attributes := #[] }, { accessFlags := 25, nameIndex := 290, descriptorIndex := 25, attributes := #[] }, { accessFlags := 25, nameIndex := 292, descriptorIndex := 25, attributes := #[] }, { accessFlags := 26, nameIndex := 108, descriptorIndex := 109, attributes := #[] }, { accessFlags := 25, nameIndex := 294, descriptorIndex := 25, attributes := #[] }])
  fields := #[{ name := "U", type := (.object "jdk/internal/misc/Unsafe"), accessFlags := 24, slot := 0, constantValue := 0 }, { name := "BIG_ENDIAN", type := .boolean, accessFlags := 26, slot := 1, constantValue := 0 }, { name := "LOG2_ARRAY_BOOLEAN_INDEX_SCALE", type := .int, accessFlags := 25, slot := 2, constantValue := 0 }, { name := "LOG2_ARRAY_BYTE_INDEX_SCALE", type := .int, accessFlags := 25, slot := 3, constantValue := 0 }, { name := "LOG2_ARRAY_CHAR_INDEX_SCALE", type := .int, accessFlags := 25, slot := 4, constantValue := 0 }, { name := "LOG2_ARRAY_SHORT_INDEX_SCALE", type := .int, accessFlags := 25, slot := 5, constantValue := 0 }, { name := "LOG2_ARRAY_INT_INDEX_SCALE", type := .int, accessFlags := 25, slot := 6, constantValue := 0 }, { name := "LOG2_ARRAY_LONG_INDEX_SCALE", type := .int, accessFlags := 25, slot := 7, constantValue := 0 }, { name := "LOG2_ARRAY_FLOAT_INDEX_SCALE", type := .int, accessFlags := 25, slot := 8, constantValue := 0 }, { name := "LOG2_ARRAY_DOUBLE_INDEX_SCALE", type := .int, accessFlags := 25, slot := 9, constantValue := 0 }, { name := "LOG2_BYTE_BIT_SIZE", type := .int, accessFlags := 26, slot := 10, constantValue := 0 }, { name := "T_BOOLEAN", type := .int, accessFlags := 25, slot := 11, constantValue := 0 }, { name := "T_CHAR", type := .int, accessFlags := 25, slot := 12, constantValue := 0 }, { name := "T_FLOAT", type := .int, accessFlags := 25, slot := 13, constantValue := 0 }, { name := "T_DOUBLE", type := .int, accessFlags := 25, slot := 14, constantValue := 0 }, { name := "T_BYTE", type := .int, accessFlags := 25, slot := 15, constantValue := 0 }, { name := "T_SHORT", type := .int, accessFlags := 25, slot := 16, constantValue := 0 }, { name := "T_INT", type := .int, accessFlags := 25, slot := 17, constantValue := 0 }, { name := "T_LONG", type := .int, accessFlags := 25, slot := 18, constantValue := 0 }, { name := "JLA", type := (.object "jdk/internal/access/JavaLangAccess"), accessFlags := 26, slot := 19, constantValue := 0 }, { name := "SOFT_MAX_ARRAY_LENGTH", type := .int, accessFlags := 25, slot := 20, constantValue := 0 }]
  methods := #[k19m0]
  instanceTypes := #[]
  staticTypes := #[(.object "jdk/internal/misc/Unsafe"), .boolean, .int, .int, .int, .int, .int, .int, .int, .int, .int, .int, .int, .int, .int, .int, .int, .int, .int, (.object "jdk/internal/access/JavaLangAccess"), .int]
  resolved := Array.replicate 378 none
  statics := none }

/-- the primitive byte -/
def k20 : Class := { plain "byte" none with kind := .primitive 'B', accessFlags := 0x411 }
/-- [B -/
def k21 : Class := { plain "[B" (some 0) with kind := .array 20 .byte, interfaces := #[18, 2], accessFlags := 1041 }

/-- the primitive char -/
def k22 : Class := { plain "char" none with kind := .primitive 'C', accessFlags := 0x411 }
/-- [C -/
def k23 : Class := { plain "[C" (some 0) with kind := .array 22 .char, interfaces := #[18, 2], accessFlags := 1041 }

def heap : Heap := #[{ cls := 7, slots := #[.long 0, .int 1, .null, .int 0, .null, .int 0, .int 0], vm := .statics 7 },
  { cls := 8, slots := #[.int 0, .int 8, .int 0, .int 1], vm := .statics 8 },
  { cls := 14, slots := #[.null, .null, .null], vm := .statics 14 },
  { cls := 19, slots := #[], vm := .none }]
def classes : Array Class := #[k0, k1, k2, k3, k4, k5, k6, k7, k8, k9, k10, k11, k12, k13, k14, k15, k16, k17, k18, k19, k20, k21, k22, k23]
def interned : List (Array UInt16 × Addr) := []
def slotsUsed : Nat := 14
def theMethod : MethodId := ⟨1, 2⟩
def args0 : Array Value := #[.int 5, .int 6, .int 7, .int 8]
def aboutOver (below : List Frame) : State where
  vm := { classes := classes, interned := interned.toArray }
  heap := heap
  slotsUsed := slotsUsed
  threads := #[{ frames := .invoking theMethod args0 :: below }]
def below0 : List Frame := [.native { method := ⟨0, 0⟩, args := #[] }]
def about1 : State := aboutOver below0
def p0 : Program := .bare "" "" ""
def e0 : Env := launch0.env 0 0 0
theorem w_frames : about1.frames = Frame.invoking theMethod args0 :: below0 := rfl
set_option maxRecDepth 65536 in
theorem w_args : argsFit about1.vm theMethod args0 = true := by decide +kernel
set_option maxRecDepth 65536 in
theorem w_heap : heapFits about1 = true := by decide +kernel
set_option maxRecDepth 65536 in
theorem w_runnable : about1.curStatus? = some .runnable := by decide +kernel
set_option maxRecDepth 65536 in
theorem w_alone : about1.alone = true := by decide +kernel
set_option maxRecDepth 65536 in
theorem w_named : about1.methodNamed? x = some theMethod := by decide +kernel
set_option maxRecDepth 65536 in
theorem w_hears : about1.hears theMethod below0 = true := by decide +kernel
set_option maxRecDepth 65536 in
theorem w_ripe : about1.ripe theMethod args0 below0 = true := by decide +kernel
theorem w_running : about1.status = .running := rfl
set_option maxRecDepth 65536 in
theorem w_room : about1.hasRoom e0.platform room_1 = true :=
  launch0.hasRoom_least _ room_1 (by decide +kernel) (by decide +kernel) (by decide +kernel) (by decide +kernel) (by decide +kernel) (by decide +kernel)
theorem allAtoms_all (ts : List Jvm.Cond) (a : Array Jvm.Value) (st : Jvm.State) : (allAtoms ts).before a st = ts.all (fun c => c.before a st) := by
  induction ts with
  | nil => rfl
  | cons c t ih =>
    show (Jvm.Cond.and c (allAtoms t)).before a st = _
    rw [Jvm.Cond.before_and, ih, List.all_cons]
def words1 : List Jvm.Cond := Jvm.Cond.code x code maxLocals ret :: tables_1
/-- a 'code' word, met by the world's own term for the bytes: nothing is compared byte by byte -/
theorem code_word {y : MethodName} {bytes : ByteArray} {mx : Nat} {rt : Option FieldType} {a : Array Value} {s : State} {m : MethodId} {meth : Method} {c : Code} (h1 : s.methodNamed? y = some m) (h2 : s.vm.method? m = some meth) (h3 : meth.code = some c) (h4 : c.code = bytes)
    (h5 : (c.maxLocals == mx && c.exceptionTable.isEmpty && decide (c.maxStack ≤ mostOperands) && decide (meth.sig.returnType = rt) && !meth.locks && decide (parseMethodDescriptor y.desc = some meth.sig)) = true) : (Jvm.Cond.code y bytes mx rt).before a s = true := by
  simp only [Bool.and_eq_true, beq_iff_eq, Bool.not_eq_true', decide_eq_true_eq] at h5
  obtain ⟨⟨⟨⟨⟨g1, g2⟩, g3⟩, g4⟩, g5⟩, g6⟩ := h5
  simp [Cond.before, Cond.holds, Cond.value, h1, h2, h3, h4, g1, g2, g3, g4, g5, g6]
def isCode : Jvm.Cond → Bool
  | .code _ _ _ _ => true
  | _ => false
theorem all_split {L : List Jvm.Cond} {P : Jvm.Cond → Bool} (h1 : L.all (fun c => isCode c || P c) = true) (h2 : ∀ c ∈ L.filter isCode, P c = true) : L.all P = true := by
  refine List.all_eq_true.mpr fun c hc => ?_
  have h := List.all_eq_true.mp h1 c hc
  rcases Bool.eq_false_or_eq_true (isCode c) with hi | hi
  · exact h2 c (List.mem_filter.mpr ⟨hc, hi⟩)
  · simpa [hi] using h
set_option maxRecDepth 65536 in
theorem w_c0 : (Jvm.Cond.code x code maxLocals ret).before args0 about1 = true := code_word (m := ⟨1, 2⟩) (meth := k1m2) (c := k1c2) (by decide +kernel) rfl rfl rfl (by decide +kernel)
set_option maxRecDepth 65536 in
theorem w_c1 : (Jvm.Cond.code ({ cls := "com/example/goldspan/goldspan/rules/TextDigitsPinLaw", name := "isAsciiDigit", desc := "(C)Z" } : Jvm.MethodName) method_2_code (1 : Nat) (Option.some Jvm.ClassFile.FieldType.boolean)).before args0 about1 = true := code_word (m := ⟨1, 1⟩) (meth := k1m1) (c := k1c1) (by decide +kernel) rfl rfl rfl (by decide +kernel)
set_option maxRecDepth 65536 in
theorem w_c2 : (Jvm.Cond.code ({ cls := "java/lang/String", name := "<init>", desc := "([C)V" } : Jvm.MethodName) jdk_42_method_3_code (2 : Nat) (Option.none : Option Jvm.ClassFile.FieldType)).before args0 about1 = true := code_word (m := ⟨7, 1⟩) (meth := k7m1) (c := k7c1) (by decide +kernel) rfl rfl rfl (by decide +kernel)
set_option maxRecDepth 65536 in
theorem w_c3 : (Jvm.Cond.code ({ cls := "java/lang/String", name := "<init>", desc := "([CIILjava/lang/Void;)V" } : Jvm.MethodName) jdk_42_method_149_code (6 : Nat) (Option.none : Option Jvm.ClassFile.FieldType)).before args0 about1 = true := code_word (m := ⟨7, 5⟩) (meth := k7m5) (c := k7c5) (by decide +kernel) rfl rfl rfl (by decide +kernel)
set_option maxRecDepth 65536 in
theorem w_c4 : (Jvm.Cond.code ({ cls := "java/lang/Object", name := "<init>", desc := "()V" } : Jvm.MethodName) object_method_1_code (1 : Nat) (Option.none : Option Jvm.ClassFile.FieldType)).before args0 about1 = true := code_word (m := ⟨0, 0⟩) (meth := k0m0) (c := k0c0) (by decide +kernel) rfl rfl rfl (by decide +kernel)
set_option maxRecDepth 65536 in
theorem w_c5 : (Jvm.Cond.code ({ cls := "java/lang/StringUTF16", name := "compress", desc := "([CII)[B" } : Jvm.MethodName) jdk_52_method_16_code (6 : Nat) (Option.some (Jvm.ClassFile.FieldType.array Jvm.ClassFile.FieldType.byte))).before args0 about1 = true := code_word (m := ⟨8, 8⟩) (meth := k8m8) (c := k8c8) (by decide +kernel) rfl rfl rfl (by decide +kernel)
set_option maxRecDepth 65536 in
theorem w_c6 : (Jvm.Cond.code ({ cls := "java/lang/StringUTF16", name := "compress", desc := "([CI[BII)I" } : Jvm.MethodName) jdk_52_method_21_code (7 : Nat) (Option.some Jvm.ClassFile.FieldType.int)).before args0 about1 = true := code_word (m := ⟨8, 9⟩) (meth := k8m9) (c := k8c9) (by decide +kernel) rfl rfl rfl (by decide +kernel)
set_option maxRecDepth 65536 in
theorem w_c7 : (Jvm.Cond.code ({ cls := "java/lang/StringUTF16", name := "coderFromArrayLen", desc := "([BI)B" } : Jvm.MethodName) jdk_52_method_15_code (2 : Nat) (Option.some Jvm.ClassFile.FieldType.byte)).before args0 about1 = true := code_word (m := ⟨8, 7⟩) (meth := k8m7) (c := k8c7) (by decide +kernel) rfl rfl rfl (by decide +kernel)
set_option maxRecDepth 65536 in
theorem w_c8 : (Jvm.Cond.code ({ cls := "com/example/goldspan/goldspan/rules/Text", name := "digits", desc := "(Ljava/lang/String;)Ljava/lang/String;" } : Jvm.MethodName) prog_39_method_6_code (4 : Nat) (Option.some (Jvm.ClassFile.FieldType.object "java/lang/String"))).before args0 about1 = true := code_word (m := ⟨9, 1⟩) (meth := k9m1) (c := k9c1) (by decide +kernel) rfl rfl rfl (by decide +kernel)
set_option maxRecDepth 65536 in
theorem w_c9 : (Jvm.Cond.code ({ cls := "java/lang/String", name := "length", desc := "()I" } : Jvm.MethodName) jdk_42_method_54_code (1 : Nat) (Option.some Jvm.ClassFile.FieldType.int)).before args0 about1 = true := code_word (m := ⟨7, 3⟩) (meth := k7m3) (c := k7c3) (by decide +kernel) rfl rfl rfl (by decide +kernel)
set_option maxRecDepth 65536 in
theorem w_c10 : (Jvm.Cond.code ({ cls := "java/lang/String", name := "coder", desc := "()B" } : Jvm.MethodName) jdk_42_method_152_code (1 : Nat) (Option.some Jvm.ClassFile.FieldType.byte)).before args0 about1 = true := code_word (m := ⟨7, 7⟩) (meth := k7m7) (c := k7c7) (by decide +kernel) rfl rfl rfl (by decide +kernel)
set_option maxRecDepth 65536 in
theorem w_c11 : (Jvm.Cond.code ({ cls := "java/lang/StringBuilder", name := "<init>", desc := "(I)V" } : Jvm.MethodName) jdk_67_method_2_code (2 : Nat) (Option.none : Option Jvm.ClassFile.FieldType)).before args0 about1 = true := code_word (m := ⟨12, 1⟩) (meth := k12m1) (c := k12c1) (by decide +kernel) rfl rfl rfl (by decide +kernel)
set_option maxRecDepth 65536 in
theorem w_c12 : (Jvm.Cond.code ({ cls := "java/lang/AbstractStringBuilder", name := "<init>", desc := "(I)V" } : Jvm.MethodName) jdk_68_method_2_code (2 : Nat) (Option.none : Option Jvm.ClassFile.FieldType)).before args0 about1 = true := code_word (m := ⟨11, 1⟩) (meth := k11m1) (c := k11c1) (by decide +kernel) rfl rfl rfl (by decide +kernel)
set_option maxRecDepth 65536 in
theorem w_c13 : (Jvm.Cond.code ({ cls := "java/lang/String", name := "charAt", desc := "(I)C" } : Jvm.MethodName) jdk_42_method_56_code (2 : Nat) (Option.some Jvm.ClassFile.FieldType.char)).before args0 about1 = true := code_word (m := ⟨7, 4⟩) (meth := k7m4) (c := k7c4) (by decide +kernel) rfl rfl rfl (by decide +kernel)
set_option maxRecDepth 65536 in
theorem w_c14 : (Jvm.Cond.code ({ cls := "java/lang/String", name := "isLatin1", desc := "()Z" } : Jvm.MethodName) jdk_42_method_154_code (1 : Nat) (Option.some Jvm.ClassFile.FieldType.boolean)).before args0 about1 = true := code_word (m := ⟨7, 8⟩) (meth := k7m8) (c := k7c8) (by decide +kernel) rfl rfl rfl (by decide +kernel)
set_option maxRecDepth 65536 in
theorem w_c15 : (Jvm.Cond.code ({ cls := "java/lang/StringLatin1", name := "charAt", desc := "([BI)C" } : Jvm.MethodName) jdk_43_method_2_code (2 : Nat) (Option.some Jvm.ClassFile.FieldType.char)).before args0 about1 = true := code_word (m := ⟨13, 1⟩) (meth := k13m1) (c := k13c1) (by decide +kernel) rfl rfl rfl (by decide +kernel)
set_option maxRecDepth 65536 in
theorem w_c16 : (Jvm.Cond.code ({ cls := "java/lang/String", name := "checkIndex", desc := "(II)V" } : Jvm.MethodName) jdk_42_method_155_code (2 : Nat) (Option.none : Option Jvm.ClassFile.FieldType)).before args0 about1 = true := code_word (m := ⟨7, 9⟩) (meth := k7m9) (c := k7c9) (by decide +kernel) rfl rfl rfl (by decide +kernel)
set_option maxRecDepth 65536 in
theorem w_c17 : (Jvm.Cond.code ({ cls := "jdk/internal/util/Preconditions", name := "checkIndex", desc := "(IILjava/util/function/BiFunction;)I" } : Jvm.MethodName) jdk_41_method_11_code (3 : Nat) (Option.some Jvm.ClassFile.FieldType.int)).before args0 about1 = true := code_word (m := ⟨14, 1⟩) (meth := k14m1) (c := k14c1) (by decide +kernel) rfl rfl rfl (by decide +kernel)
set_option maxRecDepth 65536 in
theorem w_c18 : (Jvm.Cond.code ({ cls := "java/lang/StringBuilder", name := "toString", desc := "()Ljava/lang/String;" } : Jvm.MethodName) jdk_67_method_42_code (1 : Nat) (Option.some (Jvm.ClassFile.FieldType.object "java/lang/String"))).before args0 about1 = true := code_word (m := ⟨12, 3⟩) (meth := k12m3) (c := k12c3) (by decide +kernel) rfl rfl rfl (by decide +kernel)
set_option maxRecDepth 65536 in
theorem w_c19 : (Jvm.Cond.code ({ cls := "java/lang/String", name := "<init>", desc := "(Ljava/lang/StringBuilder;)V" } : Jvm.MethodName) jdk_42_method_53_code (2 : Nat) (Option.none : Option Jvm.ClassFile.FieldType)).before args0 about1 = true := code_word (m := ⟨7, 2⟩) (meth := k7m2) (c := k7c2) (by decide +kernel) rfl rfl rfl (by decide +kernel)
set_option maxRecDepth 65536 in
theorem w_c20 : (Jvm.Cond.code ({ cls := "java/lang/String", name := "<init>", desc := "(Ljava/lang/AbstractStringBuilder;Ljava/lang/Void;)V" } : Jvm.MethodName) jdk_42_method_150_code (5 : Nat) (Option.none : Option Jvm.ClassFile.FieldType)).before args0 about1 = true := code_word (m := ⟨7, 6⟩) (meth := k7m6) (c := k7c6) (by decide +kernel) rfl rfl rfl (by decide +kernel)
set_option maxRecDepth 65536 in
theorem w_c21 : (Jvm.Cond.code ({ cls := "java/lang/AbstractStringBuilder", name := "getValue", desc := "()[B" } : Jvm.MethodName) jdk_68_method_64_code (1 : Nat) (Option.some (Jvm.ClassFile.FieldType.array Jvm.ClassFile.FieldType.byte))).before args0 about1 = true := code_word (m := ⟨11, 5⟩) (meth := k11m5) (c := k11c5) (by decide +kernel) rfl rfl rfl (by decide +kernel)
set_option maxRecDepth 65536 in
theorem w_c22 : (Jvm.Cond.code ({ cls := "java/lang/StringBuilder", name := "length", desc := "()I" } : Jvm.MethodName) jdk_67_method_93_code (1 : Nat) (Option.some Jvm.ClassFile.FieldType.int)).before args0 about1 = true := code_word (m := ⟨12, 4⟩) (meth := k12m4) (c := k12c4) (by decide +kernel) rfl rfl rfl (by decide +kernel)
set_option maxRecDepth 65536 in
theorem w_c23 : (Jvm.Cond.code ({ cls := "java/lang/AbstractStringBuilder", name := "length", desc := "()I" } : Jvm.MethodName) jdk_68_method_6_code (1 : Nat) (Option.some Jvm.ClassFile.FieldType.int)).before args0 about1 = true := code_word (m := ⟨11, 2⟩) (meth := k11m2) (c := k11c2) (by decide +kernel) rfl rfl rfl (by decide +kernel)
set_option maxRecDepth 65536 in
theorem w_c24 : (Jvm.Cond.code ({ cls := "java/lang/AbstractStringBuilder", name := "isLatin1", desc := "()Z" } : Jvm.MethodName) jdk_68_method_68_code (1 : Nat) (Option.some Jvm.ClassFile.FieldType.boolean)).before args0 about1 = true := code_word (m := ⟨11, 6⟩) (meth := k11m6) (c := k11c6) (by decide +kernel) rfl rfl rfl (by decide +kernel)
set_option maxRecDepth 65536 in
theorem w_c25 : (Jvm.Cond.code ({ cls := "java/util/Arrays", name := "copyOfRange", desc := "([BII)[B" } : Jvm.MethodName) jdk_65_method_132_code (3 : Nat) (Option.some (Jvm.ClassFile.FieldType.array Jvm.ClassFile.FieldType.byte))).before args0 about1 = true := code_word (m := ⟨15, 2⟩) (meth := k15m2) (c := k15c2) (by decide +kernel) rfl rfl rfl (by decide +kernel)
set_option maxRecDepth 65536 in
theorem w_c26 : (Jvm.Cond.code ({ cls := "java/util/Arrays", name := "copyOfRangeByte", desc := "([BII)[B" } : Jvm.MethodName) jdk_65_method_133_code (5 : Nat) (Option.some (Jvm.ClassFile.FieldType.array Jvm.ClassFile.FieldType.byte))).before args0 about1 = true := code_word (m := ⟨15, 3⟩) (meth := k15m3) (c := k15c3) (by decide +kernel) rfl rfl rfl (by decide +kernel)
set_option maxRecDepth 65536 in
theorem w_c27 : (Jvm.Cond.code ({ cls := "java/util/Arrays", name := "checkLength", desc := "(II)V" } : Jvm.MethodName) jdk_65_method_131_code (2 : Nat) (Option.none : Option Jvm.ClassFile.FieldType)).before args0 about1 = true := code_word (m := ⟨15, 1⟩) (meth := k15m1) (c := k15c1) (by decide +kernel) rfl rfl rfl (by decide +kernel)
set_option maxRecDepth 65536 in
theorem w_c28 : (Jvm.Cond.code ({ cls := "java/lang/Math", name := "min", desc := "(II)I" } : Jvm.MethodName) jdk_29_method_69_code (2 : Nat) (Option.some Jvm.ClassFile.FieldType.int)).before args0 about1 = true := code_word (m := ⟨16, 1⟩) (meth := k16m1) (c := k16c1) (by decide +kernel) rfl rfl rfl (by decide +kernel)
set_option maxRecDepth 65536 in
theorem w_c29 : (Jvm.Cond.code ({ cls := "java/lang/StringUTF16", name := "toBytes", desc := "([CII)[B" } : Jvm.MethodName) jdk_52_method_14_code (5 : Nat) (Option.some (Jvm.ClassFile.FieldType.array Jvm.ClassFile.FieldType.byte))).before args0 about1 = true := code_word (m := ⟨8, 6⟩) (meth := k8m6) (c := k8c6) (by decide +kernel) rfl rfl rfl (by decide +kernel)
set_option maxRecDepth 65536 in
theorem w_c30 : (Jvm.Cond.code ({ cls := "java/lang/StringUTF16", name := "newBytesFor", desc := "(I)[B" } : Jvm.MethodName) jdk_52_method_2_code (1 : Nat) (Option.some (Jvm.ClassFile.FieldType.array Jvm.ClassFile.FieldType.byte))).before args0 about1 = true := code_word (m := ⟨8, 1⟩) (meth := k8m1) (c := k8c1) (by decide +kernel) rfl rfl rfl (by decide +kernel)
set_option maxRecDepth 65536 in
theorem w_c31 : (Jvm.Cond.code ({ cls := "java/lang/StringUTF16", name := "newBytesLength", desc := "(I)I" } : Jvm.MethodName) jdk_52_method_3_code (1 : Nat) (Option.some Jvm.ClassFile.FieldType.int)).before args0 about1 = true := code_word (m := ⟨8, 2⟩) (meth := k8m2) (c := k8c2) (by decide +kernel) rfl rfl rfl (by decide +kernel)
set_option maxRecDepth 65536 in
theorem w_c32 : (Jvm.Cond.code ({ cls := "java/lang/StringUTF16", name := "putChar", desc := "([BII)V" } : Jvm.MethodName) jdk_52_method_4_code (3 : Nat) (Option.none : Option Jvm.ClassFile.FieldType)).before args0 about1 = true := code_word (m := ⟨8, 3⟩) (meth := k8m3) (c := k8c3) (by decide +kernel) rfl rfl rfl (by decide +kernel)
set_option maxRecDepth 65536 in
theorem w_c33 : (Jvm.Cond.code ({ cls := "java/lang/StringUTF16", name := "getChar", desc := "([BI)C" } : Jvm.MethodName) jdk_52_method_5_code (2 : Nat) (Option.some Jvm.ClassFile.FieldType.char)).before args0 about1 = true := code_word (m := ⟨8, 4⟩) (meth := k8m4) (c := k8c4) (by decide +kernel) rfl rfl rfl (by decide +kernel)
set_option maxRecDepth 65536 in
theorem w_c34 : (Jvm.Cond.code ({ cls := "java/lang/StringUTF16", name := "charAt", desc := "([BI)C" } : Jvm.MethodName) jdk_52_method_83_code (2 : Nat) (Option.some Jvm.ClassFile.FieldType.char)).before args0 about1 = true := code_word (m := ⟨8, 10⟩) (meth := k8m10) (c := k8c10) (by decide +kernel) rfl rfl rfl (by decide +kernel)
set_option maxRecDepth 65536 in
theorem w_c35 : (Jvm.Cond.code ({ cls := "java/lang/StringUTF16", name := "checkIndex", desc := "(I[B)V" } : Jvm.MethodName) jdk_52_method_91_code (2 : Nat) (Option.none : Option Jvm.ClassFile.FieldType)).before args0 about1 = true := code_word (m := ⟨8, 11⟩) (meth := k8m11) (c := k8c11) (by decide +kernel) rfl rfl rfl (by decide +kernel)
set_option maxRecDepth 65536 in
theorem w_c36 : (Jvm.Cond.code ({ cls := "java/lang/StringUTF16", name := "length", desc := "([B)I" } : Jvm.MethodName) jdk_52_method_6_code (1 : Nat) (Option.some Jvm.ClassFile.FieldType.int)).before args0 about1 = true := code_word (m := ⟨8, 5⟩) (meth := k8m5) (c := k8c5) (by decide +kernel) rfl rfl rfl (by decide +kernel)
set_option maxRecDepth 65536 in
theorem w_c37 : (Jvm.Cond.code ({ cls := "java/lang/StringBuilder", name := "append", desc := "(C)Ljava/lang/StringBuilder;" } : Jvm.MethodName) jdk_67_method_14_code (2 : Nat) (Option.some (Jvm.ClassFile.FieldType.object "java/lang/StringBuilder"))).before args0 about1 = true := code_word (m := ⟨12, 2⟩) (meth := k12m2) (c := k12c2) (by decide +kernel) rfl rfl rfl (by decide +kernel)
set_option maxRecDepth 65536 in
theorem w_c38 : (Jvm.Cond.code ({ cls := "java/lang/AbstractStringBuilder", name := "append", desc := "(C)Ljava/lang/AbstractStringBuilder;" } : Jvm.MethodName) jdk_68_method_31_code (2 : Nat) (Option.some (Jvm.ClassFile.FieldType.object "java/lang/AbstractStringBuilder"))).before args0 about1 = true := code_word (m := ⟨11, 4⟩) (meth := k11m4) (c := k11c4) (by decide +kernel) rfl rfl rfl (by decide +kernel)
set_option maxRecDepth 65536 in
theorem w_c39 : (Jvm.Cond.code ({ cls := "java/lang/AbstractStringBuilder", name := "ensureCapacityInternal", desc := "(I)V" } : Jvm.MethodName) jdk_68_method_9_code (3 : Nat) (Option.none : Option Jvm.ClassFile.FieldType)).before args0 about1 = true := code_word (m := ⟨11, 3⟩) (meth := k11m3) (c := k11c3) (by decide +kernel) rfl rfl rfl (by decide +kernel)
set_option maxRecDepth 65536 in
theorem w_c40 : (Jvm.Cond.code ({ cls := "java/lang/StringLatin1", name := "canEncode", desc := "(C)Z" } : Jvm.MethodName) jdk_43_method_3_code (1 : Nat) (Option.some Jvm.ClassFile.FieldType.boolean)).before args0 about1 = true := code_word (m := ⟨13, 2⟩) (meth := k13m2) (c := k13c2) (by decide +kernel) rfl rfl rfl (by decide +kernel)
def codes1 : List Jvm.Cond := [Jvm.Cond.code x code maxLocals ret, Jvm.Cond.code ({ cls := "com/example/goldspan/goldspan/rules/TextDigitsPinLaw", name := "isAsciiDigit", desc := "(C)Z" } : Jvm.MethodName) method_2_code (1 : Nat) (Option.some Jvm.ClassFile.FieldType.boolean), Jvm.Cond.code ({ cls := "java/lang/String", name := "<init>", desc := "([C)V" } : Jvm.MethodName) jdk_42_method_3_code (2 : Nat) (Option.none : Option Jvm.ClassFile.FieldType), Jvm.Cond.code ({ cls := "java/lang/String", name := "<init>", desc := "([CIILjava/lang/Void;)V" } : Jvm.MethodName) jdk_42_method_149_code (6 : Nat) (Option.none : Option Jvm.ClassFile.FieldType), Jvm.Cond.code ({ cls := "java/lang/Object", name := "<init>", desc := "()V" } : Jvm.MethodName) object_method_1_code (1 : Nat) (Option.none : Option Jvm.ClassFile.FieldType), Jvm.Cond.code ({ cls := "java/lang/StringUTF16", name := "compress", desc := "([CII)[B" } : Jvm.MethodName) jdk_52_method_16_code (6 : Nat) (Option.some (Jvm.ClassFile.FieldType.array Jvm.ClassFile.FieldType.byte)), Jvm.Cond.code ({ cls := "java/lang/StringUTF16", name := "compress", desc := "([CI[BII)I" } : Jvm.MethodName) jdk_52_method_21_code (7 : Nat) (Option.some Jvm.ClassFile.FieldType.int), Jvm.Cond.code ({ cls := "java/lang/StringUTF16", name := "coderFromArrayLen", desc := "([BI)B" } : Jvm.MethodName) jdk_52_method_15_code (2 : Nat) (Option.some Jvm.ClassFile.FieldType.byte), Jvm.Cond.code ({ cls := "com/example/goldspan/goldspan/rules/Text", name := "digits", desc := "(Ljava/lang/String;)Ljava/lang/String;" } : Jvm.MethodName) prog_39_method_6_code (4 : Nat) (Option.some (Jvm.ClassFile.FieldType.object "java/lang/String")), Jvm.Cond.code ({ cls := "java/lang/String", name := "length", desc := "()I" } : Jvm.MethodName) jdk_42_method_54_code (1 : Nat) (Option.some Jvm.ClassFile.FieldType.int), Jvm.Cond.code ({ cls := "java/lang/String", name := "coder", desc := "()B" } : Jvm.MethodName) jdk_42_method_152_code (1 : Nat) (Option.some Jvm.ClassFile.FieldType.byte), Jvm.Cond.code ({ cls := "java/lang/StringBuilder", name := "<init>", desc := "(I)V" } : Jvm.MethodName) jdk_67_method_2_code (2 : Nat) (Option.none : Option Jvm.ClassFile.FieldType), Jvm.Cond.code ({ cls := "java/lang/AbstractStringBuilder", name := "<init>", desc := "(I)V" } : Jvm.MethodName) jdk_68_method_2_code (2 : Nat) (Option.none : Option Jvm.ClassFile.FieldType), Jvm.Cond.code ({ cls := "java/lang/String", name := "charAt", desc := "(I)C" } : Jvm.MethodName) jdk_42_method_56_code (2 : Nat) (Option.some Jvm.ClassFile.FieldType.char), Jvm.Cond.code ({ cls := "java/lang/String", name := "isLatin1", desc := "()Z" } : Jvm.MethodName) jdk_42_method_154_code (1 : Nat) (Option.some Jvm.ClassFile.FieldType.boolean), Jvm.Cond.code ({ cls := "java/lang/StringLatin1", name := "charAt", desc := "([BI)C" } : Jvm.MethodName) jdk_43_method_2_code (2 : Nat) (Option.some Jvm.ClassFile.FieldType.char), Jvm.Cond.code ({ cls := "java/lang/String", name := "checkIndex", desc := "(II)V" } : Jvm.MethodName) jdk_42_method_155_code (2 : Nat) (Option.none : Option Jvm.ClassFile.FieldType), Jvm.Cond.code ({ cls := "jdk/internal/util/Preconditions", name := "checkIndex", desc := "(IILjava/util/function/BiFunction;)I" } : Jvm.MethodName) jdk_41_method_11_code (3 : Nat) (Option.some Jvm.ClassFile.FieldType.int), Jvm.Cond.code ({ cls := "java/lang/StringBuilder", name := "toString", desc := "()Ljava/lang/String;" } : Jvm.MethodName) jdk_67_method_42_code (1 : Nat) (Option.some (Jvm.ClassFile.FieldType.object "java/lang/String")), Jvm.Cond.code ({ cls := "java/lang/String", name := "<init>", desc := "(Ljava/lang/StringBuilder;)V" } : Jvm.MethodName) jdk_42_method_53_code (2 : Nat) (Option.none : Option Jvm.ClassFile.FieldType), Jvm.Cond.code ({ cls := "java/lang/String", name := "<init>", desc := "(Ljava/lang/AbstractStringBuilder;Ljava/lang/Void;)V" } : Jvm.MethodName) jdk_42_method_150_code (5 : Nat) (Option.none : Option Jvm.ClassFile.FieldType), Jvm.Cond.code ({ cls := "java/lang/AbstractStringBuilder", name := "getValue", desc := "()[B" } : Jvm.MethodName) jdk_68_method_64_code (1 : Nat) (Option.some (Jvm.ClassFile.FieldType.array Jvm.ClassFile.FieldType.byte)), Jvm.Cond.code ({ cls := "java/lang/StringBuilder", name := "length", desc := "()I" } : Jvm.MethodName) jdk_67_method_93_code (1 : Nat) (Option.some Jvm.ClassFile.FieldType.int), Jvm.Cond.code ({ cls := "java/lang/AbstractStringBuilder", name := "length", desc := "()I" } : Jvm.MethodName) jdk_68_method_6_code (1 : Nat) (Option.some Jvm.ClassFile.FieldType.int), Jvm.Cond.code ({ cls := "java/lang/AbstractStringBuilder", name := "isLatin1", desc := "()Z" } : Jvm.MethodName) jdk_68_method_68_code (1 : Nat) (Option.some Jvm.ClassFile.FieldType.boolean), Jvm.Cond.code ({ cls := "java/util/Arrays", name := "copyOfRange", desc := "([BII)[B" } : Jvm.MethodName) jdk_65_method_132_code (3 : Nat) (Option.some (Jvm.ClassFile.FieldType.array Jvm.ClassFile.FieldType.byte)), Jvm.Cond.code ({ cls := "java/util/Arrays", name := "copyOfRangeByte", desc := "([BII)[B" } : Jvm.MethodName) jdk_65_method_133_code (5 : Nat) (Option.some (Jvm.ClassFile.FieldType.array Jvm.ClassFile.FieldType.byte)), Jvm.Cond.code ({ cls := "java/util/Arrays", name := "checkLength", desc := "(II)V" } : Jvm.MethodName) jdk_65_method_131_code (2 : Nat) (Option.none : Option Jvm.ClassFile.FieldType), Jvm.Cond.code ({ cls := "java/lang/Math", name := "min", desc := "(II)I" } : Jvm.MethodName) jdk_29_method_69_code (2 : Nat) (Option.some Jvm.ClassFile.FieldType.int), Jvm.Cond.code ({ cls := "java/lang/StringUTF16", name := "toBytes", desc := "([CII)[B" } : Jvm.MethodName) jdk_52_method_14_code (5 : Nat) (Option.some (Jvm.ClassFile.FieldType.array Jvm.ClassFile.FieldType.byte)), Jvm.Cond.code ({ cls := "java/lang/StringUTF16", name := "newBytesFor", desc := "(I)[B" } : Jvm.MethodName) jdk_52_method_2_code (1 : Nat) (Option.some (Jvm.ClassFile.FieldType.array Jvm.ClassFile.FieldType.byte)), Jvm.Cond.code ({ cls := "java/lang/StringUTF16", name := "newBytesLength", desc := "(I)I" } : Jvm.MethodName) jdk_52_method_3_code (1 : Nat) (Option.some Jvm.ClassFile.FieldType.int), Jvm.Cond.code ({ cls := "java/lang/StringUTF16", name := "putChar", desc := "([BII)V" } : Jvm.MethodName) jdk_52_method_4_code (3 : Nat) (Option.none : Option Jvm.ClassFile.FieldType), Jvm.Cond.code ({ cls := "java/lang/StringUTF16", name := "getChar", desc := "([BI)C" } : Jvm.MethodName) jdk_52_method_5_code (2 : Nat) (Option.some Jvm.ClassFile.FieldType.char), Jvm.Cond.code ({ cls := "java/lang/StringUTF16", name := "charAt", desc := "([BI)C" } : Jvm.MethodName) jdk_52_method_83_code (2 : Nat) (Option.some Jvm.ClassFile.FieldType.char), Jvm.Cond.code ({ cls := "java/lang/StringUTF16", name := "checkIndex", desc := "(I[B)V" } : Jvm.MethodName) jdk_52_method_91_code (2 : Nat) (Option.none : Option Jvm.ClassFile.FieldType), Jvm.Cond.code ({ cls := "java/lang/StringUTF16", name := "length", desc := "([B)I" } : Jvm.MethodName) jdk_52_method_6_code (1 : Nat) (Option.some Jvm.ClassFile.FieldType.int), Jvm.Cond.code ({ cls := "java/lang/StringBuilder", name := "append", desc := "(C)Ljava/lang/StringBuilder;" } : Jvm.MethodName) jdk_67_method_14_code (2 : Nat) (Option.some (Jvm.ClassFile.FieldType.object "java/lang/StringBuilder")), Jvm.Cond.code ({ cls := "java/lang/AbstractStringBuilder", name := "append", desc := "(C)Ljava/lang/AbstractStringBuilder;" } : Jvm.MethodName) jdk_68_method_31_code (2 : Nat) (Option.some (Jvm.ClassFile.FieldType.object "java/lang/AbstractStringBuilder")), Jvm.Cond.code ({ cls := "java/lang/AbstractStringBuilder", name := "ensureCapacityInternal", desc := "(I)V" } : Jvm.MethodName) jdk_68_method_9_code (3 : Nat) (Option.none : Option Jvm.ClassFile.FieldType), Jvm.Cond.code ({ cls := "java/lang/StringLatin1", name := "canEncode", desc := "(C)Z" } : Jvm.MethodName) jdk_43_method_3_code (1 : Nat) (Option.some Jvm.ClassFile.FieldType.boolean)]
set_option maxRecDepth 65536 in
theorem codes_eq : words1.filter isCode = codes1 := rfl
theorem w_codes : ∀ c ∈ words1.filter isCode, c.before args0 about1 = true := by
  rw [codes_eq]
  intro c hc
  simp only [codes1, List.mem_cons, List.not_mem_nil, or_false] at hc
  rcases hc with rfl | rfl | rfl | rfl | rfl | rfl | rfl | rfl | rfl | rfl | rfl | rfl | rfl | rfl | rfl | rfl | rfl | rfl | rfl | rfl | rfl | rfl | rfl | rfl | rfl | rfl | rfl | rfl | rfl | rfl | rfl | rfl | rfl | rfl | rfl | rfl | rfl | rfl | rfl | rfl | rfl
  · exact w_c0
  · exact w_c1
  · exact w_c2
  · exact w_c3
  · exact w_c4
  · exact w_c5
  · exact w_c6
  · exact w_c7
  · exact w_c8
  · exact w_c9
  · exact w_c10
  · exact w_c11
  · exact w_c12
  · exact w_c13
  · exact w_c14
  · exact w_c15
  · exact w_c16
  · exact w_c17
  · exact w_c18
  · exact w_c19
  · exact w_c20
  · exact w_c21
  · exact w_c22
  · exact w_c23
  · exact w_c24
  · exact w_c25
  · exact w_c26
  · exact w_c27
  · exact w_c28
  · exact w_c29
  · exact w_c30
  · exact w_c31
  · exact w_c32
  · exact w_c33
  · exact w_c34
  · exact w_c35
  · exact w_c36
  · exact w_c37
  · exact w_c38
  · exact w_c39
  · exact w_c40
set_option maxRecDepth 65536 in
theorem w_t1 : (words1.take 24).all (fun c => isCode c || c.before args0 about1) = true := by decide +kernel
set_option maxRecDepth 65536 in
theorem w_t2 : ((words1.drop 24).take 24).all (fun c => isCode c || c.before args0 about1) = true := by decide +kernel
set_option maxRecDepth 65536 in
theorem w_t3 : (((words1.drop 24).drop 24).take 24).all (fun c => isCode c || c.before args0 about1) = true := by decide +kernel
set_option maxRecDepth 65536 in
theorem w_t4 : ((((words1.drop 24).drop 24).drop 24).take 24).all (fun c => isCode c || c.before args0 about1) = true := by decide +kernel
set_option maxRecDepth 65536 in
theorem w_t5 : (((((words1.drop 24).drop 24).drop 24).drop 24).take 24).all (fun c => isCode c || c.before args0 about1) = true := by decide +kernel
set_option maxRecDepth 65536 in
theorem w_t6 : ((((((words1.drop 24).drop 24).drop 24).drop 24).drop 24).take 24).all (fun c => isCode c || c.before args0 about1) = true := by decide +kernel
set_option maxRecDepth 65536 in
theorem w_t7 : (((((((words1.drop 24).drop 24).drop 24).drop 24).drop 24).drop 24).take 24).all (fun c => isCode c || c.before args0 about1) = true := by decide +kernel
set_option maxRecDepth 65536 in
theorem w_t8 : ((((((((words1.drop 24).drop 24).drop 24).drop 24).drop 24).drop 24).drop 24).take 24).all (fun c => isCode c || c.before args0 about1) = true := by decide +kernel
set_option maxRecDepth 65536 in
theorem w_t9 : ((((((((words1.drop 24).drop 24).drop 24).drop 24).drop 24).drop 24).drop 24).drop 24).all (fun c => isCode c || c.before args0 about1) = true := by decide +kernel
theorem w_tables : (allAtoms (Jvm.Cond.code x code maxLocals ret :: tables_1)).before args0 about1 = true := by
  rw [allAtoms_all]
  show words1.all (fun c => c.before args0 about1) = true
  refine all_split ?_ w_codes
  rw [← List.take_append_drop 24 words1, List.all_append, w_t1, ← List.take_append_drop 24 (words1.drop 24), List.all_append, w_t2, ← List.take_append_drop 24 ((words1.drop 24).drop 24), List.all_append, w_t3, ← List.take_append_drop 24 (((words1.drop 24).drop 24).drop 24), List.all_append, w_t4, ← List.take_append_drop 24 ((((words1.drop 24).drop 24).drop 24).drop 24), List.all_append, w_t5, ← List.take_append_drop 24 (((((words1.drop 24).drop 24).drop 24).drop 24).drop 24), List.all_append, w_t6, ← List.take_append_drop 24 ((((((words1.drop 24).drop 24).drop 24).drop 24).drop 24).drop 24), List.all_append, w_t7, ← List.take_append_drop 24 (((((((words1.drop 24).drop 24).drop 24).drop 24).drop 24).drop 24).drop 24), List.all_append, w_t8, w_t9]
  rfl
set_option maxRecDepth 65536 in
theorem w_rest : rest_1_c.before args0 about1 = true := by decide +kernel
set_option maxRecDepth 65536 in
theorem w_case : (Jvm.Cond.and given_1 narrow_1).before args0 about1 = true := by decide +kernel
set_option maxRecDepth 65536 in
theorem w_consts : constsHeld consts_1 about1 := Jvm.Lit.constsHeldB_iff.mp (by decide +kernel)
theorem w_applies : (headSpec (Jvm.Cond.code x code maxLocals ret :: tables_1) room_1).applies x e0.platform about1 = true :=
  (Spec.applies_iff w_frames).mpr ⟨w_running, w_runnable, w_alone, w_named, w_hears, w_ripe, w_room, w_tables⟩
theorem atStart : AtStart classFile x code maxLocals ret World_1 tables_1 room_1 Calls_1 rest_1 Pre_1 launch0 p0 e0 about1 theMethod args0 below0 :=
  ⟨lists_1, trivial, launch0.admits_env _ _ _, launch0.least_env, fairChoices_fair.cas, fairChoices_fair.clock, w_frames, w_args, w_heap, w_applies, ⟨w_consts, trivial⟩, w_rest, w_case⟩
end start1
theorem witness_1 : WitnessClaimed_1 := ⟨start1.p0, start1.e0, start1.about1, start1.theMethod, start1.args0, start1.below0, start1.atStart⟩
end Jvm.Pilot.@@N@@
