import JvmDerived
import JvmDerived.Pilot.@@N@@Statement
import JvmDerived.Pilot.@@N@@Code
set_option linter.unusedVariables false
set_option linter.unusedSimpArgs false

namespace Jvm.Pilot.@@N@@
open Jvm Jvm.ClassFile Sem Op Lib Jvm.Free Jvm.Stand Jvm.LawKit Jvm.RoadKit Bundle Jvm.Pilot.@@N@@.Jvm.D

theorem own_onn {i : Nat} (h : i < 2147483648) : ¬ Int32.ofNat i < 0 := by
  rw [Int32.lt_iff_toInt_lt, Int32.toInt_ofNat_small h, Int32.toInt_zero]; omega
theorem own_oi {i : Nat} (h : i < 2147483648) : (Int32.ofNat i).toNatClampNeg = i := by
  have q := nat_of (own_onn h)
  rw [Int32.toInt_ofNat_small h] at q; omega

def litCs : List (String × Nat × String) := [("java/lang/String", 7, "")]
theorem lit0_in : ("java/lang/String", 7, "") ∈ litCs := List.mem_of_getElem? (i := 0) rfl
theorem lit0_one : ∀ q ∈ litCs, q.2.2 = "" → q = ("java/lang/String", 7, "") := by decide +kernel
theorem lit0_lat : ∀ c ∈ "".toList, c.toNat < 256 := by decide +kernel
theorem lit0_len : "".toList.length < 2147483648 := by decide +kernel
theorem lit0_sz : 4 * "".toList.length ≤ 0 := by decide +kernel

section OwnLit
/-- the bytes of a literal's text -/
def litI (text : String) : List Int32 := text.toList.map fun c => Jvm.Lit.byteI c.toNat.toUInt16
def litB (text : String) : List Value := (litI text).map Value.int
theorem litI_len (text : String) : (litI text).length = text.toList.length := List.length_map ..
theorem litB_eq (text : String) : litB text = text.toList.map fun c => Value.int (Jvm.Lit.byteI c.toNat.toUInt16) := List.map_map ..
/-- the String at a says the text, her bytes lie at t -/
def Says (Z : State) (h : Heap) (a t : Addr) (k : ClassId) (text : String) : Prop :=
  Exa Z h a "java/lang/String" ∧ Fld Z h a "java/lang/String" "coder" "B" (.int 0) ∧ Fld Z h a "java/lang/String" "value" "[B" (.ref t) ∧ Arv Z h t k .byte (Int32.ofNat (litI text).length) ((litI text).map Value.int) (.int 0)
theorem Says.ext {Z : State} {h h' : Heap} {a t : Addr} {k : ClassId} {text : String} (S : Says Z h a t k text) (E : Ext h h') : Says Z h' a t k text := ⟨S.1.ext E, S.2.1.ext E, S.2.2.1.ext E, S.2.2.2.ext E⟩
theorem Says.other {Z : State} {h h' : Heap} {a t x : Addr} {k : ClassId} {text : String} {sl : Nat} {v : Value} (S : Says Z h a t k text) (W : Wr h h' x sl v) (q1 : a ≠ x) (q2 : t ≠ x) : Says Z h' a t k text := ⟨S.1.wr W, S.2.1.other W (Or.inl q1), S.2.2.1.other W (Or.inl q1), S.2.2.2.other W q2⟩
theorem Says.keep {Z : State} {h h' : Heap} {a t : Addr} {ws : List Addr} {k : ClassId} {text : String} (S : Says Z h a t k text) (K : Keep h h' ws) (q1 : a ∉ ws) (q2 : t ∉ ws) : Says Z h' a t k text := ⟨S.1.keep K, S.2.1.keep K q1, S.2.2.1.keep K q1, S.2.2.2.keep K q2⟩
/-- what the case assumes of the literals: whatever the JVM holds already says its text; compact strings are on -/
def LH (Z : State) : Prop := (∀ q ∈ litCs, Jvm.Lit.constHeld Z q.1 q.2.1) ∧ ∀ a0, Jvm.Lit.compactW.before a0 Z = true
/-- what holds of the literals all along: those loaded since the start are booked, say their texts, and lie apart from ms, the objects that are still written -/
def Hd (Z : State) (ms : List Addr) (vm : Vm) (h : Heap) : Prop :=
  LH Z ∧ Ext Z.heap h ∧ (∀ x ∈ ms, Z.heap.size ≤ x ∧ x < h.size) ∧ ∃ Ts, IB Z vm Ts ∧ ∀ q ∈ litCs, q.2.2 ∉ Ts ∨ ∃ a t k, Lit (Z.setVm vm) q.1 q.2.1 a ∧ Says Z h a t k q.2.2 ∧ a ∉ ms ∧ t ∉ ms
theorem Hd.start {Z : State} (A : LH Z) : Hd Z [] Z.vm Z.heap := ⟨A, ⟨Nat.le_refl _, fun _ _ q => q⟩, fun x hx => (nomatch hx), [], IB.start, fun q hq => Or.inl (fun z => (nomatch z))⟩
variable {Z b : State} {ms ms' ws : List Addr} {h h' : Heap} {vm vm' : Vm} {x : Addr} {sl : Nat} {v : Value}
theorem Hd.warm (J : Hd Z ms b.vm h) (q : b.WarmedH vm') : Hd Z ms vm' h := by
  obtain ⟨A, E, M, Ts, ⟨more, e, hm⟩, L⟩ := J
  refine ⟨A, E, M, Ts, ⟨more, q.interned_eq.trans e, hm⟩, fun c hc => (L c hc).imp id fun ⟨a, t, k, l, r⟩ => ⟨a, t, k, ?_, r⟩⟩
  exact State.resolvedAt?_warmed39 (s := b) q.wide l
theorem Hd.ext (J : Hd Z ms vm h) (E' : Ext h h') : Hd Z ms vm h' := by
  obtain ⟨A, E, M, Ts, I, L⟩ := J
  exact ⟨A, ⟨Nat.le_trans E.1 E'.1, fun a c q => E'.2 a c (E.2 a c q)⟩, fun y hy => ⟨(M y hy).1, Nat.lt_of_lt_of_le (M y hy).2 E'.1⟩, Ts, I, fun c hc => (L c hc).imp id fun ⟨a, t, k, l, s, r⟩ => ⟨a, t, k, l, s.ext E', r⟩⟩
theorem Hd.add (J : Hd Z ms vm h) (E' : Ext h h') (q : x = h.size) (q' : x < h'.size) : Hd Z (x :: ms) vm h' := by
  obtain ⟨A, E, M, Ts, I, L⟩ := J
  refine ⟨A, ⟨Nat.le_trans E.1 E'.1, fun a c r => E'.2 a c (E.2 a c r)⟩, fun y hy => ?_, Ts, I, fun c hc => (L c hc).imp id fun ⟨a, t, k, l, s, r1, r2⟩ => ⟨a, t, k, l, s.ext E', ?_, ?_⟩⟩
  · rcases List.mem_cons.mp hy with rfl | hy
    · exact ⟨q ▸ E.1, q'⟩
    · exact ⟨(M y hy).1, Nat.lt_of_lt_of_le (M y hy).2 E'.1⟩
  · exact ninS (fun z => absurd s.1.lt (by rw [z, q]; exact Nat.lt_irrefl _)) r1
  · exact ninS (fun z => absurd s.2.2.2.lt (by rw [z, q]; exact Nat.lt_irrefl _)) r2
theorem Hd.keep (J : Hd Z ms vm h) (K : Keep h h' ws) (q : ∀ x ∈ ws, x ∈ ms) : Hd Z ms vm h' := by
  obtain ⟨A, E, M, Ts, I, L⟩ := J
  refine ⟨A, ⟨Nat.le_trans E.1 K.1, fun a c r => K.2.1 a c (E.2 a c r) fun z => ?_⟩, fun y hy => ⟨(M y hy).1, Nat.lt_of_lt_of_le (M y hy).2 K.1⟩, Ts, I, fun c hc => (L c hc).imp id fun ⟨a, t, k, l, s, r1, r2⟩ => ⟨a, t, k, l, s.keep K (fun z => r1 (q _ z)) (fun z => r2 (q _ z)), r1, r2⟩⟩
  exact absurd (Array.getElem?_eq_some_iff.mp r).1 (Nat.not_lt.mpr (M _ (q _ z)).1)
theorem Hd.wr (J : Hd Z ms vm h) (W : Wr h h' x sl v) (q : x ∈ ms) : Hd Z ms vm h' := J.keep (Keep.of_wr W) (fun y hy => by cases List.mem_singleton.mp hy; exact q)
theorem Hd.sub (J : Hd Z ms vm h) (q : ∀ x ∈ ms', x ∈ ms) : Hd Z ms' vm h := by
  obtain ⟨A, E, M, Ts, I, L⟩ := J
  exact ⟨A, E, fun y hy => M y (q y hy), Ts, I, fun c hc => (L c hc).imp id fun ⟨a, t, k, l, s, r1, r2⟩ => ⟨a, t, k, l, s, fun z => r1 (q _ z), fun z => r2 (q _ z)⟩⟩
theorem Hd.nms {t : Addr} (J : Hd Z ms vm h) (q : h.size ≤ t) : t ∉ ms := fun z => absurd (J.2.2.1 t z).2 (Nat.not_lt.mpr q)
/-- what the law of the cold load hands out, said of the start's tables -/
theorem slin_says {T' : State} {lo hi : Nat} {a : Addr} {units : Array UInt16} {text : String} (hal : Z.vm.Alike T'.vm) (hin : SlIn lo hi T' a units) (htext : utf16ToString? units = some text) (hl : ∀ c ∈ text.toList, c.toNat < 256) (hsz : text.toList.length < 2147483648) :
    ∃ t k, Says Z T'.heap a t k text ∧ ((a < lo ∧ t < lo) ∨ (hi ≤ a ∧ hi ≤ t)) := by
  obtain ⟨q, cS, rfl, ⟨⟨s1, s2, s3, ⟨cv, kv, iv, s4, s4'⟩, ⟨cc, kc, ic, s5, s5'⟩, s6, s7, s8, s9, s10, ⟨t1, t2, t3, t4, t5⟩, s12, s13, s14, s15, s16⟩, fS, eS⟩, ⟨kS, k1, k2, k3⟩, fB, hby, hloc⟩ := hin
  obtain ⟨kv', z4⟩ := ff_back hal s4
  obtain ⟨kc', z5⟩ := ff_back hal s5
  have fZ : Z.vm.findClass "java/lang/String" = some q.sC.cls := by rw [← hal.findClass, eS]; exact fS
  obtain ⟨kz, hz, -⟩ := Vm.findClass_spec fZ
  obtain ⟨kz', hz', ez⟩ := hal.2.2 _ _ hz
  have e1 : kz' = kS := Option.some.inj (hz'.symm.trans (eS ▸ k1))
  have bZ : Z.vm.findClass "[B" = some q.SA.cls := by rw [← hal.findClass]; exact fB
  obtain ⟨kb, hb, -⟩ := Vm.findClass_spec bZ
  obtain ⟨kb', hb', eb⟩ := hal.2.2 _ _ hb
  have e2 : t2 = kb' := Option.some.inj (t3.symm.trans hb')
  have hA : Z.isArrayOf q.SA .byte := ⟨t1, kb, hb, t4, by rw [e2, eb] at t5; exact t5⟩
  have hu := Jvm.ClassFile.units_of_text htext hl
  have hlat := Jvm.ClassFile.lat_of_text htext hl
  have hsl : q.SA.slots = units.map fun u => Value.int (Jvm.Lit.byteI u) := by rw [hby, Jvm.Free.SBG.stringBytes_lat hlat]; rfl
  have hlb : litB text = units.toList.map fun u => Value.int (Jvm.Lit.byteI u) := by rw [hu, litB_eq, List.map_map]; rfl
  have hn : q.SA.slots.size = text.toList.length := by
    have r := congrArg List.length hu
    rw [hsl, Array.size_map]; simpa using r
  have H : Has q.SA (litB text) (.int 0) := fun j hj => by
    have hj' : j < units.size := by rw [hsl, Array.size_map] at hj; exact hj
    rw [hsl, hlb]; simp [hj']
  refine ⟨q.sd, q.SA.cls, ⟨⟨q.sC, kz, s1, fZ, hz, s3, fun _ => by rw [k3, ← e1, ez]⟩, ⟨q.sC, cc, kc', ic, q.fSC, s1, z5, s7, s2, s3, by rw [← hal.assignable]; exact s5', s9⟩, ⟨q.sC, cv, kv', iv, q.fSV, s1, z4, s6, s2, s3, by rw [← hal.assignable]; exact s4', s8⟩,
    ⟨q.SA, ⟨s10, hA, s12⟩, rfl, by rw [hn, litI_len, own_oi hsz], by rw [litI_len]; exact own_onn hsz, H, fun j hj => ?_⟩⟩, hloc⟩
  have r1 := s16 j hj
  rw [Jvm.Free.SBG.getD_of (H j hj)] at r1
  exact r1
end OwnLit

section OwnKit
variable {p : Program} {l : Launch} {e : Env} {R : Room} {s b : State} {m : MethodId} {args : Array Value} {below : List Frame} {meth : Method} {c : Code} {T T' : State} {locs : List Loc} {cells slots : Nat} {Z : State} {a0 : Array Value} {h h' : Heap} {K N : Nat} {Q : Option Value → Vm → Heap → List Loc → Prop} {g g' : JFrame} {ms : List Addr}
/-- from the frame g over T the body comes to its end, and there Q holds (the end in the wide sense: literals may have been loaded) -/
def Go (p : Program) (e : Env) (s : State) (below : List Frame) (K N : Nat) (J : Vm → Heap → Prop) (Q : Option Value → Vm → Heap → List Loc → Prop) (T : State) (g : JFrame) : Prop :=
  ∃ s₂ o, Steps p.tables e below (T.setTop g) s₂ ∧ s₂.status = .running ∧ Ended s₂ below o ∧ ∃ v L, o = .returned v ∧ Q v s₂.vm s₂.heap L ∧ J s₂.vm s₂.heap ∧ ReturnedEndW s o s₂ L K N
theorem Go.of {J : Vm → Heap → Prop} (st : ∀ t, Steps p.tables e below (T'.setTop g') t → Steps p.tables e below (T.setTop g) t) (q : Go p e s below K N J Q T' g') : Go p e s below K N J Q T g := by
  obtain ⟨s2, o, h1, r⟩ := q
  exact ⟨s2, o, st _ h1, r⟩
theorem own_go0 {J : Vm → Heap → Prop} {as' : Array Value} {n : Nat} {ls : Array Slot} (q : argsToLocals as' n = ls) (r : Go p e s below K N J Q T (mkF m 0 ls [])) : Go p e s below K N J Q T (entryFrame m as' n) := by subst q; exact r
/-- two roads meet again: what comes behind is proved once -/
theorem Go.join {J : Vm → Heap → Prop} {α : Type} (P : α → Prop) (f : α → JFrame) (A : ∀ x, P x → Go p e s below K N J Q T (f x)) (C : (∀ x, P x → Go p e s below K N J Q T (f x)) → Go p e s below K N J Q T g) : Go p e s below K N J Q T g := C A
/-- the tables at hand: b is the start s with warmer tables, their new pairs booked below the heap's size -/
def Bs (s b : State) (h : Heap) : Prop := ∃ vm k, b = s.setVm vm ∧ s.Since vm k ∧ k ≤ h.size
theorem Bs.start (s : State) (h : Heap) : Bs s s h := ⟨s.vm, 0, rfl, (State.WarmedH.refl s).since 0, Nat.zero_le _⟩
theorem Bs.mono (B : Bs s b h) (q : h.size ≤ h'.size) : Bs s b h' := by
  obtain ⟨vm, k, e, hS, hk⟩ := B
  exact ⟨vm, k, e, hS, Nat.le_trans hk q⟩
theorem rend_mono {t : State} {o : Outcome} {L : List Loc} {k n k' n' : Nat} (q : ReturnedEndW s o t L k n) (hk : k ≤ k') (hn : n ≤ n') : ReturnedEndW s o t L k' n' := ⟨q.1, q.2.1, q.2.2.1, q.2.2.2.mono hk hn⟩
theorem own_retI (X : Stand p l e R s m args below meth c T locs cells slots) (hx : p.tables.exec = Jvm.exec) {pc : Nat} {Ls : Array Slot} {z : Int32} {rest : List Value} (hret : meth.sig.returnType = some .int) (hd : decode c.code pc = .ok (.ireturn, 1)) {fs : List Frame}
    (hl : ∀ (f : JFrame) (acts : List Action), f.method = m → f.locked = none → f.entered = [] → (doReturn e (T.setTop f) acts (some (.int z))).1 = T.setFrames fs) : Steps p.tables e below (T.setTop (mkF m pc Ls (.int z :: rest))) (T.setFrames fs) := by
  have hm' : T.vm.method? m = some meth := X.method'
  have hn : narrow .int (.int z) = .int z := rfl
  show Steps p.tables e below (T.setTop { method := m, pc := pc, locals := Ls, stack := _ :: rest, locked := none }) _
  jvm_step X.here [X.here.top, hx, hd, hm', hret, hn]
  first | (intro acts; rw [hl _ acts rfl rfl rfl]) | rw [hl _ _ rfl rfl rfl]
  exact Steps.refl _
theorem Go.retI (X : Stand p l e R b m args below meth c T locs cells slots) (hx : p.tables.exec = Jvm.exec) (hlk : meth.locks = false) (B : Bs s b h) (J : Hd Z ms b.vm h) (eT : T.heap = h) {pc : Nat} {Ls : Array Slot} {z : Int32} {rest : List Value} (hret : meth.sig.returnType = some .int) (hd : decode c.code pc = .ok (.ireturn, 1)) (hK : cells ≤ K) (hN : slots ≤ N)
    (hQ : ∀ vm, b.WarmedH vm → Q (some (.int z)) vm h locs) : Go p e s below K N (Hd Z ms) Q T (mkF m pc Ls (.int z :: rest)) := by
  obtain ⟨vm, k, rfl, hS, hk⟩ := B
  subst eT
  obtain ⟨fs, hr, hrun, hended, hW⟩ := X.leaveW hS hk (v := some (.int z)) (fun q => by rw [hret] at q; cases q) hlk
  exact ⟨_, _, own_retI X hx hret hd hr, hrun, hended, _, _, rfl, hQ _ X.warmed, J.warm X.warmed, rend_mono hW hK hN⟩
theorem Go.retN (X : Stand p l e R b m args below meth c T locs cells slots) (hx : p.tables.exec = Jvm.exec) (hlk : meth.locks = false) (B : Bs s b h) (J : Hd Z ms b.vm h) (eT : T.heap = h) {pc : Nat} {Ls : Array Slot} {z z' : Int32} {t : FieldType} {rest : List Value} (hret : meth.sig.returnType = some t) (ht : t = .boolean ∨ t = .byte ∨ t = .char ∨ t = .short) (hd : decode c.code pc = .ok (.ireturn, 1)) (hz : nar t z = z') (hK : cells ≤ K) (hN : slots ≤ N)
    (hQ : ∀ vm, b.WarmedH vm → Q (some (.int z')) vm h locs) : Go p e s below K N (Hd Z ms) Q T (mkF m pc Ls (.int z :: rest)) := by
  obtain ⟨vm, k, rfl, hS, hk⟩ := B
  subst eT hz
  obtain ⟨fs, hr, hrun, hended, hW⟩ := X.leaveW hS hk (v := some (.int (nar t z))) (fun q => by rw [hret] at q; cases q) hlk
  exact ⟨_, _, Jvm.RoadKit.retN X hx hret ht hd hr, hrun, hended, _, _, rfl, hQ _ X.warmed, J.warm X.warmed, rend_mono hW hK hN⟩
theorem Go.retA (X : Stand p l e R b m args below meth c T locs cells slots) (hx : p.tables.exec = Jvm.exec) (hlk : meth.locks = false) (B : Bs s b h) (J : Hd Z ms b.vm h) (eT : T.heap = h) {pc : Nat} {Ls : Array Slot} {w : Value} {t : FieldType} {rest : List Value} (hret : meth.sig.returnType = some t) (ht : t.isReference = true) (hw : w.isRef = true) (hd : decode c.code pc = .ok (.areturn, 1)) (hK : cells ≤ K) (hN : slots ≤ N)
    (hQ : ∀ vm, b.WarmedH vm → Q (some w) vm h locs) : Go p e s below K N (Hd Z ms) Q T (mkF m pc Ls (w :: rest)) := by
  obtain ⟨vm, k, rfl, hS, hk⟩ := B
  subst eT
  obtain ⟨fs, hr, hrun, hended, hW⟩ := X.leaveW hS hk (v := some w) (fun q => by rw [hret] at q; cases q) hlk
  have hn : narrow t w = w := by
    cases t <;> first | (cases ht; done) | (cases w <;> first | rfl | (cases hw; done))
  exact ⟨_, _, retOut X hx hret hn (Or.inr (Or.inr (Or.inr (Or.inr ⟨rfl, ht, hw⟩)))) hd hr, hrun, hended, _, _, rfl, hQ _ X.warmed, J.warm X.warmed, rend_mono hW hK hN⟩
theorem Go.retV (X : Stand p l e R b m args below meth c T locs cells slots) (hx : p.tables.exec = Jvm.exec) (hlk : meth.locks = false) (B : Bs s b h) (J : Hd Z ms b.vm h) (eT : T.heap = h) {pc : Nat} {Ls : Array Slot} (hret : meth.sig.returnType = none) (hd : decode c.code pc = .ok (.return_, 1)) (hK : cells ≤ K) (hN : slots ≤ N)
    (hQ : ∀ vm, b.WarmedH vm → Q none vm h locs) : Go p e s below K N (Hd Z ms) Q T (mkF m pc Ls []) := by
  obtain ⟨vm, k, rfl, hS, hk⟩ := B
  subst eT
  obtain ⟨fs, hr, hrun, hended, hW⟩ := X.leaveW hS hk (v := none) (fun _ => rfl) hlk
  exact ⟨_, _, X.returnOut hx hret hd hr, hrun, hended, _, _, rfl, hQ _ X.warmed, J.warm X.warmed, rend_mono hW hK hN⟩
/-- a body's contract in this family -/
def Con (l : Launch) (Z : State) (ms : List Addr) (y : MethodName) (bytes : ByteArray) (maxL : Nat) (ret : Option FieldType) (ws : List Jvm.Cond) (rm : Room) (as' : Array Value) (h : Heap) (Q : Option Value → Vm → Heap → List Loc → Prop) : Prop :=
  MetFree l y (head1 (Jvm.Cond.code y bytes maxL ret :: ws) rm) (fun a U => a = as' ∧ Z.Warmed39 U.vm ∧ U.heap = h ∧ Hd Z ms U.vm U.heap) (fun _ _ _ _ _ => True) (fun _ U o U' => ∃ v L, o = .returned v ∧ Q v U'.vm U'.heap L ∧ Hd Z ms U'.vm U'.heap ∧ ReturnedEndW U o U' L rm.cells rm.slots)
/-- what a walk knows of the body that it walks -/
def Cx (Z : State) (p : Program) (b : State) (m : MethodId) (meth : Method) (c : Code) (own : String) (bytes : ByteArray) (ml : Nat) (nm : String) (rt : Option FieldType) : Prop :=
  p.tables.exec = Jvm.exec ∧ Z.Warmed39 b.vm ∧ b.vm.findClass own = some m.cls ∧ c.code = bytes ∧ c.maxLocals = ml ∧ meth.name = nm ∧ meth.sig.returnType = rt ∧ meth.locks = false
theorem Con.mk {y : MethodName} {bytes : ByteArray} {maxL : Nat} {ret : Option FieldType} {ws : List Jvm.Cond} {rm : Room} {as' : Array Value} (hp : plainFor y = true)
    (body : ∀ p e s m below meth c s₁, Cx Z p s m meth c y.cls bytes maxL y.name ret → Stand p l e rm s m as' below meth c s₁ [] 0 0 → s₁.heap = h → s.heap = h → Hd Z ms s.vm h → Bs s s h → s.methodNamed? y = some m → Go p e s below rm.cells rm.slots (Hd Z ms) Q s₁ (entryFrame m as' maxL)) : Con l Z ms y bytes maxL ret ws rm as' h Q := by
  refine MetFree.of_bodySF hp hisR ?_
  intro p e s m args below meth c s₁ Bd hml0 hP hK
  obtain ⟨rfl, hZ, hh, hJ⟩ := hP
  exact body p e s m below meth c s₁ ⟨Bd.exec, hZ, findClass_of_methodNamed Bd.named, Bd.bytes, hml0, (name_of_methodNamed Bd.named Bd.method).1, Bd.returns, Bd.notSynchronized⟩ (Stand.of_body Bd) (by rw [← hh, Bd.state]; rfl) hh (hh ▸ hJ) (Bs.start s h) Bd.named
section Calls
variable {y : MethodName} {bytes mybytes : ByteArray} {maxL ml : Nat} {ret rt : Option FieldType} {rm : Room} {own nm : String} {index W : Nat} {argsL rest : List Value} {Q' : Option Value → Vm → Heap → List Loc → Prop}
/-- two roads meet again behind calls that leave the heap as it was -/
theorem Go.joinC {Jq : Vm → Heap → Prop} {α : Type} {n : Nat} (Cc : Cx Z p b m meth c own mybytes ml nm rt) (X : Stand p l e R b m args below meth c T locs cells slots) (hJ : Hd Z ms b.vm h) (hN : Fr n locs) (P : α → Prop) (f : α → JFrame)
    (A : ∀ x b' T' locs', Cx Z p b' m meth c own mybytes ml nm rt → Stand p l e R b' m args below meth c T' locs' cells slots → T'.heap = h → Bs s b' h → Hd Z ms b'.vm h → Fr n locs' → P x → Go p e s below K N Jq Q T' (f x))
    (C : (∀ x b' T' locs', Cx Z p b' m meth c own mybytes ml nm rt → Stand p l e R b' m args below meth c T' locs' cells slots → T'.heap = h → Bs s b' h → Hd Z ms b'.vm h → Fr n locs' → P x → Go p e s below K N Jq Q T' (f x)) → Go p e s below K N Jq Q T g) : Go p e s below K N Jq Q T g := C A
/-- what a call leaves: the tables at hand may be others -/
def Called (Z : State) (ms : List Addr) (p : Program) (l : Launch) (e : Env) (R : Room) (s : State) (m : MethodId) (args : Array Value) (below : List Frame) (meth : Method) (c : Code) (own : String) (mybytes : ByteArray) (ml : Nat) (nm : String) (rt : Option FieldType) (locs : List Loc) (cells slots : Nat) (h : Heap) (Q' : Option Value → Vm → Heap → List Loc → Prop) (T : State) (g : JFrame) (len : Nat) (rest : List Value) : Prop :=
  ∃ v b' T' h' L, T'.heap = h' ∧ Cx Z p b' m meth c own mybytes ml nm rt ∧ Stand p l e R b' m args below meth c T' (locs ++ L) cells slots ∧ Bs s b' h' ∧ Hd Z ms b'.vm h' ∧ h.size ≤ h'.size ∧ Q' v b'.vm h' L ∧ ∀ t, Steps p.tables e below (T'.setTop { g with pc := g.pc + len, stack := v.toList ++ rest }) t → Steps p.tables e below (T.setTop g) t
theorem own_back {as' : Array Value} {len : Nat} (hM : Con l Z ms y bytes maxL ret [] rm as' h Q') (hZ : Z.Warmed39 b.vm) (J : Hd Z ms b.vm h) (wc : (Jvm.Cond.code y bytes maxL ret).before a0 Z = true) (wz : (Jvm.Cond.initialized y.cls).before a0 Z = true) (hf : rm.frames + 1 ≤ R.frames) (hl : W + (maxL + 11) + rm.locals ≤ R.locals) :
    BackS l R p e below b args y len W (fun A a => a = as' ∧ A.U.heap = h ∧ A.cells + rm.cells ≤ R.cells ∧ A.slots + rm.slots ≤ R.slots)
      (fun A _ v B => ∃ L, (Q' v B.U.vm B.U.heap L ∧ Hd Z ms B.U.vm B.U.heap) ∧ B.locs = A.locs ++ L ∧ B.cells = A.cells + rm.cells ∧ B.slots = A.slots + rm.slots) :=
  BackS.of_freeW (bytes := bytes) (maxL := maxL) (ret := ret) (E := fun _ _ o t L k n => k = rm.cells ∧ n = rm.slots ∧ ∃ v, o = .returned v ∧ Q' v t.vm t.heap L ∧ Hd Z ms t.vm t.heap) hM hf hl
    (fun m meth c A a Y hp => have hU : Z.Warmed39 A.U.vm := wtrans hZ Y.warmed
      ⟨by show (Jvm.Cond.and _ .tt).before a A.U = true; rw [Cond.before_and, mv hU wc]; rfl, mv hU wc, mv hU wz, hp.2.2.1, hp.2.2.2⟩)
    (fun m meth c A a g mk Y hp => ⟨hp.1, wtrans hZ Y.warmed, hp.2.1, by show Hd Z ms A.U.vm A.U.heap; rw [hp.2.1]; exact J.warm Y.warmed⟩) (fun _ _ _ _ _ _ _ _ _ => trivial)
    (fun _ _ _ _ ⟨v, L, h1, h2, h3, h4⟩ => ⟨L, _, _, h4, rfl, rfl, v, h1, h2, h3⟩)
    (fun m meth c A a g mk v t L k n Y hp _ _ ⟨e1, e2, v', e3, e4, e5⟩ => by cases e3; subst e1 e2; exact ⟨L, ⟨e4, e5⟩, rfl, rfl, rfl⟩)
theorem own_done {len : Nat} {v : Option Value} {B : Pt} (Cc : Cx Z p b m meth c own mybytes ml nm rt) (hB : Bs s b h) (eT : T.heap = h) (X1 : Stand p l e R (b.setVm B.U.vm) m args below meth c B.U B.locs B.cells B.slots) (hS : b.Since B.U.vm B.U.heap.size) (hg : T.heap.size ≤ B.U.heap.size)
    (hq : ∃ L, (Q' v B.U.vm B.U.heap L ∧ Hd Z ms B.U.vm B.U.heap) ∧ B.locs = locs ++ L ∧ B.cells = cells + rm.cells ∧ B.slots = slots + rm.slots) (st : ∀ t, Steps p.tables e below (B.U.setTop { g with pc := g.pc + len, stack := v.toList ++ rest }) t → Steps p.tables e below (T.setTop g) t) :
    Called Z ms p l e R s m args below meth c own mybytes ml nm rt locs (cells + rm.cells) (slots + rm.slots) h Q' T g len rest := by
  obtain ⟨T1, L1, k1, n1⟩ := B
  obtain ⟨Lc, ⟨hQ, hJ⟩, l1, y1, z1⟩ := hq
  dsimp only [Pt.U, Pt.locs, Pt.cells, Pt.slots] at X1 l1 y1 z1 st hQ hJ hS hg
  subst l1 y1 z1
  obtain ⟨vm, k, rfl, hS0, hk⟩ := hB
  obtain ⟨hx, hZ, hown, r⟩ := Cc
  exact ⟨v, (s.setVm vm).setVm T1.vm, T1, _, Lc, rfl, ⟨hx, State.Warmed39.trans hZ hS.1, (hS.1.alike.findClass _ _).trans hown, r⟩, X1, ⟨T1.vm, T1.heap.size, rfl, hS0.trans hS (Nat.le_trans hk (eT ▸ hg)), Nat.le_refl _⟩, hJ, eT ▸ hg, hQ, st⟩
theorem own_callS (Cc : Cx Z p b m meth c own mybytes ml nm rt) (hB : Bs s b h) (J : Hd Z ms b.vm h) (X : Stand p l e R b m args below meth c T locs cells slots)
    (wl : (Jvm.Cond.methodLink own index y).before a0 Z = true) (wst : (Jvm.Cond.static y).before a0 Z = true) (wi : (Jvm.Cond.initialized y.cls).before a0 Z = true) (wc : (Jvm.Cond.code y bytes maxL ret).before a0 Z = true) (hy : y.cls ≠ "java/lang/invoke/MethodHandle" ∧ y.cls ≠ "java/lang/invoke/VarHandle")
    (hM : Con l Z ms y bytes maxL ret [] rm argsL.toArray h Q') (eT : T.heap = h) (hg : g.method = m) (hsize : g.locals.size = c.maxLocals) (hlen : ∀ sig, parseMethodDescriptor y.desc = some sig → argsL.length = sig.parameters.length) (hstack : g.stack = argsL.reverse ++ rest)
    (hW : 2 * g.monitorRoom + (rest.map fun v => v.category).sum ≤ W) (hdg : decode c.code g.pc = .ok (.invokestatic index, 3)) (hf : rm.frames + 1 ≤ R.frames) (hl : W + (maxL + 11) + rm.locals ≤ R.locals) (hc : cells + rm.cells ≤ R.cells) (hs : slots + rm.slots ≤ R.slots) :
    Called Z ms p l e R s m args below meth c own mybytes ml nm rt locs (cells + rm.cells) (slots + rm.slots) h Q' T g 3 rest := by
  obtain ⟨hx, hZ, hown, -⟩ := id Cc
  obtain ⟨v, _, B, -, X1, hS, hgr, hq, st⟩ := callSS X hx (y := y) hown (mvT hZ wl) (mvT hZ wst) (mvT hZ wi) (mvT hZ wc) hy (own_back (W := W) hM hZ J wc wi hf hl) hg hsize (argsL := argsL) (rest := rest) hlen hstack hW hdg (fun _ _ => ⟨rfl, eT, hc, hs⟩)
  exact own_done Cc hB eT X1 hS hgr hq (fun _ hr => st.trans hr)
theorem own_callI (Cc : Cx Z p b m meth c own mybytes ml nm rt) (hB : Bs s b h) (J : Hd Z ms b.vm h) (X : Stand p l e R b m args below meth c T locs cells slots) (hin : y.name = "<init>")
    (wl : (Jvm.Cond.methodLink own index y).before a0 Z = true) (wim : (Jvm.Cond.instanceMethod y).before a0 Z = true) (wi : (Jvm.Cond.initialized y.cls).before a0 Z = true) (wc : (Jvm.Cond.code y bytes maxL none).before a0 Z = true) (hy : y.cls ≠ "java/lang/invoke/MethodHandle" ∧ y.cls ≠ "java/lang/invoke/VarHandle")
    {a : Addr} (hM : Con l Z ms y bytes maxL none [] rm (Value.ref a :: argsL).toArray h Q') (eT : T.heap = h) (hg : g.method = m) (hsize : g.locals.size = c.maxLocals) (hlen : ∀ sig, parseMethodDescriptor y.desc = some sig → argsL.length = sig.parameters.length) (hstack : g.stack = argsL.reverse ++ .ref a :: rest)
    (hW : 2 * g.monitorRoom + (rest.map fun v => v.category).sum ≤ W) (hdg : decode c.code g.pc = .ok (.invokespecial index, 3)) (hf : rm.frames + 1 ≤ R.frames) (hl : W + (maxL + 11) + rm.locals ≤ R.locals) (hc : cells + rm.cells ≤ R.cells) (hs : slots + rm.slots ≤ R.slots) :
    Called Z ms p l e R s m args below meth c own mybytes ml nm rt locs (cells + rm.cells) (slots + rm.slots) h Q' T g 3 rest := by
  obtain ⟨hx, hZ, hown, -⟩ := id Cc
  obtain ⟨v, _, B, -, X1, hS, hgr, hq, st⟩ := X.specialBackS hx (y := y) hin hown (mvT hZ wl) (mvT hZ wim) (mvT hZ wc) hy (own_back (W := W) hM hZ J wc wi hf hl) hg hsize (Steps.refl _) (a := a) (argsL := argsL) (rest := rest) hlen hstack hW hdg (fun _ _ => ⟨rfl, eT, hc, hs⟩)
  exact own_done Cc hB eT X1 hS hgr hq (fun _ hr => st.trans hr)
theorem own_callV (Cc : Cx Z p b m meth c own mybytes ml nm rt) (hB : Bs s b h) (J : Hd Z ms b.vm h) (X : Stand p l e R b m args below meth c T locs cells slots) {z : MethodName} {C : String}
    (wl : (Jvm.Cond.methodLink own index y).before a0 Z = true) (wd : (Jvm.Cond.declares y).before a0 Z = true) (nf : NotFace b y) (wsel : (Jvm.Cond.selects C y z).before a0 Z = true) (wim : (Jvm.Cond.instanceMethod z).before a0 Z = true) (wi : (Jvm.Cond.initialized z.cls).before a0 Z = true) (wc : (Jvm.Cond.code z bytes maxL ret).before a0 Z = true) (hy : y.cls ≠ "java/lang/invoke/MethodHandle" ∧ y.cls ≠ "java/lang/invoke/VarHandle")
    {a : Addr} (E : Exa Z h a C) (hM : Con l Z ms z bytes maxL ret [] rm (Value.ref a :: argsL).toArray h Q') (eT : T.heap = h) (hg : g.method = m) (hsize : g.locals.size = c.maxLocals) (hlen : ∀ sig, parseMethodDescriptor y.desc = some sig → argsL.length = sig.parameters.length) (hstack : g.stack = argsL.reverse ++ .ref a :: rest)
    (hW : 2 * g.monitorRoom + (rest.map fun v => v.category).sum ≤ W) (hdg : decode c.code g.pc = .ok (.invokevirtual index, 3)) (hf : rm.frames + 1 ≤ R.frames) (hl : W + (maxL + 11) + rm.locals ≤ R.locals) (hc : cells + rm.cells ≤ R.cells) (hs : slots + rm.slots ≤ R.slots) :
    Called Z ms p l e R s m args below meth c own mybytes ml nm rt locs (cells + rm.cells) (slots + rm.slots) h Q' T g 3 rest := by
  obtain ⟨hx, hZ, hown, -⟩ := id Cc
  obtain ⟨cq, kq, qa, qb, qc⟩ := isOf hZ eT E
  obtain ⟨v, _, B, -, X1, hS, hgr, hq, st⟩ := X.virtualBackS hx (y := y) (z := z) hown (mvT hZ wl) (mvT hZ wd) nf (mvT hZ wsel) (mvT hZ wim) hy (own_back (W := W) hM hZ J wc wi hf hl) qa qc hg hsize (Steps.refl _) (argsL := argsL) (rest := rest) hlen hstack hW hdg (fun _ _ => ⟨rfl, eT, hc, hs⟩)
  exact own_done Cc hB eT X1 hS hgr hq (fun _ hr => st.trans hr)
/-- an inherited method, by the class that the entry names -/
theorem own_callU (Cc : Cx Z p b m meth c own mybytes ml nm rt) (hB : Bs s b h) (J : Hd Z ms b.vm h) (X : Stand p l e R b m args below meth c T locs cells slots) {z : MethodName} {C owner : String}
    (wl : (Jvm.Cond.methodLink own index y).before a0 Z = true) (wsm : (Jvm.Cond.sameMethod y.cls owner y.name y.desc).before a0 Z = true) (wd : (Jvm.Cond.declares ⟨owner, y.name, y.desc⟩).before a0 Z = true) (wsel : (Jvm.Cond.selects C y z).before a0 Z = true) (wim : (Jvm.Cond.instanceMethod z).before a0 Z = true) (wi : (Jvm.Cond.initialized z.cls).before a0 Z = true) (wc : (Jvm.Cond.code z bytes maxL ret).before a0 Z = true) (ho : owner ≠ "java/lang/invoke/MethodHandle" ∧ owner ≠ "java/lang/invoke/VarHandle")
    {a : Addr} (E : Exa Z h a C) (hM : Con l Z ms z bytes maxL ret [] rm (Value.ref a :: argsL).toArray h Q') (eT : T.heap = h) (hg : g.method = m) (hsize : g.locals.size = c.maxLocals) (hlen : ∀ sig, parseMethodDescriptor y.desc = some sig → argsL.length = sig.parameters.length) (hstack : g.stack = argsL.reverse ++ .ref a :: rest)
    (hW : 2 * g.monitorRoom + (rest.map fun v => v.category).sum ≤ W) (hdg : decode c.code g.pc = .ok (.invokevirtual index, 3)) (hf : rm.frames + 1 ≤ R.frames) (hl : W + (maxL + 11) + rm.locals ≤ R.locals) (hc : cells + rm.cells ≤ R.cells) (hs : slots + rm.slots ≤ R.slots) :
    Called Z ms p l e R s m args below meth c own mybytes ml nm rt locs (cells + rm.cells) (slots + rm.slots) h Q' T g 3 rest := by
  obtain ⟨hx, hZ, hown, -⟩ := id Cc
  obtain ⟨cq, kq, qa, qb, qc⟩ := isOf hZ eT E
  obtain ⟨v, _, B, -, X1, hS, hgr, hq, st⟩ := X.virtualBackUpS hx (x := y) (y := z) hown (mvT hZ wl) (mvT hZ wsm) (mvT hZ wd) ho (mvT hZ wsel) (mvT hZ wim) (own_back (W := W) hM hZ J wc wi hf hl) qa qc hg hsize (Steps.refl _) (argsL := argsL) (rest := rest) hlen hstack hW hdg (fun _ _ => ⟨rfl, eT, hc, hs⟩)
  exact own_done Cc hB eT X1 hS hgr hq (fun _ hr => st.trans hr)
/-- through an interface -/
theorem own_callF (Cc : Cx Z p b m meth c own mybytes ml nm rt) (hB : Bs s b h) (J : Hd Z ms b.vm h) (X : Stand p l e R b m args below meth c T locs cells slots) {z : MethodName} {C : String} {count : Nat}
    (wl : (Jvm.Cond.methodLink own index y).before a0 Z = true) (wd : (Jvm.Cond.declares y).before a0 Z = true) (wfc : (Jvm.Cond.interfaceMethod y.cls y.cls y.name y.desc).before a0 Z = true) (hfc : ((Jvm.Cond.interfaceMethod y.cls y.cls y.name y.desc).onTables && (Jvm.Cond.interfaceMethod y.cls y.cls y.name y.desc).keepsFace) = true) (wsel : (Jvm.Cond.selects C y z).before a0 Z = true) (wim : (Jvm.Cond.instanceMethod z).before a0 Z = true) (wpb : (Jvm.Cond.publicMethod z).before a0 Z = true) (wun : (Jvm.Cond.unhidden C y.name y.desc).before a0 Z = true) (wca : (Jvm.Cond.castable C y.cls).before a0 Z = true)
    (wi : (Jvm.Cond.initialized z.cls).before a0 Z = true) (wc : (Jvm.Cond.code z bytes maxL ret).before a0 Z = true) (hy : y.cls ≠ "java/lang/invoke/MethodHandle" ∧ y.cls ≠ "java/lang/invoke/VarHandle")
    {a : Addr} (E : Exa Z h a C) (hM : Con l Z ms z bytes maxL ret [] rm (Value.ref a :: argsL).toArray h Q') (eT : T.heap = h) (hg : g.method = m) (hsize : g.locals.size = c.maxLocals) (hlen : ∀ sig, parseMethodDescriptor y.desc = some sig → argsL.length = sig.parameters.length) (hstack : g.stack = argsL.reverse ++ .ref a :: rest)
    (hW : 2 * g.monitorRoom + (rest.map fun v => v.category).sum ≤ W) (hdg : decode c.code g.pc = .ok (.invokeinterface index count, 5)) (hf : rm.frames + 1 ≤ R.frames) (hl : W + (maxL + 11) + rm.locals ≤ R.locals) (hc : cells + rm.cells ≤ R.cells) (hs : slots + rm.slots ≤ R.slots) :
    Called Z ms p l e R s m args below meth c own mybytes ml nm rt locs (cells + rm.cells) (slots + rm.slots) h Q' T g 5 rest := by
  obtain ⟨hx, hZ, hown, -⟩ := id Cc
  obtain ⟨cq, kq, qa, qb, qc⟩ := isOf hZ eT E
  obtain ⟨v, _, B, -, X1, hS, hgr, hq, st⟩ := X.interfaceBackS hx (xi := y) (y := z) hown (mvT hZ wl) (mvT hZ wd) (mvT hZ wfc hfc) (mvT hZ wsel) (mvT hZ wim) (mvT hZ wpb) (mvT hZ wun) (mvT hZ wca) hy (own_back (W := W) hM hZ J wc wi hf hl) qa qb qc hg hsize (Steps.refl _) (argsL := argsL) (rest := rest) hlen hstack hW hdg (fun _ _ => ⟨rfl, eT, hc, hs⟩)
  exact own_done Cc hB eT X1 hS hgr hq (fun _ hr => st.trans hr)
/-- super.m() -/
theorem own_callP (Cc : Cx Z p b m meth c own mybytes ml nm rt) (hB : Bs s b h) (J : Hd Z ms b.vm h) (X : Stand p l e R b m args below meth c T locs cells slots) {C : String}
    (wl : (Jvm.Cond.methodLink own index y).before a0 Z = true) (wsm : (Jvm.Cond.sameMethod y.cls y.cls y.name y.desc).before a0 Z = true) (wim : (Jvm.Cond.instanceMethod y).before a0 Z = true) (wsu : (Jvm.Cond.superclass own y.cls).before a0 Z = true) (hn : y.name ≠ "<init>") (wi : (Jvm.Cond.initialized y.cls).before a0 Z = true) (wc : (Jvm.Cond.code y bytes maxL ret).before a0 Z = true)
    {a : Addr} (E : Exa Z h a C) (hM : Con l Z ms y bytes maxL ret [] rm (Value.ref a :: argsL).toArray h Q') (eT : T.heap = h) (hg : g.method = m) (hsize : g.locals.size = c.maxLocals) (hlen : ∀ sig, parseMethodDescriptor y.desc = some sig → argsL.length = sig.parameters.length) (hstack : g.stack = argsL.reverse ++ .ref a :: rest)
    (hW : 2 * g.monitorRoom + (rest.map fun v => v.category).sum ≤ W) (hdg : decode c.code g.pc = .ok (.invokespecial index, 3)) (hf : rm.frames + 1 ≤ R.frames) (hl : W + (maxL + 11) + rm.locals ≤ R.locals) (hc : cells + rm.cells ≤ R.cells) (hs : slots + rm.slots ≤ R.slots) :
    Called Z ms p l e R s m args below meth c own mybytes ml nm rt locs (cells + rm.cells) (slots + rm.slots) h Q' T g 3 rest := by
  obtain ⟨hx, hZ, hown, -⟩ := id Cc
  obtain ⟨v, _, B, -, X1, hS, hgr, hq, st⟩ := superBackS X hx hZ (y := y) hown wl wsm wim wsu hn (own_back (W := W) hM hZ J wc wi hf hl) eT (Ins.self E) hg hsize wc (argsL := argsL) (rest := rest) hlen hstack hW hdg (fun _ _ => ⟨rfl, eT, hc, hs⟩)
  exact own_done Cc hB eT X1 hS hgr hq (fun _ hr => st.trans hr)
/-- a private method -/
theorem own_callR (Cc : Cx Z p b m meth c own mybytes ml nm rt) (hB : Bs s b h) (J : Hd Z ms b.vm h) (X : Stand p l e R b m args below meth c T locs cells slots) {C : String}
    (wl : (Jvm.Cond.methodLink own index y).before a0 Z = true) (wim : (Jvm.Cond.instanceMethod y).before a0 Z = true) (wsel : (Jvm.Cond.selects y.cls y y).before a0 Z = true) (wpr : (Jvm.Cond.privateMethod y).before a0 Z = true) (wi : (Jvm.Cond.initialized y.cls).before a0 Z = true) (wc : (Jvm.Cond.code y bytes maxL ret).before a0 Z = true) (hy : y.cls ≠ "java/lang/invoke/MethodHandle" ∧ y.cls ≠ "java/lang/invoke/VarHandle")
    {a : Addr} (E : Exa Z h a C) (hM : Con l Z ms y bytes maxL ret [] rm (Value.ref a :: argsL).toArray h Q') (eT : T.heap = h) (hg : g.method = m) (hsize : g.locals.size = c.maxLocals) (hlen : ∀ sig, parseMethodDescriptor y.desc = some sig → argsL.length = sig.parameters.length) (hstack : g.stack = argsL.reverse ++ .ref a :: rest)
    (hW : 2 * g.monitorRoom + (rest.map fun v => v.category).sum ≤ W) (hdg : decode c.code g.pc = .ok (.invokevirtual index, 3)) (hf : rm.frames + 1 ≤ R.frames) (hl : W + (maxL + 11) + rm.locals ≤ R.locals) (hc : cells + rm.cells ≤ R.cells) (hs : slots + rm.slots ≤ R.slots) :
    Called Z ms p l e R s m args below meth c own mybytes ml nm rt locs (cells + rm.cells) (slots + rm.slots) h Q' T g 3 rest := by
  obtain ⟨hx, hZ, hown, -⟩ := id Cc
  obtain ⟨cl, q1, q2⟩ := E.cell
  obtain ⟨v, _, B, -, X1, hS, hgr, hq, st⟩ := X.privateBackS hx (y := y) hown (mvT hZ wl) (mvT hZ wim) (mvT hZ wsel) (Cond.privateMethod_at (mvP hZ wpr (args := #[]))) (mvT hZ wc) hy (own_back (W := W) hM hZ J wc wi hf hl) hg hsize (Steps.refl _) (a := a) (by rw [eT]; exact q1) q2 (argsL := argsL) (rest := rest) hlen hstack hW hdg (fun _ _ => ⟨rfl, eT, hc, hs⟩)
  exact own_done Cc hB eT X1 hS hgr hq (fun _ hr => st.trans hr)
/-- a nest-mate's constructor -/
theorem own_callN (Cc : Cx Z p b m meth c own mybytes ml nm rt) (hB : Bs s b h) (J : Hd Z ms b.vm h) (X : Stand p l e R b m args below meth c T locs cells slots) (hin : y.name = "<init>") {host : String}
    (wl : (Jvm.Cond.methodLinkNest own index y host).before a0 Z = true) (wim : (Jvm.Cond.instanceMethod y).before a0 Z = true) (wi : (Jvm.Cond.initialized y.cls).before a0 Z = true) (wc : (Jvm.Cond.code y bytes maxL none).before a0 Z = true) (hy : y.cls ≠ "java/lang/invoke/MethodHandle" ∧ y.cls ≠ "java/lang/invoke/VarHandle")
    {a : Addr} (hM : Con l Z ms y bytes maxL none [] rm (Value.ref a :: argsL).toArray h Q') (eT : T.heap = h) (hg : g.method = m) (hsize : g.locals.size = c.maxLocals) (hlen : ∀ sig, parseMethodDescriptor y.desc = some sig → argsL.length = sig.parameters.length) (hstack : g.stack = argsL.reverse ++ .ref a :: rest)
    (hW : 2 * g.monitorRoom + (rest.map fun v => v.category).sum ≤ W) (hdg : decode c.code g.pc = .ok (.invokespecial index, 3)) (hf : rm.frames + 1 ≤ R.frames) (hl : W + (maxL + 11) + rm.locals ≤ R.locals) (hc : cells + rm.cells ≤ R.cells) (hs : slots + rm.slots ≤ R.slots) :
    Called Z ms p l e R s m args below meth c own mybytes ml nm rt locs (cells + rm.cells) (slots + rm.slots) h Q' T g 3 rest := by
  obtain ⟨hx, hZ, hown, -⟩ := id Cc
  have wl' : (Jvm.Cond.methodLinkNest own index y host).before args b = true := (Cond.methodLinkNest_wide hZ wl :)
  obtain ⟨v, _, B, -, X1, hS, hgr, hq, st⟩ := X.specialBackNestS hx (y := y) hin hown wl' (mvT hZ wim) (mvT hZ wc) hy (own_back (W := W) hM hZ J wc wi hf hl) hg hsize (Steps.refl _) (a := a) (argsL := argsL) (rest := rest) hlen hstack hW hdg (fun _ _ => ⟨rfl, eT, hc, hs⟩)
  exact own_done Cc hB eT X1 hS hgr hq (fun _ hr => st.trans hr)
end Calls
theorem own_nf {s : State} {args : Array Value} {C : String} {y z : MethodName} (hsel : (Jvm.Cond.selects C z z).before args s = true) (hc : z.cls = y.cls) : NotFace s y := fun r0 h0 => by
  obtain ⟨c2, r2, m2, -, -, q3, -⟩ := Cond.selects_spec hsel
  obtain ⟨kr, k1, k2⟩ := notFace_of_selects hsel m2 q3
  have a := findClass_of_methodNamed h0
  have b := findClass_of_methodNamed q3
  rw [hc] at b
  have e : r0.cls = m2.cls := Option.some.inj (a.symm.trans b)
  exact ⟨kr, by rw [e]; exact k1, k2⟩
theorem own_sm {y : MethodName} (wim : (Jvm.Cond.instanceMethod y).before a0 Z = true) (nf : NotFace Z y) (hy : y.cls ≠ "java/lang/invoke/MethodHandle" ∧ y.cls ≠ "java/lang/invoke/VarHandle") : (Jvm.Cond.sameMethod y.cls y.cls y.name y.desc).before a0 Z = true := by
  obtain ⟨mk, methM, hnamed, -⟩ := Cond.instanceMethod_spec wim
  obtain ⟨kr, k1, k2⟩ := nf _ hnamed
  have hf := State.methodFound?_of_named hnamed hy
  have hc := findClass_of_methodNamed hnamed
  have hn' : Z.methodNamed? ⟨y.cls, y.name, y.desc⟩ = some mk := hnamed
  simp [Cond.before, Cond.holds, Cond.value, hc, hf, hn', k1, k2]
theorem own_decl {y : MethodName} {bytes : ByteArray} {maxL : Nat} {ret : Option FieldType} (wim : (Jvm.Cond.instanceMethod y).before a0 Z = true) (wc : (Jvm.Cond.code y bytes maxL ret).before a0 Z = true) : (Jvm.Cond.declares y).before a0 Z = true := by
  obtain ⟨mk, methM, hnamed, hmethM, hst, -⟩ := Cond.instanceMethod_spec wim
  obtain ⟨m2, cM, q1, -, -, -, -, -, -, hsig⟩ := Cond.code_spec hnamed wc
  cases hmethM.symm.trans q1
  simp [Cond.before, Cond.holds, Cond.value, hnamed, hmethM, hst, hsig]
theorem keep_ext (q : Keep h h' []) : Ext h h' := ⟨q.1, fun a c r => q.2.1 a c r (fun z => nomatch z)⟩
theorem ext_keep (q : Ext h h') : Keep h h' [] := (Keep.refl h []).ext q
theorem own_ole {n0 : Nat} (O : Old Z n0 h) : n0 ≤ h.size := O.1 ▸ O.2.1
/-- an equation of the case's words -/
theorem own_eqI {t : Term} {n : Int32} (q : (Jvm.Cond.eq t (.int n)).value args s none s [] = some true) : t.eval args s none [] s = some (.int n) := by
  cases ha : t.eval args s none [] s with
  | none => simp [Cond.value, ha] at q
  | some x => cases x <;> simp [Cond.value, Term.eval, ha] at q ⊢; exact q
theorem own_sub1 {z : Addr} {ms L : List Addr} (q : z ∈ L) (r : ∀ x ∈ ms, x ∈ L) : ∀ x ∈ z :: ms, x ∈ L := fun x hx => (List.mem_cons.mp hx).elim (fun e => by rw [e]; exact q) (r x)
end OwnKit

section OwnLdc
variable {p : Program} {l : Launch} {e : Env} {R : Room} {s b : State} {m : MethodId} {args : Array Value} {below : List Frame} {meth : Method} {c : Code} {T : State} {locs : List Loc} {cells slots : Nat} {Z : State} {a0 : Array Value} {h : Heap} {ms : List Addr} {own nm text : String} {mybytes : ByteArray} {ml index n : Nat} {rt : Option FieldType} {g : JFrame}
/-- a constant that is booked at T', and whose address is older than this load, was held at the start -/
theorem own_heldZ {T' : State} {vm0 : Vm} {Ts : List String} {a : Addr} (hW : Z.Warmed39 T'.vm) (w : (Jvm.Cond.stringLink own index text).before a0 Z = true) (I : IB Z vm0 Ts) (hnot : text ∉ Ts) (lit : Lit T' own index a) (hHZ : ConstHeldL Z own index) {cO : ClassId} (hcO : Z.vm.findClass own = some cO)
    (hint : T'.vm.interned = vm0.interned ∨ ∃ (u : Array UInt16) (a' : Addr), T'.vm.interned = vm0.interned.push (u, a') ∧ a ≠ a') : ∃ units, SlOf Z a units := by
  obtain ⟨k, cf, i, units, hk, hcf, hp, hu, hnm, htext, -⟩ := Cond.stringLink_spec hcO w
  obtain ⟨k', hk', hke, -, ee, -⟩ := hW.2.2.2 cO k hk
  have hl : k'.resolved[index]? = some (some (.string a)) := by
    have q : T'.resolvedAt? own index = some (.string a) := lit
    have f : T'.vm.findClass own = some cO := by rw [hW.alike.findClass]; exact hcO
    simp only [State.resolvedAt?, f, hk', Option.bind_eq_bind, Option.bind_some] at q
    cases hr : k'.resolved[index]? with
    | none => simp [hr] at q
    | some y => cases y <;> simp [hr] at q; rw [q]
  have hfind : vm0.interned.find? (fun p => p.1 == units) = some (units, a) → Z.vm.interned.find? (fun p => p.1 == units) = some (units, a) := fun hf => by
    obtain ⟨more, e, hm⟩ := I
    rw [e, Array.find?_append] at hf
    cases hs : Z.vm.interned.find? (fun p => p.1 == units) with
    | some pr => rw [hs] at hf; simpa using hf
    | none =>
      rw [hs, Option.none_or] at hf
      obtain ⟨t, ht, hd⟩ := hm _ (Array.mem_of_find?_eq_some hf)
      cases htext.symm.trans hd
      exact absurd ht hnot
  rcases ee index with e0 | ⟨hop, r, e1, hr | ⟨a3, t, si, us, rfl, -, q3, q4, q5⟩⟩
  · exact ⟨units, hHZ cO k cf i units a hcO hk hcf hp hu (Or.inl (e0 ▸ hl))⟩
  · exfalso
    cases r <;> simp [State.rightAt, hk, hcf, hnm] at hr
  · rw [hcf] at q3 q4
    obtain rfl : si = i := by have := q3.symm.trans hp; simpa using this
    obtain rfl : us = units := by simpa [ConstantPool.utf8?, hu] using q4.symm
    obtain rfl : a3 = a := by have := e1.symm.trans hl; simpa using this
    refine ⟨us, hHZ cO k cf si us a3 hcO hk hcf hp hu (Or.inr ⟨hop, hfind ?_⟩)⟩
    rcases hint with q | ⟨u, a', q, hne⟩
    · rw [← q]; exact q5
    · rw [q, Array.find?_push] at q5
      cases hs : vm0.interned.find? (fun p => p.1 == us) with
      | some pr => rw [hs] at q5; simpa using q5
      | none =>
        rw [hs, Option.none_or] at q5
        split at q5
        · cases q5; exact absurd rfl hne
        · cases q5
theorem own_ldcV (Cc : Cx Z p b m meth c own mybytes ml nm rt) (hB : Bs s b h) (J : Hd Z ms b.vm h) (X : Stand p l e R b m args below meth c T locs cells slots) (hC : (own, index, text) ∈ litCs) (hD : ∀ q ∈ litCs, q.2.2 = text → q = (own, index, text))
    (w : (Jvm.Cond.stringLink own index text).before a0 Z = true) (wS : ∀ a ∈ Bundle.stringAtoms, a.before a0 Z = true) (hl : ∀ c ∈ text.toList, c.toNat < 256) (hsz : text.toList.length < 2147483648) (N : Fr s.heap.size locs) (hks : Ext Z.heap s.heap)
    (eT : T.heap = h) (hg : g.method = m) (hd : decode c.code g.pc = .ok (.ldc index, 2)) (hn : 4 * text.toList.length ≤ n) (hbig : n ≤ 536870912) (hc : cells + 2 ≤ R.cells) (hl' : slots + (n + 4) ≤ R.slots) :
    ∃ (a t : Addr) (k : ClassId) (b' T' : State) (h' : Heap), T'.heap = h' ∧ Cx Z p b' m meth c own mybytes ml nm rt ∧ Stand p l e R b' m args below meth c T' locs (cells + 2) (slots + (n + 4)) ∧ Bs s b' h' ∧ Hd Z ms b'.vm h' ∧ Ext h h' ∧ Says Z h' a t k text ∧ a ∉ ms ∧ t ∉ ms ∧ Lit b' own index a ∧ ∀ u, Steps p.tables e below (T'.setTop { g with pc := g.pc + 2, stack := .ref a :: g.stack }) u → Steps p.tables e below (T.setTop g) u := by
  obtain ⟨vm0, k0, rfl, hS, hk⟩ := hB
  obtain ⟨hx, hZ, hown, r⟩ := Cc
  obtain ⟨A, E, M, Ts, I, L⟩ := id J
  have hH : Jvm.Lit.constHeld Z own index := A.1 _ hC
  have hcw := A.2 a0
  rcases L _ hC with hnot | ⟨a, t, k, lit, says, n1, n2⟩
  · have wi : (Jvm.Cond.instantiable "java/lang/String" 4).before a0 Z = true := wS _ (by simp [Bundle.stringAtoms, Bundle.sN])
    have wa : (Jvm.Cond.arrayClass .byte).before a0 Z = true := wS _ (by simp [Bundle.stringAtoms])
    have hHZ : ConstHeldL Z own index := heldStart hH w hl hcw wa wi
    obtain ⟨a, T', X', hS', ⟨kk, hkk, hrr⟩, hb, hI1, hint, ⟨units, htext, hin⟩, st⟩ := X.ldcColdF (oldF X N) hx (own := own) hown (mvS hZ w) (fun d hd => by
      have q := wS d hd
      simp only [Bundle.stringAtoms, List.mem_cons, List.not_mem_nil, or_false] at hd
      rcases hd with rfl | rfl | rfl | rfl | rfl | rfl | rfl
      · exact mv (s := s.setVm vm0) hZ q
      · exact mv (s := s.setVm vm0) hZ q
      · exact mvA (s := s.setVm vm0) hZ q
      · exact mv (s := s.setVm vm0) hZ q
      · exact mv (s := s.setVm vm0) hZ q
      · exact mv (s := s.setVm vm0) hZ q
      · exact mv (s := s.setVm vm0) hZ q) (heldCarry hZ w I hnot hks.2 hHZ) (fun u hu => Jvm.ClassFile.lat_of_text hu hl) hg hd hn hbig hc hl'
    subst eT
    have E' := ext_of hb
    have hW : Z.Warmed39 T'.vm := State.Warmed39.trans (t := s.setVm vm0) hZ hS'.1
    have hTi : T.vm.interned = vm0.interned := X.warmed.interned_eq
    obtain ⟨t, k, says, hloc⟩ := slin_says hW.alike hin htext hl hsz
    have hf : T'.vm.findClass own = some m.cls := by rw [hS'.1.alike.findClass]; exact hown
    have lit : Lit (s.setVm T'.vm) own index a := by simp [Lit, State.resolvedAt?, hf, hkk, hrr]
    have EZ : Ext Z.heap T'.heap := ⟨Nat.le_trans E.1 E'.1, fun a c q => E'.2 a c (E.2 a c q)⟩
    have hap : (a < Z.heap.size ∧ t < Z.heap.size) ∨ (T.heap.size ≤ a ∧ T.heap.size ≤ t) := by
      rcases hloc with ⟨l1, l2⟩ | q
      · left
        have hcO : Z.vm.findClass own = some m.cls := by rw [← hW.alike.findClass]; exact hf
        have hsT : s.heap.size ≤ T.heap.size := X.same.2.1
        obtain ⟨us, q, cS, rfl, ⟨⟨s1, -, -, ⟨cv, kv, iv, s4, -⟩, -, -, -, s8, -, s10, -⟩, -⟩, -⟩ := own_heldZ (T' := T') hW w I hnot lit hHZ hcO (by
          rcases hI1.2 with q | ⟨u, a', q, q2, -⟩
          · exact Or.inl (q.trans hTi)
          · exact Or.inr ⟨u, a', by rw [q, hTi]; rfl, fun z => absurd l1 (Nat.not_lt.mpr (by rw [z]; exact Nat.le_trans hsT q2))⟩)
        obtain ⟨cell, cf, kf, i, f, f1, f2, -, -, -, -, f7⟩ := says.2.2.1
        cases (EZ.2 _ _ s1).symm.trans f1
        cases s4.symm.trans f2
        cases s8.symm.trans f7
        exact ⟨(Array.getElem?_eq_some_iff.mp s1).1, (Array.getElem?_eq_some_iff.mp s10).1⟩
      · exact Or.inr q
    have n1 : a ∉ ms := fun z => by
      obtain ⟨m1, m2⟩ := M a z
      rcases hap with ⟨h1, -⟩ | ⟨h1, -⟩
      · exact absurd h1 (Nat.not_lt.mpr m1)
      · exact absurd m2 (Nat.not_lt.mpr h1)
    have n2 : t ∉ ms := fun z => by
      obtain ⟨m1, m2⟩ := M t z
      rcases hap with ⟨-, h1⟩ | ⟨-, h1⟩
      · exact absurd h1 (Nat.not_lt.mpr m1)
      · exact absurd m2 (Nat.not_lt.mpr h1)
    refine ⟨a, t, k, s.setVm T'.vm, T', _, rfl, ⟨hx, hW, hf, r⟩, X', ⟨T'.vm, T'.heap.size, rfl, hS.trans hS' (Nat.le_trans hk E'.1), Nat.le_refl _⟩, ⟨A, EZ, fun y hy => ⟨(M y hy).1, Nat.lt_of_lt_of_le (M y hy).2 E'.1⟩, text :: Ts, I.step (by have q := hint; rw [hTi] at q; exact q), fun q hq => ?_⟩, E', says, n1, n2, lit, st⟩
    by_cases hqt : q.2.2 = text
    · obtain rfl := hD q hq hqt
      exact Or.inr ⟨a, t, k, lit, says, n1, n2⟩
    · rcases L q hq with h1 | ⟨a2, t2, k2, l2, s2, r2⟩
      · exact Or.inl (fun z => (List.mem_cons.mp z).elim hqt h1)
      · exact Or.inr ⟨a2, t2, k2, Lit.stays (s := s) (vm0 := vm0) l2 hS'.1, s2.ext E', r2⟩
  · exact ⟨a, t, k, s.setVm vm0, T, h, eT, ⟨hx, hZ, hown, r⟩, X.mono (by omega) (by omega), ⟨vm0, k0, rfl, hS, hk⟩, J, ⟨Nat.le_refl _, fun _ _ q => q⟩, says, n1, n2, lit, ldcAgain X hx hZ hown w lit hg hd⟩
/-- a second load in one walk -/
theorem own_ldcA {a : Addr} (Cc : Cx Z p b m meth c own mybytes ml nm rt) (X : Stand p l e R b m args below meth c T locs cells slots) (hB : Bs s b h) (w : (Jvm.Cond.stringLink own index text).before a0 Z = true) (lit : Lit b own index a) (hg : g.method = m) (hd : decode c.code g.pc = .ok (.ldc index, 2)) :
    ∀ u, Steps p.tables e below (T.setTop { g with pc := g.pc + 2, stack := .ref a :: g.stack }) u → Steps p.tables e below (T.setTop g) u := by
  obtain ⟨vm0, k0, rfl, hS, hk⟩ := hB
  exact ldcAgain X Cc.1 Cc.2.1 Cc.2.2.1 w lit hg hd
end OwnLdc

section OwnStr
abbrev lo8 (x : Int32) : Int32 := x.toInt8.toInt32
theorem oi_toInt {i : Nat} (h : i < 2147483648) : (Int32.ofNat i).toInt = i := Int32.toInt_ofNat_small h
theorem oi_nn {i : Nat} (h : i < 2147483648) : ¬ Int32.ofNat i < 0 := by
  rw [Int32.lt_iff_toInt_lt, oi_toInt h, Int32.toInt_zero]; omega
theorem oi_nat {i : Nat} (h : i < 2147483648) : (Int32.ofNat i).toNatClampNeg = i := by
  have q := nat_of (oi_nn h)
  rw [oi_toInt h] at q; omega
theorem oi_lt {i n : Nat} (hi : i < 2147483648) (hn : n < 2147483648) (q : i < n) : Int32.ofNat i < Int32.ofNat n := by
  rw [Int32.lt_iff_toInt_lt, oi_toInt hi, oi_toInt hn]; omega
theorem oi_nlt {i n : Nat} (hi : i < 2147483648) (hn : n < 2147483648) (q : ¬ i < n) : ¬ Int32.ofNat i < Int32.ofNat n := by
  rw [Int32.lt_iff_toInt_lt, oi_toInt hi, oi_toInt hn]; omega
theorem oi_succ {i : Nat} (h : i + 1 < 2147483648) : Int32.ofNat i + (1 : Int32) = Int32.ofNat (i + 1) := by
  have q := c_iadd (Int32.ofNat i) 1
  have r := rng32 (Int32.ofNat i + 1)
  rw [oi_toInt (by omega), show (1 : Int32).toInt = 1 from rfl] at q
  apply Int32.toInt_inj.mp
  rw [oi_toInt h]; omega
theorem nar_b (x : Int32) : nar .byte (lo8 x) = lo8 x := by
  have a := c_i2b x
  have b := c_i2b (x.toInt8.toInt32)
  apply Int32.toInt_inj.mp
  show (x.toInt8.toInt32.toInt8.toInt32).toInt = x.toInt8.toInt32.toInt
  omega
theorem fits_b (x : Int32) : fits .byte (.int (lo8 x)) = true := fits_nar_byte x
theorem c_rng {x : Int32} (h0 : ¬ x < 0) (h1 : ¬ 65535 < x) : 0 ≤ x.toInt ∧ x.toInt ≤ 65535 := by
  rw [Int32.lt_iff_toInt_lt] at h0 h1
  exact ⟨by simpa using h0, by simpa using h1⟩
theorem nar_c {x : Int32} (h0 : ¬ x < 0) (h1 : ¬ 65535 < x) : nar .char x = x := by
  have a := c_rng h0 h1
  have b := c_i2c x
  apply Int32.toInt_inj.mp
  show (x.toUInt32.toUInt16.toUInt32.toInt32).toInt = x.toInt
  omega
theorem fits_c {x : Int32} (h0 : ¬ x < 0) (h1 : ¬ 65535 < x) : fits .char (.int x) = true := by
  have q := fits_nar_char x
  rwa [nar_c h0 h1] at q
theorem le255 {x : Int32} (h1 : ¬ 255 < x) : ¬ 65535 < x := by
  rw [Int32.lt_iff_toInt_lt] at h1 ⊢
  have a : (255 : Int32).toInt = 255 := by decide
  have b : (65535 : Int32).toInt = 65535 := by decide
  omega
theorem chr8 (x : Int32) : ¬ (x &&& (255 : Int32)).toUInt32.toUInt16.toUInt32.toInt32 < 0 ∧ ¬ 255 < (x &&& (255 : Int32)).toUInt32.toUInt16.toUInt32.toInt32 := by
  rw [i2c_mask]
  have q := c_and x 255 (by decide)
  have a : (255 : Int32).toInt = 255 := by decide
  rw [Int32.lt_iff_toInt_lt, Int32.lt_iff_toInt_lt, Int32.toInt_zero]
  omega
theorem own_push {Z : State} {h h' : Heap} {a : Addr} {k : ClassId} {ty : FieldType} {z j : Int32} {vs : List Value} {v dv : Value} (V : Arv Z h a k ty z vs dv) (W : Wr h h' a j.toNatClampNeg v) (hj : j.toNatClampNeg = vs.length) (hv : fits ty v = true) : Arv Z h' a k ty z (vs ++ [v]) dv := by
  obtain ⟨c, A, q1, S, q3, H, G⟩ := V.pad (pad_rep vs dv 1)
  have q := Arv.set A q1 S q3 H G hv W vs.length hj (by simp)
  simpa [List.set_append] using q
theorem getD_int (cs : List Int32) (i : Nat) : (cs.map Value.int).getD i (.int 0) = .int (cs.getD i 0) := by
  simp only [List.getD_eq_getElem?_getD, List.getElem?_map]
  cases cs[i]? <;> rfl
theorem take_push (cs : List Int32) {i : Nat} (h : i < cs.length) (f : Int32 → Value) : (cs.take i).map f ++ [f (cs.getD i 0)] = (cs.take (i + 1)).map f := by
  rw [List.take_succ_eq_append_getElem h, List.map_append, List.getD_eq_getElem?_getD, List.getElem?_eq_getElem h]; rfl
theorem mem_getD {cs : List Int32} {i : Nat} (h : i < cs.length) : cs.getD i 0 ∈ cs := by
  rw [List.getD_eq_getElem?_getD, List.getElem?_eq_getElem h]; exact List.getElem_mem h
theorem oi_inj {a b : Nat} (ha : a < 2147483648) (hb : b < 2147483648) (q : Int32.ofNat a = Int32.ofNat b) : a = b := by
  have r := congrArg Int32.toInt q
  rw [oi_toInt ha, oi_toInt hb] at r; omega
theorem oi_nil {cs : List Int32} {n : Nat} (hn : cs.length ≤ n) (q : Int32.ofNat cs.length = 0) (hs : n < 2147483648 := by decide) : cs = [] := by
  have r := oi_inj (b := 0) (by omega) (by decide) q
  exact List.eq_nil_of_length_eq_zero r
theorem asB {Z : State} {h : Heap} {t : Addr} {k : ClassId} {cs : List Int32} {dv : Value} (q : Arv Z h t k .byte (Int32.ofNat cs.length) (cs.map fun x => Value.int (lo8 x)) dv) : Arv Z h t k .byte (Int32.ofNat (cs.map lo8).length) ((cs.map lo8).map Value.int) dv := by
  rw [List.length_map, List.map_map]; exact q
theorem teq_all {b1 b2 : List Int32} {i : Nat} (hl : b1.length = b2.length) (hi : i + 0 = b1.length) (h : b1.take i = b2.take i) : b1 = b2 := by
  have e : i = b1.length := by omega
  rw [e, List.take_length, hl, List.take_length] at h; exact h
theorem teq_step {b1 b2 : List Int32} {i : Nat} (h : b1.take i = b2.take i) (h1 : i < b1.length) (h2 : i < b2.length) (q : b1.getD i 0 = b2.getD i 0) : b1.take (i + 1) = b2.take (i + 1) := by
  rw [List.getD_eq_getElem?_getD, List.getD_eq_getElem?_getD, List.getElem?_eq_getElem h1, List.getElem?_eq_getElem h2] at q
  rw [List.take_succ_eq_append_getElem h1, List.take_succ_eq_append_getElem h2, h]
  exact congrArg (fun z => b2.take i ++ [z]) q
theorem nar_z {x : Int32} (h : x = 1 ∨ x = 0) : nar .boolean x = x := by rcases h with rfl | rfl <;> decide
theorem fits_z {x : Int32} (h : x = 1 ∨ x = 0) : fits .boolean (.int x) = true := by rcases h with rfl | rfl <;> decide
theorem and3 (x : Int32) : x &&& 3 = 0 ∨ x &&& 3 = 1 ∨ x &&& 3 = 2 ∨ x &&& 3 = 3 := by
  have q := c_and x 3 (by decide)
  have a : (3 : Int32).toInt = 3 := by decide
  have r : (x &&& 3).toInt = 0 ∨ (x &&& 3).toInt = 1 ∨ (x &&& 3).toInt = 2 ∨ (x &&& 3).toInt = 3 := by omega
  rcases r with r | r | r | r
  · exact Or.inl (Int32.toInt_inj.mp r)
  · exact Or.inr (Or.inl (Int32.toInt_inj.mp r))
  · exact Or.inr (Or.inr (Or.inl (Int32.toInt_inj.mp r)))
  · exact Or.inr (Or.inr (Or.inr (Int32.toInt_inj.mp r)))
theorem rem3 (x : Int32) : (x &&& 3) % 3 = 0 ∨ (x &&& 3) % 3 = 1 ∨ (x &&& 3) % 3 = 2 := by
  rcases and3 x with r | r | r | r <;> rw [r] <;> decide
theorem lo8_inj {x y : Int32} (hx : ¬ x < 0 ∧ ¬ 255 < x) (hy : ¬ y < 0 ∧ ¬ 255 < y) (h : lo8 x = lo8 y) : x = y := by
  obtain ⟨x0, x1⟩ := hx
  obtain ⟨y0, y1⟩ := hy
  have a : (255 : Int32).toInt = 255 := by decide
  rw [Int32.lt_iff_toInt_lt, Int32.toInt_zero] at x0 y0
  rw [Int32.lt_iff_toInt_lt] at x1 y1
  have q : x.toInt8.toInt32.toInt = y.toInt8.toInt32.toInt := congrArg Int32.toInt h
  have cx := c_i2b x
  have cy := c_i2b y
  apply Int32.toInt_inj.mp
  omega
theorem q_back {q : Int32} (h : ¬ q < 0) : Int32.ofNat q.toNatClampNeg = q := by
  have a := nat_of h
  have r := rng32 q
  apply Int32.toInt_inj.mp
  rw [oi_toInt (by omega), a]
theorem own_idx {j : Int32} {n : Nat} (h : ¬ (j < 0 ∨ n ≤ j.toNatClampNeg)) : j.toNatClampNeg.toInt32 = j := q_back (fun q => h (Or.inl q))
end OwnStr

theorem litI_nil : litI "" = [] := by decide +kernel
theorem asN {Z : State} {h : Heap} {t : Addr} {k : ClassId} {cs : List Int32} {dv : Value} (q : Arv Z h t k .byte (Int32.ofNat (litI "").length) ((litI "").map Value.int) dv) (e : cs = []) : Arv Z h t k .byte (Int32.ofNat (cs.map lo8).length) ((cs.map lo8).map Value.int) dv := by
  rw [litI_nil] at q; subst e; exact q
theorem own_compact {Z : State} {a1 a0 : Array Value} (q : (Jvm.Cond.not (Jvm.Cond.eq (Jvm.Term.static "java/lang/String" "COMPACT_STRINGS" "Z") (Jvm.Term.int 0))).before a1 Z = true) : Jvm.Lit.compactW.before a0 Z = true := q

theorem own_wS (Z : State) (a0 : Array Value) (hw : ∀ d ∈ tables_1, d.before a0 Z = true) : ∀ a ∈ Bundle.stringAtoms, a.before a0 Z = true := by
  intro a ha
  simp only [Bundle.stringAtoms, List.mem_cons, List.not_mem_nil, or_false] at ha
  rcases ha with rfl | rfl | rfl | rfl | rfl | rfl | rfl
  · exact (hw _ (List.mem_of_getElem? (i := 6) rfl))
  · exact (hw _ (List.mem_of_getElem? (i := 5) rfl))
  · exact (hw _ (List.mem_of_getElem? (i := 23) rfl))
  · exact (hw _ (List.mem_of_getElem? (i := 33) rfl))
  · exact (hw _ (List.mem_of_getElem? (i := 31) rfl))
  · exact (hw _ (List.mem_of_getElem? (i := 35) rfl))
  · exact (hw _ (List.mem_of_getElem? (i := 36) rfl))

def mkL (n x y : Int32) : List Int32 := if n = 0 then [] else if n = 1 then [x] else [x, y]
theorem mkL_len (n x y : Int32) : ((mkL n x y).map lo8).length < 2147483648 := by
  rw [List.length_map]
  by_cases h0 : n = 0
  · simp [mkL, h0]
  by_cases h1 : n = 1
  · simp [mkL, h1]
  simp [mkL, h0, h1]
theorem mkL_eq {n m x y u v : Int32} (hn : n = 0 ∨ n = 1 ∨ n = 2) (hm : m = 0 ∨ m = 1 ∨ m = 2) (hx : ¬ x < 0 ∧ ¬ 255 < x) (hy : ¬ y < 0 ∧ ¬ 255 < y) (hu : ¬ u < 0 ∧ ¬ 255 < u) (hv : ¬ v < 0 ∧ ¬ 255 < v) :
    (mkL m u v).map lo8 = (mkL n x y).map lo8 ↔ n = m ∧ (n < 1 ∨ x = u) ∧ (n < 2 ∨ y = v) := by
  have a : lo8 u = lo8 x ↔ x = u := ⟨fun q => (lo8_inj hu hx q).symm, fun q => by rw [q]⟩
  have b : lo8 v = lo8 y ↔ y = v := ⟨fun q => (lo8_inj hv hy q).symm, fun q => by rw [q]⟩
  rcases hn with rfl | rfl | rfl <;> rcases hm with rfl | rfl | rfl <;> simp only [mkL, if_true, if_false, reduceIte, List.map_cons, List.map_nil, List.cons.injEq, and_true, true_and, a, b, show (0 : Int32) < 1 by decide, show (0 : Int32) < 2 by decide, show (1 : Int32) < 2 by decide, show ¬ (1 : Int32) < 1 by decide, show ¬ (2 : Int32) < 1 by decide, show ¬ (2 : Int32) < 2 by decide, show (1 : Int32) ≠ 0 by decide, show (2 : Int32) ≠ 0 by decide, show (2 : Int32) ≠ 1 by decide, show (0 : Int32) ≠ 1 by decide, show (0 : Int32) ≠ 2 by decide, show (1 : Int32) ≠ 2 by decide, false_or, true_or, false_and, reduceCtorEq, and_false, iff_self]
theorem mkL_le (n x y : Int32) : ((mkL n x y).map lo8).length ≤ 2 := by
  rw [List.length_map]
  by_cases h0 : n = 0
  · simp [mkL, h0]
  by_cases h1 : n = 1
  · simp [mkL, h1]
  simp [mkL, h0, h1]
theorem and255 (x : Int32) : (x &&& 255).toInt = x.toInt % 256 := by
  have h1 : (x &&& 255).toBitVec.toNat = x.toBitVec.toNat % 256 := by
    show (x.toBitVec &&& (255 : Int32).toBitVec).toNat = _
    rw [BitVec.toNat_and, show (255 : Int32).toBitVec.toNat = 2 ^ 8 - 1 from by decide, Nat.and_two_pow_sub_one_eq_mod]
  have e1 := BitVec.toInt_eq_toNat_cond (x &&& 255).toBitVec
  have e2 := BitVec.toInt_eq_toNat_cond x.toBitVec
  have h2 := x.toBitVec.isLt
  show (x &&& 255).toBitVec.toInt = x.toBitVec.toInt % 256
  rw [e1, e2, h1]
  split <;> split <;> omega
theorem chr_lo8 {x : Int32} (h : ¬ x < 0 ∧ ¬ 255 < x) : (lo8 x &&& (255 : Int32)).toUInt32.toUInt16.toUInt32.toInt32 = x := by
  obtain ⟨x0, x1⟩ := h
  have a : (255 : Int32).toInt = 255 := by decide
  rw [Int32.lt_iff_toInt_lt, Int32.toInt_zero] at x0
  rw [Int32.lt_iff_toInt_lt] at x1
  rw [i2c_mask]
  have cx := c_i2b x
  have m : (x.toInt8.toInt32 &&& 255).toInt = x.toInt8.toInt32.toInt % 256 := and255 (lo8 x)
  apply Int32.toInt_inj.mp
  show (x.toInt8.toInt32 &&& 255).toInt = x.toInt
  omega
theorem mkL_len_eq {n x y : Int32} (hn : n = 0 ∨ n = 1 ∨ n = 2) : ((mkL n x y).map lo8).length = n.toNatClampNeg := by
  rw [List.length_map]
  rcases hn with rfl | rfl | rfl
  · simp only [mkL, if_true]; rfl
  · simp only [mkL, show ¬ (1 : Int32) = 0 by decide, if_false, if_true]; rfl
  · simp only [mkL, show ¬ (2 : Int32) = 0 by decide, show ¬ (2 : Int32) = 1 by decide, if_false]; rfl

theorem d6_3 : decode jdk_52_method_21_code 3 = .ok (.iload 5, 2) := by decide +kernel
theorem d6_5 : decode jdk_52_method_21_code 5 = .ok (.iload 4, 2) := by decide +kernel
theorem d6_7 : decode jdk_52_method_21_code 7 = .ok (.if_icmp .ge 37, 3) := by decide +kernel
theorem d6_44 : decode jdk_52_method_21_code 44 = .ok (.iload 4, 2) := by decide +kernel
theorem d6_46 : decode jdk_52_method_21_code 46 = .ok (.ireturn, 1) := by decide +kernel
theorem d6_10 : decode jdk_52_method_21_code 10 = .ok (.aload_n 0, 1) := by decide +kernel
theorem d6_11 : decode jdk_52_method_21_code 11 = .ok (.iload_n 1, 1) := by decide +kernel
theorem d6_12 : decode jdk_52_method_21_code 12 = .ok (.caload, 1) := by decide +kernel
theorem d6_13 : decode jdk_52_method_21_code 13 = .ok (.istore 6, 2) := by decide +kernel
theorem d6_15 : decode jdk_52_method_21_code 15 = .ok (.iload 6, 2) := by decide +kernel
theorem d6_17 : decode jdk_52_method_21_code 17 = .ok (.sipush 255, 3) := by decide +kernel
theorem d6_20 : decode jdk_52_method_21_code 20 = .ok (.if_icmp .le 6, 3) := by decide +kernel
theorem d6_26 : decode jdk_52_method_21_code 26 = .ok (.aload_n 2, 1) := by decide +kernel
theorem d6_27 : decode jdk_52_method_21_code 27 = .ok (.iload_n 3, 1) := by decide +kernel
theorem d6_28 : decode jdk_52_method_21_code 28 = .ok (.iload 6, 2) := by decide +kernel
theorem d6_30 : decode jdk_52_method_21_code 30 = .ok (.i2b, 1) := by decide +kernel
theorem d6_31 : decode jdk_52_method_21_code 31 = .ok (.bastore, 1) := by decide +kernel
theorem d6_32 : decode jdk_52_method_21_code 32 = .ok (.iinc 1 1, 3) := by decide +kernel
theorem d6_35 : decode jdk_52_method_21_code 35 = .ok (.iinc 3 1, 3) := by decide +kernel
theorem d6_38 : decode jdk_52_method_21_code 38 = .ok (.iinc 5 1, 3) := by decide +kernel
theorem d6_41 : decode jdk_52_method_21_code 41 = .ok (.goto (-38), 3) := by decide +kernel
theorem own_st6 {v0 v1 v2 v3 v4 v5 : Value} {s6 : Slot} {x : Int32} (h : One s6) : storeLocals #[.val v0, .val v1, .val v2, .val v3, .val v4, .val v5, s6] 6 (.int x) = some #[.val v0, .val v1, .val v2, .val v3, .val v4, .val v5, .val (.int x)] := by
  rcases h with rfl | ⟨w, rfl, hw⟩
  · rfl
  · cases w <;> first | rfl | (simp [Value.category] at hw)

set_option maxRecDepth 65536 in
set_option maxHeartbeats 40000000 in
theorem cloop {l : Launch} {Z : State} {p : Program} {e : Env} {R : Room} {s b : State} {m : MethodId} {args : Array Value} {below : List Frame} {meth : Method} {c : Code} {K N : Nat} {Q : Option Value → Vm → Heap → List Loc → Prop} {ms : List Addr} {h0 : Heap} {n0 nb : Nat} (Cc : Cx Z p b m meth c "java/lang/StringUTF16" jdk_52_method_21_code 7 "compress" (some .int)) (a1 a2 : Addr) (k1 k2 : ClassId) (cs : List Int32) (hn : cs.length ≤ 2) (hr : ∀ x ∈ cs, ¬ x < 0 ∧ ¬ 255 < x) (ne12 : a1 ≠ a2) (hb0 : n0 ≤ nb) (hnb : nb ≤ h0.size) (fr_a2 : nb ≤ a2) (hm_a2 : a2 ∈ ms)
    (hQ : ∀ vm h L, Keep h0 h [a2] → Fr nb L → Arv Z h a2 k2 .byte (Int32.ofNat cs.length) (cs.map fun x => Value.int (lo8 x)) (.int 0) → Q (some (.int (Int32.ofNat cs.length))) vm h L) :
    ∀ (r i : Nat), i + r = cs.length → ∀ (T : State) (h : Heap) (locs : List Loc) (cells slots : Nat) (s6 : Slot), One s6 → Stand p l e R b m args below meth c T locs cells slots → T.heap = h → Old Z n0 h → Fr nb locs → Keep h0 h [a2] → Hd Z ms b.vm h → Bs s b h → Arv Z h a1 k1 .char (Int32.ofNat cs.length) (cs.map Value.int) (.int 0) → Arv Z h a2 k2 .byte (Int32.ofNat cs.length) ((cs.take i).map fun x => Value.int (lo8 x)) (.int 0) → cells ≤ K → slots ≤ N →
      Go p e s below K N (Hd Z ms) Q T (mkF m 3 #[.val (.ref a1), .val (.int (Int32.ofNat i)), .val (.ref a2), .val (.int (Int32.ofNat i)), .val (.int (Int32.ofNat cs.length)), .val (.int (Int32.ofNat i)), s6] []) := by
  obtain ⟨hx, hZ, hown, hby, hml, hnm, hret, hlk⟩ := id Cc
  intro r
  induction r with
  | zero =>
    intro i hi T h locs cells slots s6 one6 X eT O0 N0 K0 J0 B0 V1 V2 hK hN
    show Go p e s below _ _ _ _ T (mkF m 3 #[.val (.ref a1), .val (.int (Int32.ofNat i)), .val (.ref a2), .val (.int (Int32.ofNat i)), .val (.int (Int32.ofNat cs.length)), .val (.int (Int32.ofNat i)), s6] [])
    refine Go.of (fun _ hr => XS.iload X.here hx rfl (hb hby d6_3) rfl  hr) ?_
    show Go p e s below _ _ _ _ T (mkF m 5 #[.val (.ref a1), .val (.int (Int32.ofNat i)), .val (.ref a2), .val (.int (Int32.ofNat i)), .val (.int (Int32.ofNat cs.length)), .val (.int (Int32.ofNat i)), s6] [(.int (Int32.ofNat i))])
    refine Go.of (fun _ hr => XS.iload X.here hx rfl (hb hby d6_5) rfl  hr) ?_
    show Go p e s below _ _ _ _ T (mkF m 7 #[.val (.ref a1), .val (.int (Int32.ofNat i)), .val (.ref a2), .val (.int (Int32.ofNat i)), .val (.int (Int32.ofNat cs.length)), .val (.int (Int32.ofNat i)), s6] [(.int (Int32.ofNat cs.length)), (.int (Int32.ofNat i))])
    refine Go.of (fun _ hr => XS.icmpYes X.here hx rfl (pc0 := 7) (pc' := 44) rfl (hb hby d6_7) rfl (flt (oi_nlt (by omega) (by omega) (by omega))).2.1 (by decide) (by decide) hr) ?_
    show Go p e s below _ _ _ _ T (mkF m 44 #[.val (.ref a1), .val (.int (Int32.ofNat i)), .val (.ref a2), .val (.int (Int32.ofNat i)), .val (.int (Int32.ofNat cs.length)), .val (.int (Int32.ofNat i)), s6] [])
    refine Go.of (fun _ hr => XS.iload X.here hx rfl (hb hby d6_44) rfl  hr) ?_
    show Go p e s below _ _ _ _ T (mkF m 46 #[.val (.ref a1), .val (.int (Int32.ofNat i)), .val (.ref a2), .val (.int (Int32.ofNat i)), .val (.int (Int32.ofNat cs.length)), .val (.int (Int32.ofNat i)), s6] [(.int (Int32.ofNat cs.length))])
    exact Go.retI X hx hlk B0 J0 eT hret (hb hby d6_46) (by omega) (by omega) (fun _ _ => hQ _ _ _ K0 N0 (by have q := V2; rw [show i = cs.length by omega, List.take_length] at q; exact q))
  | succ r ih =>
    intro i hi T h locs cells slots s6 one6 X eT O0 N0 K0 J0 B0 V1 V2 hK hN
    show Go p e s below _ _ _ _ T (mkF m 3 #[.val (.ref a1), .val (.int (Int32.ofNat i)), .val (.ref a2), .val (.int (Int32.ofNat i)), .val (.int (Int32.ofNat cs.length)), .val (.int (Int32.ofNat i)), s6] [])
    refine Go.of (fun _ hr => XS.iload X.here hx rfl (hb hby d6_3) rfl  hr) ?_
    show Go p e s below _ _ _ _ T (mkF m 5 #[.val (.ref a1), .val (.int (Int32.ofNat i)), .val (.ref a2), .val (.int (Int32.ofNat i)), .val (.int (Int32.ofNat cs.length)), .val (.int (Int32.ofNat i)), s6] [(.int (Int32.ofNat i))])
    refine Go.of (fun _ hr => XS.iload X.here hx rfl (hb hby d6_5) rfl  hr) ?_
    show Go p e s below _ _ _ _ T (mkF m 7 #[.val (.ref a1), .val (.int (Int32.ofNat i)), .val (.ref a2), .val (.int (Int32.ofNat i)), .val (.int (Int32.ofNat cs.length)), .val (.int (Int32.ofNat i)), s6] [(.int (Int32.ofNat cs.length)), (.int (Int32.ofNat i))])
    refine Go.of (fun _ hr => XS.icmpNo X.here hx rfl (hb hby d6_7) rfl (tlt (oi_lt (by omega) (by omega) (by omega))).2.1 hr) ?_
    show Go p e s below _ _ _ _ T (mkF m 10 #[.val (.ref a1), .val (.int (Int32.ofNat i)), .val (.ref a2), .val (.int (Int32.ofNat i)), .val (.int (Int32.ofNat cs.length)), .val (.int (Int32.ofNat i)), s6] [])
    refine Go.of (fun _ hr => XS.aloadN X.here hx rfl (hb hby d6_10) rfl rfl hr) ?_
    show Go p e s below _ _ _ _ T (mkF m 11 #[.val (.ref a1), .val (.int (Int32.ofNat i)), .val (.ref a2), .val (.int (Int32.ofNat i)), .val (.int (Int32.ofNat cs.length)), .val (.int (Int32.ofNat i)), s6] [(.ref a1)])
    refine Go.of (fun _ hr => XS.iloadN X.here hx rfl (hb hby d6_11) rfl  hr) ?_
    show Go p e s below _ _ _ _ T (mkF m 12 #[.val (.ref a1), .val (.int (Int32.ofNat i)), .val (.ref a2), .val (.int (Int32.ofNat i)), .val (.int (Int32.ofNat cs.length)), .val (.int (Int32.ofNat i)), s6] [(.int (Int32.ofNat i)), (.ref a1)])
    obtain ⟨x, hxe⟩ : ∃ x, cs.getD i 0 = x := ⟨_, rfl⟩
    have hxr := hr _ (hxe ▸ mem_getD (show i < cs.length by omega))
    obtain ⟨cl101, Ar101, q101, S101, N101_, H101, G101⟩ := id V1
    have hin101 : ¬ ((Int32.ofNat i) < 0 ∨ cl101.slots.size ≤ ((Int32.ofNat i)).toNatClampNeg) := inb_of S101 ⟨oi_nn (by omega), oi_lt (by omega) (by omega) (by omega)⟩
    refine Go.of (fun _ hr => X.caload hx (j := (Int32.ofNat i)) (v := (.int x)) (by rw [eT]; exact Ar101.1) (State.isArrayOf_alike hZ.alike Ar101.2.1) Ar101.2.2 hin101 (H101.at hin101 (by rw [oi_nat (by omega), getD_int, hxe])) (g := (mkF m 12 #[.val (.ref a1), .val (.int (Int32.ofNat i)), .val (.ref a2), .val (.int (Int32.ofNat i)), .val (.int (Int32.ofNat cs.length)), .val (.int (Int32.ofNat i)), s6] [(.int (Int32.ofNat i)), (.ref a1)])) rfl rfl (hb hby d6_12) _ hr) ?_
    show Go p e s below _ _ _ _ T (mkF m 13 #[.val (.ref a1), .val (.int (Int32.ofNat i)), .val (.ref a2), .val (.int (Int32.ofNat i)), .val (.int (Int32.ofNat cs.length)), .val (.int (Int32.ofNat i)), s6] [(.int x)])
    refine Go.of (fun _ hr => XS.istore X.here hx rfl (hb hby d6_13) rfl (l' := #[.val (.ref a1), .val (.int (Int32.ofNat i)), .val (.ref a2), .val (.int (Int32.ofNat i)), .val (.int (Int32.ofNat cs.length)), .val (.int (Int32.ofNat i)), .val (.int x)]) (own_st6 one6) hr) ?_
    show Go p e s below _ _ _ _ T (mkF m 15 #[.val (.ref a1), .val (.int (Int32.ofNat i)), .val (.ref a2), .val (.int (Int32.ofNat i)), .val (.int (Int32.ofNat cs.length)), .val (.int (Int32.ofNat i)), .val (.int x)] [])
    refine Go.of (fun _ hr => XS.iload X.here hx rfl (hb hby d6_15) rfl  hr) ?_
    show Go p e s below _ _ _ _ T (mkF m 17 #[.val (.ref a1), .val (.int (Int32.ofNat i)), .val (.ref a2), .val (.int (Int32.ofNat i)), .val (.int (Int32.ofNat cs.length)), .val (.int (Int32.ofNat i)), .val (.int x)] [(.int x)])
    refine Go.of (fun _ hr => XS.sipush X.here hx rfl (hb hby d6_17) hr) ?_
    show Go p e s below _ _ _ _ T (mkF m 20 #[.val (.ref a1), .val (.int (Int32.ofNat i)), .val (.ref a2), .val (.int (Int32.ofNat i)), .val (.int (Int32.ofNat cs.length)), .val (.int (Int32.ofNat i)), .val (.int x)] [(.int (255 : Int32)), (.int x)])
    refine Go.of (fun _ hr => XS.icmpYes X.here hx rfl (pc0 := 20) (pc' := 26) rfl (hb hby d6_20) rfl (flt hxr.2).2.2.2 (by decide) (by decide) hr) ?_
    show Go p e s below _ _ _ _ T (mkF m 26 #[.val (.ref a1), .val (.int (Int32.ofNat i)), .val (.ref a2), .val (.int (Int32.ofNat i)), .val (.int (Int32.ofNat cs.length)), .val (.int (Int32.ofNat i)), .val (.int x)] [])
    refine Go.of (fun _ hr => XS.aloadN X.here hx rfl (hb hby d6_26) rfl rfl hr) ?_
    show Go p e s below _ _ _ _ T (mkF m 27 #[.val (.ref a1), .val (.int (Int32.ofNat i)), .val (.ref a2), .val (.int (Int32.ofNat i)), .val (.int (Int32.ofNat cs.length)), .val (.int (Int32.ofNat i)), .val (.int x)] [(.ref a2)])
    refine Go.of (fun _ hr => XS.iloadN X.here hx rfl (hb hby d6_27) rfl  hr) ?_
    show Go p e s below _ _ _ _ T (mkF m 28 #[.val (.ref a1), .val (.int (Int32.ofNat i)), .val (.ref a2), .val (.int (Int32.ofNat i)), .val (.int (Int32.ofNat cs.length)), .val (.int (Int32.ofNat i)), .val (.int x)] [(.int (Int32.ofNat i)), (.ref a2)])
    refine Go.of (fun _ hr => XS.iload X.here hx rfl (hb hby d6_28) rfl  hr) ?_
    show Go p e s below _ _ _ _ T (mkF m 30 #[.val (.ref a1), .val (.int (Int32.ofNat i)), .val (.ref a2), .val (.int (Int32.ofNat i)), .val (.int (Int32.ofNat cs.length)), .val (.int (Int32.ofNat i)), .val (.int x)] [(.int x), (.int (Int32.ofNat i)), (.ref a2)])
    refine Go.of (fun _ hr => XS.i2b X.here hx rfl (hb hby d6_30) rfl hr) ?_
    show Go p e s below _ _ _ _ T (mkF m 31 #[.val (.ref a1), .val (.int (Int32.ofNat i)), .val (.ref a2), .val (.int (Int32.ofNat i)), .val (.int (Int32.ofNat cs.length)), .val (.int (Int32.ofNat i)), .val (.int x)] [(.int (x.toInt8.toInt32)), (.int (Int32.ofNat i)), (.ref a2)])
    obtain ⟨cl102, Ar102, q102, S102, N102_, H102, G102⟩ := id V2
    have hin102 : ¬ (Int32.ofNat i < 0 ∨ cl102.slots.size ≤ (Int32.ofNat i).toNatClampNeg) := inb_of S102 ⟨oi_nn (by omega), oi_lt (by omega) (by omega) (by omega)⟩
    obtain ⟨T102, h102, X102, e102, W102, st102⟩ := stB X hx hZ eT Ar102 (j := Int32.ofNat i) hin102 (g := (mkF m 31 #[.val (.ref a1), .val (.int (Int32.ofNat i)), .val (.ref a2), .val (.int (Int32.ofNat i)), .val (.int (Int32.ofNat cs.length)), .val (.int (Int32.ofNat i)), .val (.int x)] [(.int (x.toInt8.toInt32)), (.int (Int32.ofNat i)), (.ref a2)])) rfl rfl (hb hby d6_31)
    rw [nar_b] at W102
    have V102 : Arv Z h102 a2 k2 .byte (Int32.ofNat cs.length) ((cs.take (i + 1)).map fun x => Value.int (lo8 x)) (.int 0) := by
        have q := own_push V2 W102 (by rw [oi_nat (by omega)]; simp; omega) (fits_b x)
        rw [← hxe, take_push cs (show i < cs.length by omega) (fun x => Value.int (lo8 x))] at q; exact q
    have N102 := Fr.snoc X102 N0 fr_a2
    have J102 := J0.wr W102 hm_a2
    have B102 := B0.mono (Nat.le_of_eq W102.size.symm)
    have O102 := O0.wr W102 (Nat.le_trans hb0 fr_a2)
    have K102 := K0.wr W102 (Or.inl (List.mem_of_getElem? (i := 0) rfl))
    refine Go.of (fun _ hr => st102 _ hr) ?_
    show Go p e s below _ _ _ _ T102 (mkF m 32 #[.val (.ref a1), .val (.int (Int32.ofNat i)), .val (.ref a2), .val (.int (Int32.ofNat i)), .val (.int (Int32.ofNat cs.length)), .val (.int (Int32.ofNat i)), .val (.int x)] [])
    refine Go.of (fun _ hr => XS.iinc X102.here hx rfl (hb hby d6_32) rfl (l' := #[.val (.ref a1), .val (.int ((Int32.ofNat i) + (1 : Int32))), .val (.ref a2), .val (.int (Int32.ofNat i)), .val (.int (Int32.ofNat cs.length)), .val (.int (Int32.ofNat i)), .val (.int x)]) rfl hr) ?_
    show Go p e s below _ _ _ _ T102 (mkF m 35 #[.val (.ref a1), .val (.int ((Int32.ofNat i) + (1 : Int32))), .val (.ref a2), .val (.int (Int32.ofNat i)), .val (.int (Int32.ofNat cs.length)), .val (.int (Int32.ofNat i)), .val (.int x)] [])
    refine Go.of (fun _ hr => XS.iinc X102.here hx rfl (hb hby d6_35) rfl (l' := #[.val (.ref a1), .val (.int ((Int32.ofNat i) + (1 : Int32))), .val (.ref a2), .val (.int ((Int32.ofNat i) + (1 : Int32))), .val (.int (Int32.ofNat cs.length)), .val (.int (Int32.ofNat i)), .val (.int x)]) rfl hr) ?_
    show Go p e s below _ _ _ _ T102 (mkF m 38 #[.val (.ref a1), .val (.int ((Int32.ofNat i) + (1 : Int32))), .val (.ref a2), .val (.int ((Int32.ofNat i) + (1 : Int32))), .val (.int (Int32.ofNat cs.length)), .val (.int (Int32.ofNat i)), .val (.int x)] [])
    refine Go.of (fun _ hr => XS.iinc X102.here hx rfl (hb hby d6_38) rfl (l' := #[.val (.ref a1), .val (.int ((Int32.ofNat i) + (1 : Int32))), .val (.ref a2), .val (.int ((Int32.ofNat i) + (1 : Int32))), .val (.int (Int32.ofNat cs.length)), .val (.int ((Int32.ofNat i) + (1 : Int32))), .val (.int x)]) rfl hr) ?_
    show Go p e s below _ _ _ _ T102 (mkF m 41 #[.val (.ref a1), .val (.int ((Int32.ofNat i) + (1 : Int32))), .val (.ref a2), .val (.int ((Int32.ofNat i) + (1 : Int32))), .val (.int (Int32.ofNat cs.length)), .val (.int ((Int32.ofNat i) + (1 : Int32))), .val (.int x)] [])
    refine Go.of (fun _ hr => XS.goto X102.here hx rfl (pc0 := 41) (pc' := 3) rfl (hb hby d6_41) (by decide) (by decide) hr) ?_
    show Go p e s below _ _ _ _ T102 (mkF m 3 #[.val (.ref a1), .val (.int ((Int32.ofNat i) + (1 : Int32))), .val (.ref a2), .val (.int ((Int32.ofNat i) + (1 : Int32))), .val (.int (Int32.ofNat cs.length)), .val (.int ((Int32.ofNat i) + (1 : Int32))), .val (.int x)] [])
    simp only [oi_succ (show i + 1 < 2147483648 by omega)]
    have f103 := (V1.other W102 ne12)
    exact ih (i + 1) (by omega) T102 h102 _ _ _ _ (One.val rfl) X102 e102 O102 N102 K102 J102 B102 f103 V102 hK hN

theorem pn0 : plainName "java/lang/StringUTF16" = true := by first | (simp [plainName, overriddenIn]; done) | decide +kernel
theorem d6_0 : decode jdk_52_method_21_code 0 = .ok (.iconst 0, 1) := by decide +kernel
theorem d6_1 : decode jdk_52_method_21_code 1 = .ok (.istore 5, 2) := by decide +kernel
set_option maxRecDepth 65536 in
set_option maxHeartbeats 40000000 in
theorem rm6 (l : Launch) (Z : State) (a0 : Array Value) (hw : ∀ d ∈ tables_1, d.before a0 Z = true) (ws : List Jvm.Cond) (a1 a2 : Addr) (k1 k2 : ClassId) (cs : List Int32) (ms : List Addr) (h0 : Heap) (n0 : Nat) (O0 : Old Z n0 h0) (nb : Nat) (hb0 : n0 ≤ nb) (hnb : nb ≤ h0.size) (fr_a2 : nb ≤ a2) (hm_a2 : a2 ∈ ms) (hn : cs.length ≤ 2) (hr : ∀ x ∈ cs, ¬ x < 0 ∧ ¬ 255 < x) (ne12 : a1 ≠ a2) (V1 : Arv Z h0 a1 k1 .char (Int32.ofNat cs.length) (cs.map Value.int) (.int 0)) (V2 : Arv Z h0 a2 k2 .byte (Int32.ofNat cs.length) [] (.int 0)) :
    Con l Z ms (⟨"java/lang/StringUTF16", "compress", "([CI[BII)I"⟩ : MethodName) jdk_52_method_21_code 7 (some .int) ws ({ frames := 0, cells := 0, slots := 0, locals := 0 } : Room) #[(.ref a1), (.int (0 : Int32)), (.ref a2), (.int (0 : Int32)), (.int (Int32.ofNat cs.length))] h0 (fun v vm h L => v = some (.int (Int32.ofNat cs.length)) ∧ Fr nb L ∧ Keep h0 h [a2] ∧ Arv Z h a2 k2 .byte (Int32.ofNat cs.length) (cs.map fun x => Value.int (lo8 x)) (.int 0)) := by
  refine Con.mk (plainFor_of_name pn0) ?_
  intro p e s m below meth c s₁ Cc X0 e0 eb J0 B0 M0
  obtain ⟨hx, hZ, hown, hby, hml, hnm, hret, hlk⟩ := id Cc
  have N0 := Fr.nil nb
  have K0 := Keep.refl h0 [a2]
  show Go p e s below _ _ _ _ s₁ (mkF m 0 #[.val (.ref a1), .val (.int (0 : Int32)), .val (.ref a2), .val (.int (0 : Int32)), .val (.int (Int32.ofNat cs.length)), .unset, .unset] [])
  refine Go.of (fun _ hr => XS.iconst X0.here hx rfl (hb hby d6_0) hr) ?_
  show Go p e s below _ _ _ _ s₁ (mkF m 1 #[.val (.ref a1), .val (.int (0 : Int32)), .val (.ref a2), .val (.int (0 : Int32)), .val (.int (Int32.ofNat cs.length)), .unset, .unset] [(.int (0 : Int32))])
  refine Go.of (fun _ hr => XS.istore X0.here hx rfl (hb hby d6_1) rfl (l' := #[.val (.ref a1), .val (.int (0 : Int32)), .val (.ref a2), .val (.int (0 : Int32)), .val (.int (Int32.ofNat cs.length)), .val (.int (0 : Int32)), .unset]) rfl hr) ?_
  show Go p e s below _ _ _ _ s₁ (mkF m 3 #[.val (.ref a1), .val (.int (0 : Int32)), .val (.ref a2), .val (.int (0 : Int32)), .val (.int (Int32.ofNat cs.length)), .val (.int (0 : Int32)), .unset] [])
  exact cloop Cc a1 a2 k1 k2 cs hn hr ne12 hb0 hnb fr_a2 hm_a2 (fun vm h L q1 q2 q3 => ⟨rfl, q2, q1, q3⟩) cs.length 0 (Nat.zero_add _) s₁ h0 _ _ _ _ One.u X0 e0 O0 N0 K0 J0 B0 V1 V2 (by decide) (by decide)

theorem d5_0 : decode jdk_52_method_16_code 0 = .ok (.iload_n 2, 1) := by decide +kernel
theorem d5_1 : decode jdk_52_method_16_code 1 = .ok (.newarray .byte, 2) := by decide +kernel
theorem d5_3 : decode jdk_52_method_16_code 3 = .ok (.astore_n 3, 1) := by decide +kernel
theorem d5_4 : decode jdk_52_method_16_code 4 = .ok (.aload_n 0, 1) := by decide +kernel
theorem d5_5 : decode jdk_52_method_16_code 5 = .ok (.iload_n 1, 1) := by decide +kernel
theorem d5_6 : decode jdk_52_method_16_code 6 = .ok (.aload_n 3, 1) := by decide +kernel
theorem d5_7 : decode jdk_52_method_16_code 7 = .ok (.iconst 0, 1) := by decide +kernel
theorem d5_8 : decode jdk_52_method_16_code 8 = .ok (.iload_n 2, 1) := by decide +kernel
theorem d5_9 : decode jdk_52_method_16_code 9 = .ok (.invokestatic 115, 3) := by decide +kernel
theorem pd0 : parseMethodDescriptor "([CI[BII)I" = some ⟨[(.array .char), .int, (.array .byte), .int, .int], some .int⟩ := by decide +kernel
theorem d5_12 : decode jdk_52_method_16_code 12 = .ok (.istore 4, 2) := by decide +kernel
theorem d5_14 : decode jdk_52_method_16_code 14 = .ok (.iload 4, 2) := by decide +kernel
theorem d5_16 : decode jdk_52_method_16_code 16 = .ok (.iload_n 2, 1) := by decide +kernel
theorem d5_17 : decode jdk_52_method_16_code 17 = .ok (.if_icmp .eq 40, 3) := by decide +kernel
theorem d5_57 : decode jdk_52_method_16_code 57 = .ok (.aload_n 3, 1) := by decide +kernel
theorem d5_58 : decode jdk_52_method_16_code 58 = .ok (.areturn, 1) := by decide +kernel
set_option maxRecDepth 65536 in
set_option maxHeartbeats 40000000 in
theorem rm5 (l : Launch) (Z : State) (a0 : Array Value) (hw : ∀ d ∈ tables_1, d.before a0 Z = true) (ws : List Jvm.Cond) (a1 : Addr) (k1 : ClassId) (cs : List Int32) (ms : List Addr) (h0 : Heap) (n0 : Nat) (O0 : Old Z n0 h0) (nb : Nat) (hb0 : n0 ≤ nb) (hnb : nb ≤ h0.size) (hn : cs.length ≤ 2) (hr : ∀ x ∈ cs, ¬ x < 0 ∧ ¬ 255 < x) (V1 : Arv Z h0 a1 k1 .char (Int32.ofNat cs.length) (cs.map Value.int) (.int 0)) :
    Con l Z ms (⟨"java/lang/StringUTF16", "compress", "([CII)[B"⟩ : MethodName) jdk_52_method_16_code 6 (some (.array .byte)) ws ({ frames := 1, cells := 1, slots := 2, locals := 18 } : Room) #[(.ref a1), (.int (0 : Int32)), (.int (Int32.ofNat cs.length))] h0 (fun v vm h L => ∃ d k, v = some (.ref d) ∧ Fr nb L ∧ Ext h0 h ∧ h0.size ≤ d ∧ Arv Z h d k .byte (Int32.ofNat cs.length) (cs.map fun x => Value.int (lo8 x)) (.int 0)) := by
  refine Con.mk (plainFor_of_name pn0) ?_
  intro p e s m below meth c s₁ Cc X0 e0 eb J0 B0 M0
  obtain ⟨hx, hZ, hown, hby, hml, hnm, hret, hlk⟩ := id Cc
  have N0 := Fr.nil h0.size
  have K0 := Keep.refl h0 []
  show Go p e s below _ _ _ _ s₁ (mkF m 0 #[.val (.ref a1), .val (.int (0 : Int32)), .val (.int (Int32.ofNat cs.length)), .unset, .unset, .unset] [])
  refine Go.of (fun _ hr => XS.iloadN X0.here hx rfl (hb hby d5_0) rfl  hr) ?_
  show Go p e s below _ _ _ _ s₁ (mkF m 1 #[.val (.ref a1), .val (.int (0 : Int32)), .val (.int (Int32.ofNat cs.length)), .unset, .unset, .unset] [(.int (Int32.ofNat cs.length))])
  obtain ⟨T101, h101, k101, X101, e101, E101, A101, st101⟩ := newP X0 hx hZ (hw _ (List.mem_of_getElem? (i := 23) rfl)) e0 (g := (mkF m 1 #[.val (.ref a1), .val (.int (0 : Int32)), .val (.int (Int32.ofNat cs.length)), .unset, .unset, .unset] [(.int (Int32.ofNat cs.length))])) rfl (hb hby d5_1) rfl (oi_nn (by omega)) (cap := 2) (by rw [oi_nat (by omega)]; exact hn) (by decide) (by decide) (by decide)
  obtain ⟨o101, g101⟩ : ∃ z, z = h0.size := ⟨_, rfl⟩
  rw [← g101] at A101 st101
  have ne_a1_o101 : a1 ≠ o101 := Nat.ne_of_lt (Nat.lt_of_lt_of_le V1.lt (Nat.le_of_eq g101.symm))
  have V101 := Arv.new A101 (oi_nn (by omega))
  have lt101 : o101 < h101.size := A101.lt
  have J101 := J0.add E101 g101 lt101
  have B101 := B0.mono E101.1
  have O101 := O0.ext E101
  have sz101 : h0.size ≤ o101 := Nat.le_trans K0.1 (Nat.le_of_eq g101.symm)
  have fr101 : h0.size ≤ o101 := sz101
  have K101 := K0.ext E101
  refine Go.of (fun _ hr => st101 _ hr) ?_
  show Go p e s below _ _ _ _ T101 (mkF m 3 #[.val (.ref a1), .val (.int (0 : Int32)), .val (.int (Int32.ofNat cs.length)), .unset, .unset, .unset] [(.ref o101)])
  refine Go.of (fun _ hr => XS.astoreN X101.here hx rfl (hb hby d5_3) rfl rfl (l' := #[.val (.ref a1), .val (.int (0 : Int32)), .val (.int (Int32.ofNat cs.length)), .val (.ref o101), .unset, .unset]) rfl hr) ?_
  show Go p e s below _ _ _ _ T101 (mkF m 4 #[.val (.ref a1), .val (.int (0 : Int32)), .val (.int (Int32.ofNat cs.length)), .val (.ref o101), .unset, .unset] [])
  refine Go.of (fun _ hr => XS.aloadN X101.here hx rfl (hb hby d5_4) rfl rfl hr) ?_
  show Go p e s below _ _ _ _ T101 (mkF m 5 #[.val (.ref a1), .val (.int (0 : Int32)), .val (.int (Int32.ofNat cs.length)), .val (.ref o101), .unset, .unset] [(.ref a1)])
  refine Go.of (fun _ hr => XS.iloadN X101.here hx rfl (hb hby d5_5) rfl  hr) ?_
  show Go p e s below _ _ _ _ T101 (mkF m 6 #[.val (.ref a1), .val (.int (0 : Int32)), .val (.int (Int32.ofNat cs.length)), .val (.ref o101), .unset, .unset] [(.int (0 : Int32)), (.ref a1)])
  refine Go.of (fun _ hr => XS.aloadN X101.here hx rfl (hb hby d5_6) rfl rfl hr) ?_
  show Go p e s below _ _ _ _ T101 (mkF m 7 #[.val (.ref a1), .val (.int (0 : Int32)), .val (.int (Int32.ofNat cs.length)), .val (.ref o101), .unset, .unset] [(.ref o101), (.int (0 : Int32)), (.ref a1)])
  refine Go.of (fun _ hr => XS.iconst X101.here hx rfl (hb hby d5_7) hr) ?_
  show Go p e s below _ _ _ _ T101 (mkF m 8 #[.val (.ref a1), .val (.int (0 : Int32)), .val (.int (Int32.ofNat cs.length)), .val (.ref o101), .unset, .unset] [(.int (0 : Int32)), (.ref o101), (.int (0 : Int32)), (.ref a1)])
  refine Go.of (fun _ hr => XS.iloadN X101.here hx rfl (hb hby d5_8) rfl  hr) ?_
  show Go p e s below _ _ _ _ T101 (mkF m 9 #[.val (.ref a1), .val (.int (0 : Int32)), .val (.int (Int32.ofNat cs.length)), .val (.ref o101), .unset, .unset] [(.int (Int32.ofNat cs.length)), (.int (0 : Int32)), (.ref o101), (.int (0 : Int32)), (.ref a1)])
  have f103 := (V1.ext E101)
  obtain ⟨_, b102, T102, h102, L102, e102, Cc102, X102, B102, J102, g102, hQ102, st102⟩ := own_callS Cc B101 J101 X101 (hw _ (List.mem_of_getElem? (i := 24) rfl)) (hw _ (List.mem_of_getElem? (i := 25) rfl)) (hw _ (List.mem_of_getElem? (i := 21) rfl)) (hw _ (List.mem_of_getElem? (i := 26) rfl)) (by decide) (rm6 l Z a0 hw [] a1 o101 _ _ cs _ h101 n0 O101 h0.size (own_ole O0) K101.1 fr101 (List.mem_cons_self ..) hn hr ne_a1_o101 f103 V101) e101 (g := (mkF m 9 #[.val (.ref a1), .val (.int (0 : Int32)), .val (.int (Int32.ofNat cs.length)), .val (.ref o101), .unset, .unset] [(.int (Int32.ofNat cs.length)), (.int (0 : Int32)), (.ref o101), (.int (0 : Int32)), (.ref a1)])) rfl (by rw [hml]; rfl) (argsL := [(.ref a1), (.int (0 : Int32)), (.ref o101), (.int (0 : Int32)), (.int (Int32.ofNat cs.length))]) (rest := []) (lenOf pd0 rfl) rfl (W := 0) (by show 2 * 0 + _ ≤ _; exact Nat.le_of_eq rfl) (hb hby d5_9) (by decide) (by decide) (by decide) (by decide)
  obtain ⟨rfl, Nq102, Kq102, Vd102⟩ := hQ102
  have N102 := Fr.app N0 Nq102
  obtain ⟨hx, hZ, hown, hby, hml, hnm, hret, hlk⟩ := id Cc102
  have K102 := K101.trans Kq102 (allS (Or.inr sz101) all0)
  have O102 := O101.keep Kq102 (allS (Nat.le_trans (own_ole O0) fr101) all0)
  refine Go.of st102 ?_
  show Go p e s below _ _ _ _ T102 (mkF m 12 #[.val (.ref a1), .val (.int (0 : Int32)), .val (.int (Int32.ofNat cs.length)), .val (.ref o101), .unset, .unset] [(.int (Int32.ofNat cs.length))])
  refine Go.of (fun _ hr => XS.istore X102.here hx rfl (hb hby d5_12) rfl (l' := #[.val (.ref a1), .val (.int (0 : Int32)), .val (.int (Int32.ofNat cs.length)), .val (.ref o101), .val (.int (Int32.ofNat cs.length)), .unset]) rfl hr) ?_
  show Go p e s below _ _ _ _ T102 (mkF m 14 #[.val (.ref a1), .val (.int (0 : Int32)), .val (.int (Int32.ofNat cs.length)), .val (.ref o101), .val (.int (Int32.ofNat cs.length)), .unset] [])
  refine Go.of (fun _ hr => XS.iload X102.here hx rfl (hb hby d5_14) rfl  hr) ?_
  show Go p e s below _ _ _ _ T102 (mkF m 16 #[.val (.ref a1), .val (.int (0 : Int32)), .val (.int (Int32.ofNat cs.length)), .val (.ref o101), .val (.int (Int32.ofNat cs.length)), .unset] [(.int (Int32.ofNat cs.length))])
  refine Go.of (fun _ hr => XS.iloadN X102.here hx rfl (hb hby d5_16) rfl  hr) ?_
  show Go p e s below _ _ _ _ T102 (mkF m 17 #[.val (.ref a1), .val (.int (0 : Int32)), .val (.int (Int32.ofNat cs.length)), .val (.ref o101), .val (.int (Int32.ofNat cs.length)), .unset] [(.int (Int32.ofNat cs.length)), (.int (Int32.ofNat cs.length))])
  refine Go.of (fun _ hr => XS.icmpYes X102.here hx rfl (pc0 := 17) (pc' := 57) rfl (hb hby d5_17) rfl (teq rfl).1 (by decide) (by decide) hr) ?_
  show Go p e s below _ _ _ _ T102 (mkF m 57 #[.val (.ref a1), .val (.int (0 : Int32)), .val (.int (Int32.ofNat cs.length)), .val (.ref o101), .val (.int (Int32.ofNat cs.length)), .unset] [])
  refine Go.of (fun _ hr => XS.aloadN X102.here hx rfl (hb hby d5_57) rfl rfl hr) ?_
  show Go p e s below _ _ _ _ T102 (mkF m 58 #[.val (.ref a1), .val (.int (0 : Int32)), .val (.int (Int32.ofNat cs.length)), .val (.ref o101), .val (.int (Int32.ofNat cs.length)), .unset] [(.ref o101)])
  exact Go.retA X102 hx hlk B102 (J102.sub fun x hx => (List.mem_cons_of_mem _ hx)) e102 hret rfl rfl (hb hby d5_58) (by decide) (by decide) (fun vm_ hw_ => ⟨_, _, rfl, (fun y hy => Nat.le_trans hnb (N102 y hy)), keep_ext K102, sz101, Vd102⟩)

theorem d7_0 : decode jdk_52_method_15_code 0 = .ok (.iload_n 1, 1) := by decide +kernel
theorem d7_1 : decode jdk_52_method_15_code 1 = .ok (.aload_n 0, 1) := by decide +kernel
theorem d7_2 : decode jdk_52_method_15_code 2 = .ok (.arraylength, 1) := by decide +kernel
theorem d7_3 : decode jdk_52_method_15_code 3 = .ok (.isub, 1) := by decide +kernel
theorem d7_4 : decode jdk_52_method_15_code 4 = .ok (.bipush 31, 2) := by decide +kernel
theorem d7_6 : decode jdk_52_method_15_code 6 = .ok (.iushr, 1) := by decide +kernel
theorem d7_7 : decode jdk_52_method_15_code 7 = .ok (.i2b, 1) := by decide +kernel
theorem d7_8 : decode jdk_52_method_15_code 8 = .ok (.ireturn, 1) := by decide +kernel
set_option maxRecDepth 65536 in
set_option maxHeartbeats 40000000 in
theorem rm7 (l : Launch) (Z : State) (a0 : Array Value) (hw : ∀ d ∈ tables_1, d.before a0 Z = true) (ws : List Jvm.Cond) (a1 : Addr) (k1 : ClassId) (z1 : Int32) (vs : List Value) (dv : Value) (ms : List Addr) (h0 : Heap) (n0 : Nat) (O0 : Old Z n0 h0) (nb : Nat) (hb0 : n0 ≤ nb) (hnb : nb ≤ h0.size) (V1 : Arv Z h0 a1 k1 .byte z1 vs dv) :
    Con l Z ms (⟨"java/lang/StringUTF16", "coderFromArrayLen", "([BI)B"⟩ : MethodName) jdk_52_method_15_code 2 (some .byte) ws ({ frames := 0, cells := 0, slots := 0, locals := 0 } : Room) #[(.ref a1), (.int z1)] h0 (fun v vm h L => v = some (.int 0) ∧ Fr nb L ∧ h = h0) := by
  refine Con.mk (plainFor_of_name pn0) ?_
  intro p e s m below meth c s₁ Cc X0 e0 eb J0 B0 M0
  obtain ⟨hx, hZ, hown, hby, hml, hnm, hret, hlk⟩ := id Cc
  have N0 := Fr.nil h0.size
  have K0 := Keep.refl h0 []
  show Go p e s below _ _ _ _ s₁ (mkF m 0 #[.val (.ref a1), .val (.int z1)] [])
  refine Go.of (fun _ hr => XS.iloadN X0.here hx rfl (hb hby d7_0) rfl  hr) ?_
  show Go p e s below _ _ _ _ s₁ (mkF m 1 #[.val (.ref a1), .val (.int z1)] [(.int z1)])
  refine Go.of (fun _ hr => XS.aloadN X0.here hx rfl (hb hby d7_1) rfl rfl hr) ?_
  show Go p e s below _ _ _ _ s₁ (mkF m 2 #[.val (.ref a1), .val (.int z1)] [(.ref a1), (.int z1)])
  obtain ⟨cl101, Ar101, q101, S101, N101_, H101, G101⟩ := id V1
  refine Go.of (fun _ hr => X0.arraylength hx (by rw [e0]; exact Ar101.1) (State.isArrayOf_alike hZ.alike Ar101.2.1) (g := (mkF m 2 #[.val (.ref a1), .val (.int z1)] [(.ref a1), (.int z1)])) rfl rfl (hb hby d7_2) _ hr) ?_
  rw [len_of S101 N101_]
  show Go p e s below _ _ _ _ s₁ (mkF m 3 #[.val (.ref a1), .val (.int z1)] [(.int z1), (.int z1)])
  refine Go.of (fun _ hr => XS.isub X0.here hx rfl (hb hby d7_3) rfl hr) ?_
  show Go p e s below _ _ _ _ s₁ (mkF m 4 #[.val (.ref a1), .val (.int z1)] [(.int (z1 - z1))])
  rw [Int32.sub_self]
  show Go p e s below _ _ _ _ s₁ (mkF m 4 #[.val (.ref a1), .val (.int z1)] [(.int (0 : Int32))])
  refine Go.of (fun _ hr => XS.bipush X0.here hx rfl (hb hby d7_4) hr) ?_
  show Go p e s below _ _ _ _ s₁ (mkF m 6 #[.val (.ref a1), .val (.int z1)] [(.int (31 : Int32)), (.int (0 : Int32))])
  refine Go.of (fun _ hr => XS.iushr X0.here hx rfl (hb hby d7_6) rfl hr) ?_
  show Go p e s below _ _ _ _ s₁ (mkF m 7 #[.val (.ref a1), .val (.int z1)] [(.int (((0 : Int32).toUInt32 >>> ((31 : Int32) &&& 31).toUInt32).toInt32))])
  refine Go.of (fun _ hr => XS.i2b X0.here hx rfl (hb hby d7_7) rfl hr) ?_
  show Go p e s below _ _ _ _ s₁ (mkF m 8 #[.val (.ref a1), .val (.int z1)] [(.int ((((0 : Int32).toUInt32 >>> ((31 : Int32) &&& 31).toUInt32).toInt32).toInt8.toInt32))])
  exact Go.retN X0 hx hlk B0 J0 e0 (t := .byte) (z' := ((((0 : Int32).toUInt32 >>> ((31 : Int32) &&& 31).toUInt32).toInt32).toInt8.toInt32)) hret (by simp) (hb hby d7_8) (by decide) (by decide) (by decide) (fun vm_ hw_ => ⟨rfl, (fun y hy => Nat.le_trans hnb (N0 y hy)), rfl⟩)

theorem pn1 : plainName "java/lang/String" = true := by first | (simp [plainName, overriddenIn]; done) | decide +kernel
theorem d3_0 : decode jdk_42_method_149_code 0 = .ok (.aload_n 0, 1) := by decide +kernel
theorem d3_1 : decode jdk_42_method_149_code 1 = .ok (.invokespecial 1, 3) := by decide +kernel
theorem d3_4 : decode jdk_42_method_149_code 4 = .ok (.iload_n 3, 1) := by decide +kernel
theorem d3_5 : decode jdk_42_method_149_code 5 = .ok (.ifCond .ne 22, 3) := by decide +kernel
theorem d3_8 : decode jdk_42_method_149_code 8 = .ok (.aload_n 0, 1) := by decide +kernel
theorem d3_9 : decode jdk_42_method_149_code 9 = .ok (.ldc 7, 2) := by decide +kernel
theorem d3_11 : decode jdk_42_method_149_code 11 = .ok (.getfield 9, 3) := by decide +kernel
theorem d3_14 : decode jdk_42_method_149_code 14 = .ok (.putfield 9, 3) := by decide +kernel
theorem d3_17 : decode jdk_42_method_149_code 17 = .ok (.aload_n 0, 1) := by decide +kernel
theorem d3_18 : decode jdk_42_method_149_code 18 = .ok (.ldc 7, 2) := by decide +kernel
theorem d3_20 : decode jdk_42_method_149_code 20 = .ok (.getfield 15, 3) := by decide +kernel
theorem d3_23 : decode jdk_42_method_149_code 23 = .ok (.putfield 15, 3) := by decide +kernel
theorem d3_26 : decode jdk_42_method_149_code 26 = .ok (.return_, 1) := by decide +kernel
theorem d3_27 : decode jdk_42_method_149_code 27 = .ok (.getstatic 38, 3) := by decide +kernel
theorem d3_30 : decode jdk_42_method_149_code 30 = .ok (.ifCond .eq 28, 3) := by decide +kernel
theorem d3_33 : decode jdk_42_method_149_code 33 = .ok (.aload_n 1, 1) := by decide +kernel
theorem d3_34 : decode jdk_42_method_149_code 34 = .ok (.iload_n 2, 1) := by decide +kernel
theorem d3_35 : decode jdk_42_method_149_code 35 = .ok (.iload_n 3, 1) := by decide +kernel
theorem d3_36 : decode jdk_42_method_149_code 36 = .ok (.invokestatic 177, 3) := by decide +kernel
theorem pd1 : parseMethodDescriptor "([CII)[B" = some ⟨[(.array .char), .int, .int], some (.array .byte)⟩ := by decide +kernel
theorem d3_39 : decode jdk_42_method_149_code 39 = .ok (.astore 5, 2) := by decide +kernel
theorem d3_41 : decode jdk_42_method_149_code 41 = .ok (.aload_n 0, 1) := by decide +kernel
theorem d3_42 : decode jdk_42_method_149_code 42 = .ok (.aload 5, 2) := by decide +kernel
theorem d3_44 : decode jdk_42_method_149_code 44 = .ok (.iload_n 3, 1) := by decide +kernel
theorem d3_45 : decode jdk_42_method_149_code 45 = .ok (.invokestatic 47, 3) := by decide +kernel
theorem pd2 : parseMethodDescriptor "([BI)B" = some ⟨[(.array .byte), .int], some .byte⟩ := by decide +kernel
theorem d3_48 : decode jdk_42_method_149_code 48 = .ok (.putfield 15, 3) := by decide +kernel
theorem d3_51 : decode jdk_42_method_149_code 51 = .ok (.aload_n 0, 1) := by decide +kernel
theorem d3_52 : decode jdk_42_method_149_code 52 = .ok (.aload 5, 2) := by decide +kernel
theorem d3_54 : decode jdk_42_method_149_code 54 = .ok (.putfield 9, 3) := by decide +kernel
theorem d3_57 : decode jdk_42_method_149_code 57 = .ok (.return_, 1) := by decide +kernel
set_option maxRecDepth 65536 in
set_option maxHeartbeats 40000000 in
theorem rm3 (l : Launch) (Z : State) (a0 : Array Value) (hw : ∀ d ∈ tables_1, d.before a0 Z = true) (ws : List Jvm.Cond) (a1 a2 : Addr) (k2 : ClassId) (cs : List Int32) (u1 u2 : Value) (zc : Int32) (ms : List Addr) (h0 : Heap) (n0 : Nat) (O0 : Old Z n0 h0) (nb : Nat) (hb0 : n0 ≤ nb) (hnb : nb ≤ h0.size) (fr_a1 : nb ≤ a1) (hm_a1 : a1 ∈ ms) (hn : cs.length ≤ 2) (hr : ∀ x ∈ cs, ¬ x < 0 ∧ ¬ 255 < x) (V1 : Arv Z h0 a2 k2 .char (Int32.ofNat cs.length) (cs.map Value.int) (.int 0)) (ne12 : a2 ≠ a1) (E1 : Exa Z h0 a1 "java/lang/String") (F1 : Fld Z h0 a1 "java/lang/String" "value" "[B" u1) (F2 : Fld Z h0 a1 "java/lang/String" "coder" "B" u2) (S_C : Sta Z Z.heap "java/lang/String" "COMPACT_STRINGS" "Z" (.int zc)) (hzc : ¬ zc = 0) :
    Con l Z ms (⟨"java/lang/String", "<init>", "([CIILjava/lang/Void;)V"⟩ : MethodName) jdk_42_method_149_code 6 none ws ({ frames := 2, cells := 2, slots := 4, locals := 35 } : Room) #[(.ref a1), (.ref a2), (.int (0 : Int32)), (.int (Int32.ofNat cs.length)), .null] h0 (fun v vm h L => v = none ∧ Fr nb L ∧ Keep h0 h [a1] ∧ ∃ t k, t ∉ ms ∧ Fld Z h a1 "java/lang/String" "value" "[B" (.ref t) ∧ Fld Z h a1 "java/lang/String" "coder" "B" (.int 0) ∧ Arv Z h t k .byte (Int32.ofNat (cs.map lo8).length) ((cs.map lo8).map Value.int) (.int 0)) := by
  refine Con.mk (plainFor_of_name pn1) ?_
  intro p e s m below meth c s₁ Cc X0 e0 eb J0 B0 M0
  obtain ⟨hx, hZ, hown, hby, hml, hnm, hret, hlk⟩ := id Cc
  have N0 := Fr.nil nb
  have K0 := Keep.refl h0 [a1]
  show Go p e s below _ _ _ _ s₁ (mkF m 0 #[.val (.ref a1), .val (.ref a2), .val (.int (0 : Int32)), .val (.int (Int32.ofNat cs.length)), .val .null, .unset] [])
  refine Go.of (fun _ hr => XS.aloadN X0.here hx rfl (hb hby d3_0) rfl rfl hr) ?_
  show Go p e s below _ _ _ _ s₁ (mkF m 1 #[.val (.ref a1), .val (.ref a2), .val (.int (0 : Int32)), .val (.int (Int32.ofNat cs.length)), .val .null, .unset] [(.ref a1)])
  obtain ⟨T101, X101, e101, st101⟩ := initO X0 hx hZ hown (hw _ (List.mem_of_getElem? (i := 15) rfl)) (hw _ (List.mem_of_getElem? (i := 16) rfl)) (hw _ (List.mem_of_getElem? (i := 17) rfl)) e0 (g := (mkF m 1 #[.val (.ref a1), .val (.ref a2), .val (.int (0 : Int32)), .val (.int (Int32.ofNat cs.length)), .val .null, .unset] [(.ref a1)])) rfl (by rw [hml]; rfl) rfl (hb hby d3_1) (by decide) (W := 0) (by show 2 * 0 + _ ≤ _; exact Nat.le_of_eq rfl) (by decide)
  refine Go.of (fun _ hr => st101 _ hr) ?_
  show Go p e s below _ _ _ _ T101 (mkF m 4 #[.val (.ref a1), .val (.ref a2), .val (.int (0 : Int32)), .val (.int (Int32.ofNat cs.length)), .val .null, .unset] [])
  refine Go.of (fun _ hr => XS.iloadN X101.here hx rfl (hb hby d3_4) rfl  hr) ?_
  show Go p e s below _ _ _ _ T101 (mkF m 5 #[.val (.ref a1), .val (.ref a2), .val (.int (0 : Int32)), .val (.int (Int32.ofNat cs.length)), .val .null, .unset] [(.int (Int32.ofNat cs.length))])
  by_cases hb5_102 : (Int32.ofNat cs.length) = (0 : Int32)
  · refine Go.of (fun _ hr => XS.ifNo X101.here hx rfl (hb hby d3_5) rfl ((if0 _ _).trans (teq hb5_102).2) hr) ?_
    show Go p e s below _ _ _ _ T101 (mkF m 8 #[.val (.ref a1), .val (.ref a2), .val (.int (0 : Int32)), .val (.int (Int32.ofNat cs.length)), .val .null, .unset] [])
    refine Go.of (fun _ hr => XS.aloadN X101.here hx rfl (hb hby d3_8) rfl rfl hr) ?_
    show Go p e s below _ _ _ _ T101 (mkF m 9 #[.val (.ref a1), .val (.ref a2), .val (.int (0 : Int32)), .val (.int (Int32.ofNat cs.length)), .val .null, .unset] [(.ref a1)])
    obtain ⟨o103, t103, k103, b103, T103, h103, e103, Cc103, X103, B103, J103, E103, Sy103, na103, nt103, lt103, st103⟩ := own_ldcV Cc B0 J0 X101 lit0_in lit0_one (hw _ (List.mem_of_getElem? (i := 34) rfl)) (own_wS Z a0 hw) lit0_lat lit0_len (Fr.nil _) (by rw [eb]; exact O0.2) e101 (g := (mkF m 9 #[.val (.ref a1), .val (.ref a2), .val (.int (0 : Int32)), .val (.int (Int32.ofNat cs.length)), .val .null, .unset] [(.ref a1)])) rfl (hb hby d3_9) (n := 0) lit0_sz (by decide) (by decide) (by decide)
    obtain ⟨hx, hZ, hown, hby, hml, hnm, hret, hlk⟩ := id Cc103
    have K103 := K0.ext E103
    have O103 := O0.ext E103
    have nx_o103_a1 : o103 ≠ a1 := fun q => na103 (by rw [q]; exact hm_a1)
    have nx_t103_a1 : t103 ≠ a1 := fun q => nt103 (by rw [q]; exact hm_a1)
    refine Go.of (fun _ hr => st103 _ hr) ?_
    show Go p e s below _ _ _ _ T103 (mkF m 11 #[.val (.ref a1), .val (.ref a2), .val (.int (0 : Int32)), .val (.int (Int32.ofNat cs.length)), .val .null, .unset] [(.ref o103), (.ref a1)])
    obtain ⟨T104, X104, e104, st104⟩ := getF X103 hx hZ hown (host := "") (Or.inl (hw _ (List.mem_of_getElem? (i := 32) rfl))) Via.refl e103 Sy103.2.2.1 (g := (mkF m 11 #[.val (.ref a1), .val (.ref a2), .val (.int (0 : Int32)), .val (.int (Int32.ofNat cs.length)), .val .null, .unset] [(.ref o103), (.ref a1)])) rfl rfl (hb hby d3_11)
    refine Go.of (fun _ hr => st104 _ hr) ?_
    show Go p e s below _ _ _ _ T104 (mkF m 14 #[.val (.ref a1), .val (.ref a2), .val (.int (0 : Int32)), .val (.int (Int32.ofNat cs.length)), .val .null, .unset] [(.ref t103), (.ref a1)])
    have f106 := (F1.ext E103)
    have f107 := (E1.ext E103)
    obtain ⟨T105, h105, X105, e105, W105, st105⟩ := putF X104 hx hZ hown (host := "") (Or.inl (hw _ (List.mem_of_getElem? (i := 32) rfl))) Via.refl e104 f106 f107 (Or.inr ⟨(hw _ (List.mem_of_getElem? (i := 33) rfl)), rfl, hnm⟩) (hw _ (List.mem_of_getElem? (i := 5) rfl)) (ty := (.array .byte)) (by decide) rfl rfl (g := (mkF m 14 #[.val (.ref a1), .val (.ref a2), .val (.int (0 : Int32)), .val (.int (Int32.ofNat cs.length)), .val .null, .unset] [(.ref t103), (.ref a1)])) rfl rfl (hb hby d3_14)
    have N105 := Fr.snoc X105 N0 fr_a1
    have J105 := J103.wr W105 hm_a1
    have B105 := B103.mono (Nat.le_of_eq W105.size.symm)
    have O105 := O103.wr W105 (Nat.le_trans hb0 fr_a1)
    have K105 := K103.wr W105 (Or.inl (List.mem_of_getElem? (i := 0) rfl))
    have Fw105 := f106.same W105
    refine Go.of (fun _ hr => st105 _ hr) ?_
    show Go p e s below _ _ _ _ T105 (mkF m 17 #[.val (.ref a1), .val (.ref a2), .val (.int (0 : Int32)), .val (.int (Int32.ofNat cs.length)), .val .null, .unset] [])
    refine Go.of (fun _ hr => XS.aloadN X105.here hx rfl (hb hby d3_17) rfl rfl hr) ?_
    show Go p e s below _ _ _ _ T105 (mkF m 18 #[.val (.ref a1), .val (.ref a2), .val (.int (0 : Int32)), .val (.int (Int32.ofNat cs.length)), .val .null, .unset] [(.ref a1)])
    refine Go.of (own_ldcA Cc103 X105 B105 (hw _ (List.mem_of_getElem? (i := 34) rfl)) lt103 (g := (mkF m 18 #[.val (.ref a1), .val (.ref a2), .val (.int (0 : Int32)), .val (.int (Int32.ofNat cs.length)), .val .null, .unset] [(.ref a1)])) rfl (hb hby d3_18)) ?_
    show Go p e s below _ _ _ _ T105 (mkF m 20 #[.val (.ref a1), .val (.ref a2), .val (.int (0 : Int32)), .val (.int (Int32.ofNat cs.length)), .val .null, .unset] [(.ref o103), (.ref a1)])
    have f110 := (Sy103.2.1.other W105 (Or.inl nx_o103_a1))
    obtain ⟨T109, X109, e109, st109⟩ := getF X105 hx hZ hown (host := "") (Or.inl (hw _ (List.mem_of_getElem? (i := 30) rfl))) Via.refl e105 f110 (g := (mkF m 20 #[.val (.ref a1), .val (.ref a2), .val (.int (0 : Int32)), .val (.int (Int32.ofNat cs.length)), .val .null, .unset] [(.ref o103), (.ref a1)])) rfl rfl (hb hby d3_20)
    refine Go.of (fun _ hr => st109 _ hr) ?_
    show Go p e s below _ _ _ _ T109 (mkF m 23 #[.val (.ref a1), .val (.ref a2), .val (.int (0 : Int32)), .val (.int (Int32.ofNat cs.length)), .val .null, .unset] [(.int (0 : Int32)), (.ref a1)])
    have f112 := ((F2.ext E103).other W105 (Or.inr (slot_ne (Or.inr (hw _ (List.mem_of_getElem? (i := 31) rfl))) (Or.inr (hw _ (List.mem_of_getElem? (i := 33) rfl))) (by decide) (t := .byte) (t' := (.array .byte)) (by decide) (by decide))))
    have f113 := (f107.wr W105)
    obtain ⟨T111, h111, X111, e111, W111, st111⟩ := putFN X109 hx hZ hown (hw _ (List.mem_of_getElem? (i := 30) rfl)) Via.refl e109 f112 f113 (Or.inr ⟨(hw _ (List.mem_of_getElem? (i := 31) rfl)), rfl, hnm⟩) (hw _ (List.mem_of_getElem? (i := 5) rfl)) (ty := .byte) (v := (.int (0 : Int32))) (v' := (.int (0 : Int32))) (by decide) rfl rfl (g := (mkF m 23 #[.val (.ref a1), .val (.ref a2), .val (.int (0 : Int32)), .val (.int (Int32.ofNat cs.length)), .val .null, .unset] [(.int (0 : Int32)), (.ref a1)])) rfl rfl (hb hby d3_23)
    have N111 := Fr.snoc X111 N105 fr_a1
    have J111 := J105.wr W111 hm_a1
    have B111 := B105.mono (Nat.le_of_eq W111.size.symm)
    have O111 := O105.wr W111 (Nat.le_trans hb0 fr_a1)
    have K111 := K105.wr W111 (Or.inl (List.mem_of_getElem? (i := 0) rfl))
    have Fw111 := f112.same W111
    refine Go.of (fun _ hr => st111 _ hr) ?_
    show Go p e s below _ _ _ _ T111 (mkF m 26 #[.val (.ref a1), .val (.ref a2), .val (.int (0 : Int32)), .val (.int (Int32.ofNat cs.length)), .val .null, .unset] [])
    have f114 := ((Sy103.2.2.2.other W105 nx_t103_a1).other W111 nx_t103_a1)
    have f115 := (Fw105.other W111 (Or.inr (slot_ne (Or.inr (hw _ (List.mem_of_getElem? (i := 33) rfl))) (Or.inr (hw _ (List.mem_of_getElem? (i := 31) rfl))) (by decide) (t := (.array .byte)) (t' := .byte) (by decide) (by decide))))
    exact Go.retV X111 hx hlk B111 J111 e111 hret (hb hby d3_26) (by decide) (by decide) (fun vm_ hw_ => ⟨rfl, N111, K111, _, _, (fun hz => nt103 hz), f115, Fw111, asN f114 (oi_nil hn hb5_102)⟩)
  · refine Go.of (fun _ hr => XS.ifYes X101.here hx rfl (pc0 := 5) (pc' := 27) rfl (hb hby d3_5) rfl ((if0 _ _).trans (feq hb5_102).2) (by decide) (by decide) hr) ?_
    show Go p e s below _ _ _ _ T101 (mkF m 27 #[.val (.ref a1), .val (.ref a2), .val (.int (0 : Int32)), .val (.int (Int32.ofNat cs.length)), .val .null, .unset] [])
    obtain ⟨T116, X116, e116, st116⟩ := getS2 X101 hx hZ hown (host := "") (Or.inl (hw _ (List.mem_of_getElem? (i := 18) rfl))) Via.refl e101 (S_C.ext O0.2) (g := (mkF m 27 #[.val (.ref a1), .val (.ref a2), .val (.int (0 : Int32)), .val (.int (Int32.ofNat cs.length)), .val .null, .unset] [])) rfl (hb hby d3_27)
    refine Go.of (fun _ hr => st116 _ hr) ?_
    show Go p e s below _ _ _ _ T116 (mkF m 30 #[.val (.ref a1), .val (.ref a2), .val (.int (0 : Int32)), .val (.int (Int32.ofNat cs.length)), .val .null, .unset] [(.int zc)])
    refine Go.of (fun _ hr => XS.ifNo X116.here hx rfl (hb hby d3_30) rfl ((if0 _ _).trans (feq hzc).1) hr) ?_
    show Go p e s below _ _ _ _ T116 (mkF m 33 #[.val (.ref a1), .val (.ref a2), .val (.int (0 : Int32)), .val (.int (Int32.ofNat cs.length)), .val .null, .unset] [])
    refine Go.of (fun _ hr => XS.aloadN X116.here hx rfl (hb hby d3_33) rfl rfl hr) ?_
    show Go p e s below _ _ _ _ T116 (mkF m 34 #[.val (.ref a1), .val (.ref a2), .val (.int (0 : Int32)), .val (.int (Int32.ofNat cs.length)), .val .null, .unset] [(.ref a2)])
    refine Go.of (fun _ hr => XS.iloadN X116.here hx rfl (hb hby d3_34) rfl  hr) ?_
    show Go p e s below _ _ _ _ T116 (mkF m 35 #[.val (.ref a1), .val (.ref a2), .val (.int (0 : Int32)), .val (.int (Int32.ofNat cs.length)), .val .null, .unset] [(.int (0 : Int32)), (.ref a2)])
    refine Go.of (fun _ hr => XS.iloadN X116.here hx rfl (hb hby d3_35) rfl  hr) ?_
    show Go p e s below _ _ _ _ T116 (mkF m 36 #[.val (.ref a1), .val (.ref a2), .val (.int (0 : Int32)), .val (.int (Int32.ofNat cs.length)), .val .null, .unset] [(.int (Int32.ofNat cs.length)), (.int (0 : Int32)), (.ref a2)])
    obtain ⟨_, b117, T117, h117, L117, e117, Cc117, X117, B117, J117, g117, hQ117, st117⟩ := own_callS Cc B0 J0 X116 (hw _ (List.mem_of_getElem? (i := 19) rfl)) (hw _ (List.mem_of_getElem? (i := 20) rfl)) (hw _ (List.mem_of_getElem? (i := 21) rfl)) (hw _ (List.mem_of_getElem? (i := 22) rfl)) (by decide) (rm5 l Z a0 hw [] a2 _ cs _ h0 n0 O0 h0.size (own_ole O0) K0.1 hn hr V1) e116 (g := (mkF m 36 #[.val (.ref a1), .val (.ref a2), .val (.int (0 : Int32)), .val (.int (Int32.ofNat cs.length)), .val .null, .unset] [(.int (Int32.ofNat cs.length)), (.int (0 : Int32)), (.ref a2)])) rfl (by rw [hml]; rfl) (argsL := [(.ref a2), (.int (0 : Int32)), (.int (Int32.ofNat cs.length))]) (rest := []) (lenOf pd1 rfl) rfl (W := 0) (by show 2 * 0 + _ ≤ _; exact Nat.le_of_eq rfl) (hb hby d3_36) (by decide) (by decide) (by decide) (by decide)
    obtain ⟨r117, kr117, rfl, Nq117, Eq117, R_r117, Vr117⟩ := hQ117
    have N117 := Fr.app N0 (show Fr nb _ from fun y hy => Nat.le_trans hnb (Nq117 y hy))
    have NS117 := Fr.app (Fr.nil _) Nq117
    obtain ⟨hx, hZ, hown, hby, hml, hnm, hret, hlk⟩ := id Cc117
    have sz_r117 : h0.size ≤ r117 := Nat.le_trans K0.1 R_r117
    have fr_r117 : nb ≤ r117 := Nat.le_trans hnb sz_r117
    have ne_a1_r117 : a1 ≠ r117 := Nat.ne_of_lt (Nat.lt_of_lt_of_le E1.lt R_r117)
    have ne_a2_r117 : a2 ≠ r117 := Nat.ne_of_lt (Nat.lt_of_lt_of_le V1.lt R_r117)
    have K117 := K0.ext Eq117
    have O117 := O0.ext Eq117
    refine Go.of st117 ?_
    show Go p e s below _ _ _ _ T117 (mkF m 39 #[.val (.ref a1), .val (.ref a2), .val (.int (0 : Int32)), .val (.int (Int32.ofNat cs.length)), .val .null, .unset] [(.ref r117)])
    refine Go.of (fun _ hr => XS.astore X117.here hx rfl (hb hby d3_39) rfl rfl (l' := #[.val (.ref a1), .val (.ref a2), .val (.int (0 : Int32)), .val (.int (Int32.ofNat cs.length)), .val .null, .val (.ref r117)]) rfl hr) ?_
    show Go p e s below _ _ _ _ T117 (mkF m 41 #[.val (.ref a1), .val (.ref a2), .val (.int (0 : Int32)), .val (.int (Int32.ofNat cs.length)), .val .null, .val (.ref r117)] [])
    refine Go.of (fun _ hr => XS.aloadN X117.here hx rfl (hb hby d3_41) rfl rfl hr) ?_
    show Go p e s below _ _ _ _ T117 (mkF m 42 #[.val (.ref a1), .val (.ref a2), .val (.int (0 : Int32)), .val (.int (Int32.ofNat cs.length)), .val .null, .val (.ref r117)] [(.ref a1)])
    refine Go.of (fun _ hr => XS.aload X117.here hx rfl (hb hby d3_42) rfl rfl hr) ?_
    show Go p e s below _ _ _ _ T117 (mkF m 44 #[.val (.ref a1), .val (.ref a2), .val (.int (0 : Int32)), .val (.int (Int32.ofNat cs.length)), .val .null, .val (.ref r117)] [(.ref r117), (.ref a1)])
    refine Go.of (fun _ hr => XS.iloadN X117.here hx rfl (hb hby d3_44) rfl  hr) ?_
    show Go p e s below _ _ _ _ T117 (mkF m 45 #[.val (.ref a1), .val (.ref a2), .val (.int (0 : Int32)), .val (.int (Int32.ofNat cs.length)), .val .null, .val (.ref r117)] [(.int (Int32.ofNat cs.length)), (.ref r117), (.ref a1)])
    obtain ⟨_, b118, T118, h118, L118, e118, Cc118, X118, B118, J118, g118, hQ118, st118⟩ := own_callS Cc117 B117 J117 X117 (hw _ (List.mem_of_getElem? (i := 27) rfl)) (hw _ (List.mem_of_getElem? (i := 28) rfl)) (hw _ (List.mem_of_getElem? (i := 21) rfl)) (hw _ (List.mem_of_getElem? (i := 29) rfl)) (by decide) (rm7 l Z a0 hw [] r117 _ (Int32.ofNat cs.length) _ _ _ h117 n0 O117 h0.size (own_ole O0) K117.1 Vr117) e117 (g := (mkF m 45 #[.val (.ref a1), .val (.ref a2), .val (.int (0 : Int32)), .val (.int (Int32.ofNat cs.length)), .val .null, .val (.ref r117)] [(.int (Int32.ofNat cs.length)), (.ref r117), (.ref a1)])) rfl (by rw [hml]; rfl) (argsL := [(.ref r117), (.int (Int32.ofNat cs.length))]) (rest := [(.ref a1)]) (lenOf pd2 rfl) rfl (W := 1) (by show 2 * 0 + _ ≤ _; exact Nat.le_of_eq rfl) (hb hby d3_45) (by decide) (by decide) (by decide) (by decide)
    obtain ⟨rfl, Nq118, hh118⟩ := hQ118
    have N118 := Fr.app N117 (show Fr nb _ from fun y hy => Nat.le_trans hnb (Nq118 y hy))
    have NS118 := Fr.app NS117 Nq118
    obtain ⟨hx, hZ, hown, hby, hml, hnm, hret, hlk⟩ := id Cc118
    rw [hh118] at e118 B118 J118
    refine Go.of st118 ?_
    show Go p e s below _ _ _ _ T118 (mkF m 48 #[.val (.ref a1), .val (.ref a2), .val (.int (0 : Int32)), .val (.int (Int32.ofNat cs.length)), .val .null, .val (.ref r117)] [(.int (0 : Int32)), (.ref a1)])
    have f120 := (F2.ext Eq117)
    have f121 := (E1.ext Eq117)
    obtain ⟨T119, h119, X119, e119, W119, st119⟩ := putFN X118 hx hZ hown (hw _ (List.mem_of_getElem? (i := 30) rfl)) Via.refl e118 f120 f121 (Or.inr ⟨(hw _ (List.mem_of_getElem? (i := 31) rfl)), rfl, hnm⟩) (hw _ (List.mem_of_getElem? (i := 5) rfl)) (ty := .byte) (v := (.int (0 : Int32))) (v' := (.int (0 : Int32))) (by decide) rfl rfl (g := (mkF m 48 #[.val (.ref a1), .val (.ref a2), .val (.int (0 : Int32)), .val (.int (Int32.ofNat cs.length)), .val .null, .val (.ref r117)] [(.int (0 : Int32)), (.ref a1)])) rfl rfl (hb hby d3_48)
    have N119 := Fr.snoc X119 N118 fr_a1
    have J119 := J118.wr W119 hm_a1
    have B119 := B118.mono (Nat.le_of_eq W119.size.symm)
    have O119 := O117.wr W119 (Nat.le_trans hb0 fr_a1)
    have K119 := K117.wr W119 (Or.inl (List.mem_of_getElem? (i := 0) rfl))
    have Fw119 := f120.same W119
    refine Go.of (fun _ hr => st119 _ hr) ?_
    show Go p e s below _ _ _ _ T119 (mkF m 51 #[.val (.ref a1), .val (.ref a2), .val (.int (0 : Int32)), .val (.int (Int32.ofNat cs.length)), .val .null, .val (.ref r117)] [])
    refine Go.of (fun _ hr => XS.aloadN X119.here hx rfl (hb hby d3_51) rfl rfl hr) ?_
    show Go p e s below _ _ _ _ T119 (mkF m 52 #[.val (.ref a1), .val (.ref a2), .val (.int (0 : Int32)), .val (.int (Int32.ofNat cs.length)), .val .null, .val (.ref r117)] [(.ref a1)])
    refine Go.of (fun _ hr => XS.aload X119.here hx rfl (hb hby d3_52) rfl rfl hr) ?_
    show Go p e s below _ _ _ _ T119 (mkF m 54 #[.val (.ref a1), .val (.ref a2), .val (.int (0 : Int32)), .val (.int (Int32.ofNat cs.length)), .val .null, .val (.ref r117)] [(.ref r117), (.ref a1)])
    have f123 := ((F1.ext Eq117).other W119 (Or.inr (slot_ne (Or.inr (hw _ (List.mem_of_getElem? (i := 33) rfl))) (Or.inr (hw _ (List.mem_of_getElem? (i := 31) rfl))) (by decide) (t := (.array .byte)) (t' := .byte) (by decide) (by decide))))
    have f124 := (f121.wr W119)
    obtain ⟨T122, h122, X122, e122, W122, st122⟩ := putF X119 hx hZ hown (host := "") (Or.inl (hw _ (List.mem_of_getElem? (i := 32) rfl))) Via.refl e119 f123 f124 (Or.inr ⟨(hw _ (List.mem_of_getElem? (i := 33) rfl)), rfl, hnm⟩) (hw _ (List.mem_of_getElem? (i := 5) rfl)) (ty := (.array .byte)) (by decide) rfl rfl (g := (mkF m 54 #[.val (.ref a1), .val (.ref a2), .val (.int (0 : Int32)), .val (.int (Int32.ofNat cs.length)), .val .null, .val (.ref r117)] [(.ref r117), (.ref a1)])) rfl rfl (hb hby d3_54)
    have N122 := Fr.snoc X122 N119 fr_a1
    have J122 := J119.wr W122 hm_a1
    have B122 := B119.mono (Nat.le_of_eq W122.size.symm)
    have O122 := O119.wr W122 (Nat.le_trans hb0 fr_a1)
    have K122 := K119.wr W122 (Or.inl (List.mem_of_getElem? (i := 0) rfl))
    have Fw122 := f123.same W122
    refine Go.of (fun _ hr => st122 _ hr) ?_
    show Go p e s below _ _ _ _ T122 (mkF m 57 #[.val (.ref a1), .val (.ref a2), .val (.int (0 : Int32)), .val (.int (Int32.ofNat cs.length)), .val .null, .val (.ref r117)] [])
    have f125 := ((Vr117.other W119 (Ne.symm ne_a1_r117)).other W122 (Ne.symm ne_a1_r117))
    have f126 := (Fw119.other W122 (Or.inr (slot_ne (Or.inr (hw _ (List.mem_of_getElem? (i := 31) rfl))) (Or.inr (hw _ (List.mem_of_getElem? (i := 33) rfl))) (by decide) (t := .byte) (t' := (.array .byte)) (by decide) (by decide))))
    exact Go.retV X122 hx hlk B122 J122 e122 hret (hb hby d3_57) (by decide) (by decide) (fun vm_ hw_ => ⟨rfl, N122, K122, _, _, (J0.nms sz_r117), Fw122, f126, asB f125⟩)

theorem d2_0 : decode jdk_42_method_3_code 0 = .ok (.aload_n 0, 1) := by decide +kernel
theorem d2_1 : decode jdk_42_method_3_code 1 = .ok (.aload_n 1, 1) := by decide +kernel
theorem d2_2 : decode jdk_42_method_3_code 2 = .ok (.iconst 0, 1) := by decide +kernel
theorem d2_3 : decode jdk_42_method_3_code 3 = .ok (.aload_n 1, 1) := by decide +kernel
theorem d2_4 : decode jdk_42_method_3_code 4 = .ok (.arraylength, 1) := by decide +kernel
theorem d2_5 : decode jdk_42_method_3_code 5 = .ok (.aconst_null, 1) := by decide +kernel
theorem d2_6 : decode jdk_42_method_3_code 6 = .ok (.invokespecial 27, 3) := by decide +kernel
theorem pd3 : parseMethodDescriptor "([CIILjava/lang/Void;)V" = some ⟨[(.array .char), .int, .int, (.object "java/lang/Void")], none⟩ := by decide +kernel
theorem d2_9 : decode jdk_42_method_3_code 9 = .ok (.return_, 1) := by decide +kernel
set_option maxRecDepth 65536 in
set_option maxHeartbeats 40000000 in
theorem rm2 (l : Launch) (Z : State) (a0 : Array Value) (hw : ∀ d ∈ tables_1, d.before a0 Z = true) (ws : List Jvm.Cond) (a1 a2 : Addr) (k2 : ClassId) (cs : List Int32) (u1 u2 : Value) (zc : Int32) (ms : List Addr) (h0 : Heap) (n0 : Nat) (O0 : Old Z n0 h0) (nb : Nat) (hb0 : n0 ≤ nb) (hnb : nb ≤ h0.size) (fr_a1 : nb ≤ a1) (hm_a1 : a1 ∈ ms) (hn : cs.length ≤ 2) (hr : ∀ x ∈ cs, ¬ x < 0 ∧ ¬ 255 < x) (V1 : Arv Z h0 a2 k2 .char (Int32.ofNat cs.length) (cs.map Value.int) (.int 0)) (ne12 : a2 ≠ a1) (E1 : Exa Z h0 a1 "java/lang/String") (F1 : Fld Z h0 a1 "java/lang/String" "value" "[B" u1) (F2 : Fld Z h0 a1 "java/lang/String" "coder" "B" u2) (S_C : Sta Z Z.heap "java/lang/String" "COMPACT_STRINGS" "Z" (.int zc)) (hzc : ¬ zc = 0) :
    Con l Z ms (⟨"java/lang/String", "<init>", "([C)V"⟩ : MethodName) jdk_42_method_3_code 2 none ws ({ frames := 3, cells := 2, slots := 4, locals := 52 } : Room) #[(.ref a1), (.ref a2)] h0 (fun v vm h L => v = none ∧ Fr nb L ∧ Keep h0 h [a1] ∧ ∃ t k, t ∉ ms ∧ Fld Z h a1 "java/lang/String" "value" "[B" (.ref t) ∧ Fld Z h a1 "java/lang/String" "coder" "B" (.int 0) ∧ Arv Z h t k .byte (Int32.ofNat (cs.map lo8).length) ((cs.map lo8).map Value.int) (.int 0)) := by
  refine Con.mk (plainFor_of_name pn1) ?_
  intro p e s m below meth c s₁ Cc X0 e0 eb J0 B0 M0
  obtain ⟨hx, hZ, hown, hby, hml, hnm, hret, hlk⟩ := id Cc
  have N0 := Fr.nil nb
  have K0 := Keep.refl h0 [a1]
  show Go p e s below _ _ _ _ s₁ (mkF m 0 #[.val (.ref a1), .val (.ref a2)] [])
  refine Go.of (fun _ hr => XS.aloadN X0.here hx rfl (hb hby d2_0) rfl rfl hr) ?_
  show Go p e s below _ _ _ _ s₁ (mkF m 1 #[.val (.ref a1), .val (.ref a2)] [(.ref a1)])
  refine Go.of (fun _ hr => XS.aloadN X0.here hx rfl (hb hby d2_1) rfl rfl hr) ?_
  show Go p e s below _ _ _ _ s₁ (mkF m 2 #[.val (.ref a1), .val (.ref a2)] [(.ref a2), (.ref a1)])
  refine Go.of (fun _ hr => XS.iconst X0.here hx rfl (hb hby d2_2) hr) ?_
  show Go p e s below _ _ _ _ s₁ (mkF m 3 #[.val (.ref a1), .val (.ref a2)] [(.int (0 : Int32)), (.ref a2), (.ref a1)])
  refine Go.of (fun _ hr => XS.aloadN X0.here hx rfl (hb hby d2_3) rfl rfl hr) ?_
  show Go p e s below _ _ _ _ s₁ (mkF m 4 #[.val (.ref a1), .val (.ref a2)] [(.ref a2), (.int (0 : Int32)), (.ref a2), (.ref a1)])
  obtain ⟨cl101, Ar101, q101, S101, N101_, H101, G101⟩ := id V1
  refine Go.of (fun _ hr => X0.arraylength hx (by rw [e0]; exact Ar101.1) (State.isArrayOf_alike hZ.alike Ar101.2.1) (g := (mkF m 4 #[.val (.ref a1), .val (.ref a2)] [(.ref a2), (.int (0 : Int32)), (.ref a2), (.ref a1)])) rfl rfl (hb hby d2_4) _ hr) ?_
  rw [len_of S101 N101_]
  show Go p e s below _ _ _ _ s₁ (mkF m 5 #[.val (.ref a1), .val (.ref a2)] [(.int (Int32.ofNat cs.length)), (.int (0 : Int32)), (.ref a2), (.ref a1)])
  refine Go.of (fun _ hr => XS.aconstNull X0.here hx rfl (hb hby d2_5) hr) ?_
  show Go p e s below _ _ _ _ s₁ (mkF m 6 #[.val (.ref a1), .val (.ref a2)] [.null, (.int (Int32.ofNat cs.length)), (.int (0 : Int32)), (.ref a2), (.ref a1)])
  obtain ⟨_, b102, T102, h102, L102, e102, Cc102, X102, B102, J102, g102, hQ102, st102⟩ := own_callI Cc B0 J0 X0 rfl (hw _ (List.mem_of_getElem? (i := 11) rfl)) (hw _ (List.mem_of_getElem? (i := 12) rfl)) (hw _ (List.mem_of_getElem? (i := 6) rfl)) (hw _ (List.mem_of_getElem? (i := 14) rfl)) (by decide) (rm3 l Z a0 hw [] a1 a2 _ cs _ _ zc _ h0 n0 O0 nb hb0 (Nat.le_trans hnb K0.1) fr_a1 hm_a1 hn hr V1 ne12 E1 F1 F2 S_C hzc) e0 (g := (mkF m 6 #[.val (.ref a1), .val (.ref a2)] [.null, (.int (Int32.ofNat cs.length)), (.int (0 : Int32)), (.ref a2), (.ref a1)])) rfl (by rw [hml]; rfl) (argsL := [(.ref a2), (.int (0 : Int32)), (.int (Int32.ofNat cs.length)), .null]) (rest := []) (lenOf pd3 rfl) rfl (W := 0) (by show 2 * 0 + _ ≤ _; exact Nat.le_of_eq rfl) (hb hby d2_6) (by decide) (by decide) (by decide) (by decide)
  obtain ⟨rfl, Nq102, Kq102, t102, kt102, nt102, Fv102, Fc102, Vt102⟩ := hQ102
  have N102 := Fr.app N0 Nq102
  obtain ⟨hx, hZ, hown, hby, hml, hnm, hret, hlk⟩ := id Cc102
  have K102 := K0.trans Kq102 (allS (Or.inl (List.mem_of_getElem? (i := 0) rfl)) all0)
  have O102 := O0.keep Kq102 (allS (Nat.le_trans hb0 fr_a1) all0)
  refine Go.of st102 ?_
  have nx_t102_a1 : t102 ≠ a1 := fun q => nt102 (by rw [q]; exact hm_a1)
  show Go p e s below _ _ _ _ T102 (mkF m 9 #[.val (.ref a1), .val (.ref a2)] [])
  exact Go.retV X102 hx hlk B102 J102 e102 hret (hb hby d2_9) (by decide) (by decide) (fun vm_ hw_ => ⟨rfl, N102, K102, _, _, (fun hz => nt102 hz), Fv102, Fc102, Vt102⟩)

theorem d14_9 : decode jdk_43_method_13_code 9 = .ok (.iload_n 2, 1) := by decide +kernel
theorem d14_10 : decode jdk_43_method_13_code 10 = .ok (.aload_n 0, 1) := by decide +kernel
theorem d14_11 : decode jdk_43_method_13_code 11 = .ok (.arraylength, 1) := by decide +kernel
theorem d14_12 : decode jdk_43_method_13_code 12 = .ok (.if_icmp .ge 20, 3) := by decide +kernel
theorem d14_32 : decode jdk_43_method_13_code 32 = .ok (.iconst 1, 1) := by decide +kernel
theorem d14_33 : decode jdk_43_method_13_code 33 = .ok (.ireturn, 1) := by decide +kernel
theorem d14_15 : decode jdk_43_method_13_code 15 = .ok (.aload_n 0, 1) := by decide +kernel
theorem d14_16 : decode jdk_43_method_13_code 16 = .ok (.iload_n 2, 1) := by decide +kernel
theorem d14_17 : decode jdk_43_method_13_code 17 = .ok (.baload, 1) := by decide +kernel
theorem d14_18 : decode jdk_43_method_13_code 18 = .ok (.aload_n 1, 1) := by decide +kernel
theorem d14_19 : decode jdk_43_method_13_code 19 = .ok (.iload_n 2, 1) := by decide +kernel
theorem d14_20 : decode jdk_43_method_13_code 20 = .ok (.baload, 1) := by decide +kernel
theorem d14_21 : decode jdk_43_method_13_code 21 = .ok (.if_icmp .eq 5, 3) := by decide +kernel
theorem d14_26 : decode jdk_43_method_13_code 26 = .ok (.iinc 2 1, 3) := by decide +kernel
theorem d14_29 : decode jdk_43_method_13_code 29 = .ok (.goto (-20), 3) := by decide +kernel
theorem d14_24 : decode jdk_43_method_13_code 24 = .ok (.iconst 0, 1) := by decide +kernel
theorem d14_25 : decode jdk_43_method_13_code 25 = .ok (.ireturn, 1) := by decide +kernel
set_option maxRecDepth 65536 in
set_option maxHeartbeats 40000000 in
theorem eqloop {l : Launch} {Z : State} {p : Program} {e : Env} {R : Room} {s b : State} {m : MethodId} {args : Array Value} {below : List Frame} {meth : Method} {c : Code} {K N : Nat} {Q : Option Value → Vm → Heap → List Loc → Prop} {ms : List Addr} {h0 : Heap} (Cc : Cx Z p b m meth c "java/lang/StringLatin1" jdk_43_method_13_code 3 "equals" (some .boolean)) (a1 a2 : Addr) (k1 k2 : ClassId) (b1 b2 : List Int32) (hl : b1.length = b2.length) (hn : b1.length < 2147483648) (V1 : Arv Z h0 a1 k1 .byte (Int32.ofNat b1.length) (b1.map Value.int) (.int 0)) (V2 : Arv Z h0 a2 k2 .byte (Int32.ofNat b2.length) (b2.map Value.int) (.int 0)) {T : State} {locs : List Loc} {cells slots : Nat} (hK : cells ≤ K) (hN : slots ≤ N)
    (hQ : ∀ vm, Q (some (.int (if b1 = b2 then 1 else 0))) vm h0 locs) :
    ∀ (r i : Nat), i + r = b1.length → b1.take i = b2.take i → Stand p l e R b m args below meth c T locs cells slots → T.heap = h0 → Hd Z ms b.vm h0 → Bs s b h0 →
      Go p e s below K N (Hd Z ms) Q T (mkF m 9 #[.val (.ref a1), .val (.ref a2), .val (.int (Int32.ofNat i))] []) := by
  obtain ⟨hx, hZ, hown, hby, hml, hnm, hret, hlk⟩ := id Cc
  intro r
  induction r with
  | zero =>
    intro i hi heq X eT J0 B0
    show Go p e s below _ _ _ _ T (mkF m 9 #[.val (.ref a1), .val (.ref a2), .val (.int (Int32.ofNat i))] [])
    refine Go.of (fun _ hr => XS.iloadN X.here hx rfl (hb hby d14_9) rfl  hr) ?_
    show Go p e s below _ _ _ _ T (mkF m 10 #[.val (.ref a1), .val (.ref a2), .val (.int (Int32.ofNat i))] [(.int (Int32.ofNat i))])
    refine Go.of (fun _ hr => XS.aloadN X.here hx rfl (hb hby d14_10) rfl rfl hr) ?_
    show Go p e s below _ _ _ _ T (mkF m 11 #[.val (.ref a1), .val (.ref a2), .val (.int (Int32.ofNat i))] [(.ref a1), (.int (Int32.ofNat i))])
    obtain ⟨cl101, Ar101, q101, S101, N101_, H101, G101⟩ := id V1
    refine Go.of (fun _ hr => X.arraylength hx (by rw [eT]; exact Ar101.1) (State.isArrayOf_alike hZ.alike Ar101.2.1) (g := (mkF m 11 #[.val (.ref a1), .val (.ref a2), .val (.int (Int32.ofNat i))] [(.ref a1), (.int (Int32.ofNat i))])) rfl rfl (hb hby d14_11) _ hr) ?_
    rw [len_of S101 N101_]
    show Go p e s below _ _ _ _ T (mkF m 12 #[.val (.ref a1), .val (.ref a2), .val (.int (Int32.ofNat i))] [(.int (Int32.ofNat b1.length)), (.int (Int32.ofNat i))])
    refine Go.of (fun _ hr => XS.icmpYes X.here hx rfl (pc0 := 12) (pc' := 32) rfl (hb hby d14_12) rfl (flt (oi_nlt (by omega) (by omega) (by omega))).2.1 (by decide) (by decide) hr) ?_
    show Go p e s below _ _ _ _ T (mkF m 32 #[.val (.ref a1), .val (.ref a2), .val (.int (Int32.ofNat i))] [])
    refine Go.of (fun _ hr => XS.iconst X.here hx rfl (hb hby d14_32) hr) ?_
    show Go p e s below _ _ _ _ T (mkF m 33 #[.val (.ref a1), .val (.ref a2), .val (.int (Int32.ofNat i))] [(.int (1 : Int32))])
    exact Go.retN X hx hlk B0 J0 eT (t := .boolean) (z' := (1 : Int32)) hret (by simp) (hb hby d14_33) rfl (by omega) (by omega) (fun vm _ => by have q := hQ vm; rw [if_pos (teq_all hl hi heq)] at q; exact q)
  | succ r ih =>
    intro i hi heq X eT J0 B0
    show Go p e s below _ _ _ _ T (mkF m 9 #[.val (.ref a1), .val (.ref a2), .val (.int (Int32.ofNat i))] [])
    refine Go.of (fun _ hr => XS.iloadN X.here hx rfl (hb hby d14_9) rfl  hr) ?_
    show Go p e s below _ _ _ _ T (mkF m 10 #[.val (.ref a1), .val (.ref a2), .val (.int (Int32.ofNat i))] [(.int (Int32.ofNat i))])
    refine Go.of (fun _ hr => XS.aloadN X.here hx rfl (hb hby d14_10) rfl rfl hr) ?_
    show Go p e s below _ _ _ _ T (mkF m 11 #[.val (.ref a1), .val (.ref a2), .val (.int (Int32.ofNat i))] [(.ref a1), (.int (Int32.ofNat i))])
    obtain ⟨cl102, Ar102, q102, S102, N102_, H102, G102⟩ := id V1
    refine Go.of (fun _ hr => X.arraylength hx (by rw [eT]; exact Ar102.1) (State.isArrayOf_alike hZ.alike Ar102.2.1) (g := (mkF m 11 #[.val (.ref a1), .val (.ref a2), .val (.int (Int32.ofNat i))] [(.ref a1), (.int (Int32.ofNat i))])) rfl rfl (hb hby d14_11) _ hr) ?_
    rw [len_of S102 N102_]
    show Go p e s below _ _ _ _ T (mkF m 12 #[.val (.ref a1), .val (.ref a2), .val (.int (Int32.ofNat i))] [(.int (Int32.ofNat b1.length)), (.int (Int32.ofNat i))])
    refine Go.of (fun _ hr => XS.icmpNo X.here hx rfl (hb hby d14_12) rfl (tlt (oi_lt (by omega) (by omega) (by omega))).2.1 hr) ?_
    show Go p e s below _ _ _ _ T (mkF m 15 #[.val (.ref a1), .val (.ref a2), .val (.int (Int32.ofNat i))] [])
    refine Go.of (fun _ hr => XS.aloadN X.here hx rfl (hb hby d14_15) rfl rfl hr) ?_
    show Go p e s below _ _ _ _ T (mkF m 16 #[.val (.ref a1), .val (.ref a2), .val (.int (Int32.ofNat i))] [(.ref a1)])
    refine Go.of (fun _ hr => XS.iloadN X.here hx rfl (hb hby d14_16) rfl  hr) ?_
    show Go p e s below _ _ _ _ T (mkF m 17 #[.val (.ref a1), .val (.ref a2), .val (.int (Int32.ofNat i))] [(.int (Int32.ofNat i)), (.ref a1)])
    obtain ⟨cl103, Ar103, q103, S103, N103_, H103, G103⟩ := id V1
    have hin103 : ¬ ((Int32.ofNat i) < 0 ∨ cl103.slots.size ≤ ((Int32.ofNat i)).toNatClampNeg) := inb_of S103 ⟨oi_nn (by omega), oi_lt (by omega) (by omega) (by omega)⟩
    refine Go.of (fun _ hr => X.baloadBytes hx (j := (Int32.ofNat i)) (v := (.int (b1.getD i 0))) (by rw [eT]; exact Ar103.1) (State.isArrayOf_alike hZ.alike Ar103.2.1) Ar103.2.2 hin103 (H103.at hin103 (by rw [oi_nat (by omega), getD_int])) (g := (mkF m 17 #[.val (.ref a1), .val (.ref a2), .val (.int (Int32.ofNat i))] [(.int (Int32.ofNat i)), (.ref a1)])) rfl rfl (hb hby d14_17) _ hr) ?_
    show Go p e s below _ _ _ _ T (mkF m 18 #[.val (.ref a1), .val (.ref a2), .val (.int (Int32.ofNat i))] [(.int (b1.getD i 0))])
    refine Go.of (fun _ hr => XS.aloadN X.here hx rfl (hb hby d14_18) rfl rfl hr) ?_
    show Go p e s below _ _ _ _ T (mkF m 19 #[.val (.ref a1), .val (.ref a2), .val (.int (Int32.ofNat i))] [(.ref a2), (.int (b1.getD i 0))])
    refine Go.of (fun _ hr => XS.iloadN X.here hx rfl (hb hby d14_19) rfl  hr) ?_
    show Go p e s below _ _ _ _ T (mkF m 20 #[.val (.ref a1), .val (.ref a2), .val (.int (Int32.ofNat i))] [(.int (Int32.ofNat i)), (.ref a2), (.int (b1.getD i 0))])
    obtain ⟨cl104, Ar104, q104, S104, N104_, H104, G104⟩ := id V2
    have hin104 : ¬ ((Int32.ofNat i) < 0 ∨ cl104.slots.size ≤ ((Int32.ofNat i)).toNatClampNeg) := inb_of S104 ⟨oi_nn (by omega), oi_lt (by omega) (by omega) (by omega)⟩
    refine Go.of (fun _ hr => X.baloadBytes hx (j := (Int32.ofNat i)) (v := (.int (b2.getD i 0))) (by rw [eT]; exact Ar104.1) (State.isArrayOf_alike hZ.alike Ar104.2.1) Ar104.2.2 hin104 (H104.at hin104 (by rw [oi_nat (by omega), getD_int])) (g := (mkF m 20 #[.val (.ref a1), .val (.ref a2), .val (.int (Int32.ofNat i))] [(.int (Int32.ofNat i)), (.ref a2), (.int (b1.getD i 0))])) rfl rfl (hb hby d14_20) _ hr) ?_
    show Go p e s below _ _ _ _ T (mkF m 21 #[.val (.ref a1), .val (.ref a2), .val (.int (Int32.ofNat i))] [(.int (b2.getD i 0)), (.int (b1.getD i 0))])
    by_cases hb21_105 : (b1.getD i 0) = (b2.getD i 0)
    · refine Go.of (fun _ hr => XS.icmpYes X.here hx rfl (pc0 := 21) (pc' := 26) rfl (hb hby d14_21) rfl (teq hb21_105).1 (by decide) (by decide) hr) ?_
      show Go p e s below _ _ _ _ T (mkF m 26 #[.val (.ref a1), .val (.ref a2), .val (.int (Int32.ofNat i))] [])
      refine Go.of (fun _ hr => XS.iinc X.here hx rfl (hb hby d14_26) rfl (l' := #[.val (.ref a1), .val (.ref a2), .val (.int ((Int32.ofNat i) + (1 : Int32)))]) rfl hr) ?_
      show Go p e s below _ _ _ _ T (mkF m 29 #[.val (.ref a1), .val (.ref a2), .val (.int ((Int32.ofNat i) + (1 : Int32)))] [])
      refine Go.of (fun _ hr => XS.goto X.here hx rfl (pc0 := 29) (pc' := 9) rfl (hb hby d14_29) (by decide) (by decide) hr) ?_
      show Go p e s below _ _ _ _ T (mkF m 9 #[.val (.ref a1), .val (.ref a2), .val (.int ((Int32.ofNat i) + (1 : Int32)))] [])
      simp only [oi_succ (show i + 1 < 2147483648 by omega)]
      exact ih (i + 1) (by omega) (teq_step heq (by omega) (by omega) hb21_105) X eT J0 B0
    · refine Go.of (fun _ hr => XS.icmpNo X.here hx rfl (hb hby d14_21) rfl (feq hb21_105).1 hr) ?_
      show Go p e s below _ _ _ _ T (mkF m 24 #[.val (.ref a1), .val (.ref a2), .val (.int (Int32.ofNat i))] [])
      refine Go.of (fun _ hr => XS.iconst X.here hx rfl (hb hby d14_24) hr) ?_
      show Go p e s below _ _ _ _ T (mkF m 25 #[.val (.ref a1), .val (.ref a2), .val (.int (Int32.ofNat i))] [(.int (0 : Int32))])
      exact Go.retN X hx hlk B0 J0 eT (t := .boolean) (z' := (0 : Int32)) hret (by simp) (hb hby d14_25) rfl (by omega) (by omega) (fun vm _ => by have q := hQ vm; rw [if_neg (fun z => hb21_105 (by rw [z]))] at q; exact q)

theorem pn2 : plainName "java/lang/StringLatin1" = true := by first | (simp [plainName, overriddenIn]; done) | decide +kernel
theorem d14_0 : decode jdk_43_method_13_code 0 = .ok (.aload_n 0, 1) := by decide +kernel
theorem d14_1 : decode jdk_43_method_13_code 1 = .ok (.arraylength, 1) := by decide +kernel
theorem d14_2 : decode jdk_43_method_13_code 2 = .ok (.aload_n 1, 1) := by decide +kernel
theorem d14_3 : decode jdk_43_method_13_code 3 = .ok (.arraylength, 1) := by decide +kernel
theorem d14_4 : decode jdk_43_method_13_code 4 = .ok (.if_icmp .ne 30, 3) := by decide +kernel
theorem d14_7 : decode jdk_43_method_13_code 7 = .ok (.iconst 0, 1) := by decide +kernel
theorem d14_8 : decode jdk_43_method_13_code 8 = .ok (.istore_n 2, 1) := by decide +kernel
theorem d14_34 : decode jdk_43_method_13_code 34 = .ok (.iconst 0, 1) := by decide +kernel
theorem d14_35 : decode jdk_43_method_13_code 35 = .ok (.ireturn, 1) := by decide +kernel
set_option maxRecDepth 65536 in
set_option maxHeartbeats 40000000 in
theorem rm14 (l : Launch) (Z : State) (a0 : Array Value) (hw : ∀ d ∈ tables_1, d.before a0 Z = true) (ws : List Jvm.Cond) (a1 a2 : Addr) (k1 k2 : ClassId) (b1 b2 : List Int32) (ms : List Addr) (h0 : Heap) (n0 : Nat) (O0 : Old Z n0 h0) (nb : Nat) (hb0 : n0 ≤ nb) (hnb : nb ≤ h0.size) (hn1 : b1.length < 2147483648) (hn2 : b2.length < 2147483648) (V1 : Arv Z h0 a1 k1 .byte (Int32.ofNat b1.length) (b1.map Value.int) (.int 0)) (V2 : Arv Z h0 a2 k2 .byte (Int32.ofNat b2.length) (b2.map Value.int) (.int 0)) :
    Con l Z ms (⟨"java/lang/StringLatin1", "equals", "([B[B)Z"⟩ : MethodName) jdk_43_method_13_code 3 (some .boolean) ws ({ frames := 0, cells := 0, slots := 0, locals := 0 } : Room) #[(.ref a1), (.ref a2)] h0 (fun v vm h L => v = some (.int (if b1 = b2 then 1 else 0)) ∧ Fr nb L ∧ h = h0) := by
  refine Con.mk (plainFor_of_name pn2) ?_
  intro p e s m below meth c s₁ Cc X0 e0 eb J0 B0 M0
  obtain ⟨hx, hZ, hown, hby, hml, hnm, hret, hlk⟩ := id Cc
  have N0 := Fr.nil h0.size
  have K0 := Keep.refl h0 []
  show Go p e s below _ _ _ _ s₁ (mkF m 0 #[.val (.ref a1), .val (.ref a2), .unset] [])
  refine Go.of (fun _ hr => XS.aloadN X0.here hx rfl (hb hby d14_0) rfl rfl hr) ?_
  show Go p e s below _ _ _ _ s₁ (mkF m 1 #[.val (.ref a1), .val (.ref a2), .unset] [(.ref a1)])
  obtain ⟨cl101, Ar101, q101, S101, N101_, H101, G101⟩ := id V1
  refine Go.of (fun _ hr => X0.arraylength hx (by rw [e0]; exact Ar101.1) (State.isArrayOf_alike hZ.alike Ar101.2.1) (g := (mkF m 1 #[.val (.ref a1), .val (.ref a2), .unset] [(.ref a1)])) rfl rfl (hb hby d14_1) _ hr) ?_
  rw [len_of S101 N101_]
  show Go p e s below _ _ _ _ s₁ (mkF m 2 #[.val (.ref a1), .val (.ref a2), .unset] [(.int (Int32.ofNat b1.length))])
  refine Go.of (fun _ hr => XS.aloadN X0.here hx rfl (hb hby d14_2) rfl rfl hr) ?_
  show Go p e s below _ _ _ _ s₁ (mkF m 3 #[.val (.ref a1), .val (.ref a2), .unset] [(.ref a2), (.int (Int32.ofNat b1.length))])
  obtain ⟨cl102, Ar102, q102, S102, N102_, H102, G102⟩ := id V2
  refine Go.of (fun _ hr => X0.arraylength hx (by rw [e0]; exact Ar102.1) (State.isArrayOf_alike hZ.alike Ar102.2.1) (g := (mkF m 3 #[.val (.ref a1), .val (.ref a2), .unset] [(.ref a2), (.int (Int32.ofNat b1.length))])) rfl rfl (hb hby d14_3) _ hr) ?_
  rw [len_of S102 N102_]
  show Go p e s below _ _ _ _ s₁ (mkF m 4 #[.val (.ref a1), .val (.ref a2), .unset] [(.int (Int32.ofNat b2.length)), (.int (Int32.ofNat b1.length))])
  by_cases hb4_103 : (Int32.ofNat b1.length) = (Int32.ofNat b2.length)
  · refine Go.of (fun _ hr => XS.icmpNo X0.here hx rfl (hb hby d14_4) rfl (teq hb4_103).2 hr) ?_
    show Go p e s below _ _ _ _ s₁ (mkF m 7 #[.val (.ref a1), .val (.ref a2), .unset] [])
    refine Go.of (fun _ hr => XS.iconst X0.here hx rfl (hb hby d14_7) hr) ?_
    show Go p e s below _ _ _ _ s₁ (mkF m 8 #[.val (.ref a1), .val (.ref a2), .unset] [(.int (0 : Int32))])
    refine Go.of (fun _ hr => XS.istoreN X0.here hx rfl (hb hby d14_8) rfl (l' := #[.val (.ref a1), .val (.ref a2), .val (.int (0 : Int32))]) rfl hr) ?_
    show Go p e s below _ _ _ _ s₁ (mkF m 9 #[.val (.ref a1), .val (.ref a2), .val (.int (0 : Int32))] [])
    exact eqloop Cc a1 a2 k1 k2 b1 b2 (oi_inj hn1 hn2 hb4_103) hn1 V1 V2 (by decide) (by decide) (fun vm => ⟨rfl, (fun y hy => Nat.le_trans hnb (N0 y hy)), rfl⟩) b1.length 0 (Nat.zero_add _) rfl X0 e0 J0 B0
  · refine Go.of (fun _ hr => XS.icmpYes X0.here hx rfl (pc0 := 4) (pc' := 34) rfl (hb hby d14_4) rfl (feq hb4_103).2 (by decide) (by decide) hr) ?_
    show Go p e s below _ _ _ _ s₁ (mkF m 34 #[.val (.ref a1), .val (.ref a2), .unset] [])
    refine Go.of (fun _ hr => XS.iconst X0.here hx rfl (hb hby d14_34) hr) ?_
    show Go p e s below _ _ _ _ s₁ (mkF m 35 #[.val (.ref a1), .val (.ref a2), .unset] [(.int (0 : Int32))])
    exact Go.retN X0 hx hlk B0 J0 e0 (t := .boolean) (z' := (0 : Int32)) hret (by simp) (hb hby d14_35) rfl (by decide) (by decide) (fun vm_ hw_ => ⟨(by rw [if_neg (fun q => hb4_103 (by rw [q]))]), (fun y hy => Nat.le_trans hnb (N0 y hy)), rfl⟩)

theorem d13_0 : decode jdk_42_method_66_code 0 = .ok (.aload_n 0, 1) := by decide +kernel
theorem d13_1 : decode jdk_42_method_66_code 1 = .ok (.aload_n 1, 1) := by decide +kernel
theorem d13_2 : decode jdk_42_method_66_code 2 = .ok (.if_acmp .ne 5, 3) := by decide +kernel
theorem d13_7 : decode jdk_42_method_66_code 7 = .ok (.aload_n 1, 1) := by decide +kernel
theorem d13_8 : decode jdk_42_method_66_code 8 = .ok (.instanceof 10, 3) := by decide +kernel
theorem d13_11 : decode jdk_42_method_66_code 11 = .ok (.ifCond .eq 43, 3) := by decide +kernel
theorem d13_14 : decode jdk_42_method_66_code 14 = .ok (.aload_n 1, 1) := by decide +kernel
theorem d13_15 : decode jdk_42_method_66_code 15 = .ok (.checkcast 10, 3) := by decide +kernel
theorem d13_18 : decode jdk_42_method_66_code 18 = .ok (.astore_n 2, 1) := by decide +kernel
theorem d13_19 : decode jdk_42_method_66_code 19 = .ok (.getstatic 38, 3) := by decide +kernel
theorem d13_22 : decode jdk_42_method_66_code 22 = .ok (.ifCond .eq 14, 3) := by decide +kernel
theorem d13_25 : decode jdk_42_method_66_code 25 = .ok (.aload_n 0, 1) := by decide +kernel
theorem d13_26 : decode jdk_42_method_66_code 26 = .ok (.getfield 15, 3) := by decide +kernel
theorem d13_29 : decode jdk_42_method_66_code 29 = .ok (.aload_n 2, 1) := by decide +kernel
theorem d13_30 : decode jdk_42_method_66_code 30 = .ok (.getfield 15, 3) := by decide +kernel
theorem d13_33 : decode jdk_42_method_66_code 33 = .ok (.if_icmp .ne 21, 3) := by decide +kernel
theorem d13_36 : decode jdk_42_method_66_code 36 = .ok (.aload_n 0, 1) := by decide +kernel
theorem d13_37 : decode jdk_42_method_66_code 37 = .ok (.getfield 9, 3) := by decide +kernel
theorem d13_40 : decode jdk_42_method_66_code 40 = .ok (.aload_n 2, 1) := by decide +kernel
theorem d13_41 : decode jdk_42_method_66_code 41 = .ok (.getfield 9, 3) := by decide +kernel
theorem d13_44 : decode jdk_42_method_66_code 44 = .ok (.invokestatic 541, 3) := by decide +kernel
theorem pd4 : parseMethodDescriptor "([B[B)Z" = some ⟨[(.array .byte), (.array .byte)], some .boolean⟩ := by decide +kernel
theorem d13_47 : decode jdk_42_method_66_code 47 = .ok (.ifCond .eq 7, 3) := by decide +kernel
theorem d13_54 : decode jdk_42_method_66_code 54 = .ok (.iconst 0, 1) := by decide +kernel
theorem d13_55 : decode jdk_42_method_66_code 55 = .ok (.ireturn, 1) := by decide +kernel
theorem d13_50 : decode jdk_42_method_66_code 50 = .ok (.iconst 1, 1) := by decide +kernel
theorem d13_51 : decode jdk_42_method_66_code 51 = .ok (.goto 4, 3) := by decide +kernel
set_option maxRecDepth 65536 in
set_option maxHeartbeats 40000000 in
theorem rm13 (l : Launch) (Z : State) (a0 : Array Value) (hw : ∀ d ∈ tables_1, d.before a0 Z = true) (ws : List Jvm.Cond) (a1 a2 t1 t2 : Addr) (k1 k2 : ClassId) (b1 b2 : List Int32) (zc : Int32) (ms : List Addr) (h0 : Heap) (n0 : Nat) (O0 : Old Z n0 h0) (nb : Nat) (hb0 : n0 ≤ nb) (hnb : nb ≤ h0.size) (hn1 : b1.length < 2147483648) (hn2 : b2.length < 2147483648) (ne12 : a1 ≠ a2) (E2 : Exa Z h0 a2 "java/lang/String") (Fv1 : Fld Z h0 a1 "java/lang/String" "value" "[B" (.ref t1)) (Fc1 : Fld Z h0 a1 "java/lang/String" "coder" "B" (.int 0)) (Fv2 : Fld Z h0 a2 "java/lang/String" "value" "[B" (.ref t2)) (Fc2 : Fld Z h0 a2 "java/lang/String" "coder" "B" (.int 0)) (V1 : Arv Z h0 t1 k1 .byte (Int32.ofNat b1.length) (b1.map Value.int) (.int 0)) (V2 : Arv Z h0 t2 k2 .byte (Int32.ofNat b2.length) (b2.map Value.int) (.int 0)) (S_C : Sta Z Z.heap "java/lang/String" "COMPACT_STRINGS" "Z" (.int zc)) (hzc : ¬ zc = 0) :
    Con l Z ms (⟨"java/lang/String", "equals", "(Ljava/lang/Object;)Z"⟩ : MethodName) jdk_42_method_66_code 3 (some .boolean) ws ({ frames := 1, cells := 0, slots := 0, locals := 14 } : Room) #[(.ref a1), (.ref a2)] h0 (fun v vm h L => v = some (.int (if b1 = b2 then 1 else 0)) ∧ Fr nb L ∧ h = h0) := by
  refine Con.mk (plainFor_of_name pn1) ?_
  intro p e s m below meth c s₁ Cc X0 e0 eb J0 B0 M0
  obtain ⟨hx, hZ, hown, hby, hml, hnm, hret, hlk⟩ := id Cc
  have N0 := Fr.nil h0.size
  have K0 := Keep.refl h0 []
  show Go p e s below _ _ _ _ s₁ (mkF m 0 #[.val (.ref a1), .val (.ref a2), .unset] [])
  refine Go.of (fun _ hr => XS.aloadN X0.here hx rfl (hb hby d13_0) rfl rfl hr) ?_
  show Go p e s below _ _ _ _ s₁ (mkF m 1 #[.val (.ref a1), .val (.ref a2), .unset] [(.ref a1)])
  refine Go.of (fun _ hr => XS.aloadN X0.here hx rfl (hb hby d13_1) rfl rfl hr) ?_
  show Go p e s below _ _ _ _ s₁ (mkF m 2 #[.val (.ref a1), .val (.ref a2), .unset] [(.ref a2), (.ref a1)])
  refine Go.of (fun _ hr => Jvm.RoadKit.acmp (g := (mkF m 2 #[.val (.ref a1), .val (.ref a2), .unset] [(.ref a2), (.ref a1)])) X0 hx rfl rfl rfl (pc0 := 2) (pc' := 7) (same := false) rfl (hb hby d13_2) rfl (decide_eq_false (fun q => ne12 (Value.ref.inj q))) (by decide) (by decide) hr) ?_
  show Go p e s below _ _ _ _ s₁ (mkF m 7 #[.val (.ref a1), .val (.ref a2), .unset] [])
  refine Go.of (fun _ hr => XS.aloadN X0.here hx rfl (hb hby d13_7) rfl rfl hr) ?_
  show Go p e s below _ _ _ _ s₁ (mkF m 8 #[.val (.ref a1), .val (.ref a2), .unset] [(.ref a2)])
  obtain ⟨T101, X101, e101, st101⟩ := instY X0 hx hZ hown (hw _ (List.mem_of_getElem? (i := 87) rfl)) e0 (Ins.self E2) (g := (mkF m 8 #[.val (.ref a1), .val (.ref a2), .unset] [(.ref a2)])) rfl rfl (hb hby d13_8)
  refine Go.of (fun _ hr => st101 _ hr) ?_
  show Go p e s below _ _ _ _ T101 (mkF m 11 #[.val (.ref a1), .val (.ref a2), .unset] [(.int (1 : Int32))])
  refine Go.of (fun _ hr => XS.ifNo X101.here hx rfl (hb hby d13_11) rfl ((if0 _ _).trans (feq (by decide : ¬ ((1 : Int32) = (0 : Int32)))).1) hr) ?_
  show Go p e s below _ _ _ _ T101 (mkF m 14 #[.val (.ref a1), .val (.ref a2), .unset] [])
  refine Go.of (fun _ hr => XS.aloadN X101.here hx rfl (hb hby d13_14) rfl rfl hr) ?_
  show Go p e s below _ _ _ _ T101 (mkF m 15 #[.val (.ref a1), .val (.ref a2), .unset] [(.ref a2)])
  obtain ⟨T102, X102, e102, st102⟩ := castY X101 hx hZ hown (hw _ (List.mem_of_getElem? (i := 87) rfl)) e101 (Ins.self E2) (g := (mkF m 15 #[.val (.ref a1), .val (.ref a2), .unset] [(.ref a2)])) rfl rfl (hb hby d13_15)
  refine Go.of (fun _ hr => st102 _ hr) ?_
  show Go p e s below _ _ _ _ T102 (mkF m 18 #[.val (.ref a1), .val (.ref a2), .unset] [(.ref a2)])
  refine Go.of (fun _ hr => XS.astoreN X102.here hx rfl (hb hby d13_18) rfl rfl (l' := #[.val (.ref a1), .val (.ref a2), .val (.ref a2)]) rfl hr) ?_
  show Go p e s below _ _ _ _ T102 (mkF m 19 #[.val (.ref a1), .val (.ref a2), .val (.ref a2)] [])
  obtain ⟨T103, X103, e103, st103⟩ := getS2 X102 hx hZ hown (host := "") (Or.inl (hw _ (List.mem_of_getElem? (i := 18) rfl))) Via.refl e102 (S_C.ext O0.2) (g := (mkF m 19 #[.val (.ref a1), .val (.ref a2), .val (.ref a2)] [])) rfl (hb hby d13_19)
  refine Go.of (fun _ hr => st103 _ hr) ?_
  show Go p e s below _ _ _ _ T103 (mkF m 22 #[.val (.ref a1), .val (.ref a2), .val (.ref a2)] [(.int zc)])
  refine Go.of (fun _ hr => XS.ifNo X103.here hx rfl (hb hby d13_22) rfl ((if0 _ _).trans (feq hzc).1) hr) ?_
  show Go p e s below _ _ _ _ T103 (mkF m 25 #[.val (.ref a1), .val (.ref a2), .val (.ref a2)] [])
  refine Go.of (fun _ hr => XS.aloadN X103.here hx rfl (hb hby d13_25) rfl rfl hr) ?_
  show Go p e s below _ _ _ _ T103 (mkF m 26 #[.val (.ref a1), .val (.ref a2), .val (.ref a2)] [(.ref a1)])
  obtain ⟨T104, X104, e104, st104⟩ := getF X103 hx hZ hown (host := "") (Or.inl (hw _ (List.mem_of_getElem? (i := 30) rfl))) Via.refl e103 Fc1 (g := (mkF m 26 #[.val (.ref a1), .val (.ref a2), .val (.ref a2)] [(.ref a1)])) rfl rfl (hb hby d13_26)
  refine Go.of (fun _ hr => st104 _ hr) ?_
  show Go p e s below _ _ _ _ T104 (mkF m 29 #[.val (.ref a1), .val (.ref a2), .val (.ref a2)] [(.int (0 : Int32))])
  refine Go.of (fun _ hr => XS.aloadN X104.here hx rfl (hb hby d13_29) rfl rfl hr) ?_
  show Go p e s below _ _ _ _ T104 (mkF m 30 #[.val (.ref a1), .val (.ref a2), .val (.ref a2)] [(.ref a2), (.int (0 : Int32))])
  obtain ⟨T105, X105, e105, st105⟩ := getF X104 hx hZ hown (host := "") (Or.inl (hw _ (List.mem_of_getElem? (i := 30) rfl))) Via.refl e104 Fc2 (g := (mkF m 30 #[.val (.ref a1), .val (.ref a2), .val (.ref a2)] [(.ref a2), (.int (0 : Int32))])) rfl rfl (hb hby d13_30)
  refine Go.of (fun _ hr => st105 _ hr) ?_
  show Go p e s below _ _ _ _ T105 (mkF m 33 #[.val (.ref a1), .val (.ref a2), .val (.ref a2)] [(.int (0 : Int32)), (.int (0 : Int32))])
  refine Go.of (fun _ hr => XS.icmpNo X105.here hx rfl (hb hby d13_33) rfl (teq (by decide : ((0 : Int32) = (0 : Int32)))).2 hr) ?_
  show Go p e s below _ _ _ _ T105 (mkF m 36 #[.val (.ref a1), .val (.ref a2), .val (.ref a2)] [])
  refine Go.of (fun _ hr => XS.aloadN X105.here hx rfl (hb hby d13_36) rfl rfl hr) ?_
  show Go p e s below _ _ _ _ T105 (mkF m 37 #[.val (.ref a1), .val (.ref a2), .val (.ref a2)] [(.ref a1)])
  obtain ⟨T106, X106, e106, st106⟩ := getF X105 hx hZ hown (host := "") (Or.inl (hw _ (List.mem_of_getElem? (i := 32) rfl))) Via.refl e105 Fv1 (g := (mkF m 37 #[.val (.ref a1), .val (.ref a2), .val (.ref a2)] [(.ref a1)])) rfl rfl (hb hby d13_37)
  refine Go.of (fun _ hr => st106 _ hr) ?_
  show Go p e s below _ _ _ _ T106 (mkF m 40 #[.val (.ref a1), .val (.ref a2), .val (.ref a2)] [(.ref t1)])
  refine Go.of (fun _ hr => XS.aloadN X106.here hx rfl (hb hby d13_40) rfl rfl hr) ?_
  show Go p e s below _ _ _ _ T106 (mkF m 41 #[.val (.ref a1), .val (.ref a2), .val (.ref a2)] [(.ref a2), (.ref t1)])
  obtain ⟨T107, X107, e107, st107⟩ := getF X106 hx hZ hown (host := "") (Or.inl (hw _ (List.mem_of_getElem? (i := 32) rfl))) Via.refl e106 Fv2 (g := (mkF m 41 #[.val (.ref a1), .val (.ref a2), .val (.ref a2)] [(.ref a2), (.ref t1)])) rfl rfl (hb hby d13_41)
  refine Go.of (fun _ hr => st107 _ hr) ?_
  show Go p e s below _ _ _ _ T107 (mkF m 44 #[.val (.ref a1), .val (.ref a2), .val (.ref a2)] [(.ref t2), (.ref t1)])
  obtain ⟨_, b108, T108, h108, L108, e108, Cc108, X108, B108, J108, g108, hQ108, st108⟩ := own_callS Cc B0 J0 X107 (hw _ (List.mem_of_getElem? (i := 88) rfl)) (hw _ (List.mem_of_getElem? (i := 89) rfl)) (hw _ (List.mem_of_getElem? (i := 90) rfl)) (hw _ (List.mem_of_getElem? (i := 91) rfl)) (by decide) (rm14 l Z a0 hw [] t1 t2 _ _ b1 b2 _ h0 n0 O0 h0.size (own_ole O0) K0.1 hn1 hn2 V1 V2) e107 (g := (mkF m 44 #[.val (.ref a1), .val (.ref a2), .val (.ref a2)] [(.ref t2), (.ref t1)])) rfl (by rw [hml]; rfl) (argsL := [(.ref t1), (.ref t2)]) (rest := []) (lenOf pd4 rfl) rfl (W := 0) (by show 2 * 0 + _ ≤ _; exact Nat.le_of_eq rfl) (hb hby d13_44) (by decide) (by decide) (by decide) (by decide)
  obtain ⟨rfl, Nq108, hh108⟩ := hQ108
  have N108 := Fr.app N0 Nq108
  obtain ⟨hx, hZ, hown, hby, hml, hnm, hret, hlk⟩ := id Cc108
  rw [hh108] at e108 B108 J108
  refine Go.of st108 ?_
  show Go p e s below _ _ _ _ T108 (mkF m 47 #[.val (.ref a1), .val (.ref a2), .val (.ref a2)] [(.int (if b1 = b2 then 1 else 0))])
  by_cases hb47_109 : (if b1 = b2 then 1 else 0) = (0 : Int32)
  · refine Go.of (fun _ hr => XS.ifYes X108.here hx rfl (pc0 := 47) (pc' := 54) rfl (hb hby d13_47) rfl ((if0 _ _).trans (teq hb47_109).1) (by decide) (by decide) hr) ?_
    show Go p e s below _ _ _ _ T108 (mkF m 54 #[.val (.ref a1), .val (.ref a2), .val (.ref a2)] [])
    refine Go.of (fun _ hr => XS.iconst X108.here hx rfl (hb hby d13_54) hr) ?_
    show Go p e s below _ _ _ _ T108 (mkF m 55 #[.val (.ref a1), .val (.ref a2), .val (.ref a2)] [(.int (0 : Int32))])
    exact Go.retN X108 hx hlk B108 J108 e108 (t := .boolean) (z' := (0 : Int32)) hret (by simp) (hb hby d13_55) rfl (by decide) (by decide) (fun vm_ hw_ => ⟨(by rw [if_neg (fun q => by rw [if_pos q] at hb47_109; exact absurd hb47_109 (by decide))]), (fun y hy => Nat.le_trans hnb (N108 y hy)), rfl⟩)
  · refine Go.of (fun _ hr => XS.ifNo X108.here hx rfl (hb hby d13_47) rfl ((if0 _ _).trans (feq hb47_109).1) hr) ?_
    show Go p e s below _ _ _ _ T108 (mkF m 50 #[.val (.ref a1), .val (.ref a2), .val (.ref a2)] [])
    refine Go.of (fun _ hr => XS.iconst X108.here hx rfl (hb hby d13_50) hr) ?_
    show Go p e s below _ _ _ _ T108 (mkF m 51 #[.val (.ref a1), .val (.ref a2), .val (.ref a2)] [(.int (1 : Int32))])
    refine Go.of (fun _ hr => XS.goto X108.here hx rfl (pc0 := 51) (pc' := 55) rfl (hb hby d13_51) (by decide) (by decide) hr) ?_
    show Go p e s below _ _ _ _ T108 (mkF m 55 #[.val (.ref a1), .val (.ref a2), .val (.ref a2)] [(.int (1 : Int32))])
    exact Go.retN X108 hx hlk B108 J108 e108 (t := .boolean) (z' := (1 : Int32)) hret (by simp) (hb hby d13_55) rfl (by decide) (by decide) (fun vm_ hw_ => ⟨(by rw [if_pos (Decidable.byContradiction fun q => by rw [if_neg q] at hb47_109; exact hb47_109 rfl)]), (fun y hy => Nat.le_trans hnb (N108 y hy)), rfl⟩)

theorem pn3 : plainName "com/example/mthd/mthd/rules/MessageFieldTypedAsPinLaw" = true := by first | (simp [plainName, overriddenIn]; done) | decide +kernel
theorem d1_0 : decode method_3_code 0 = .ok (.iload_n 0, 1) := by decide +kernel
theorem d1_1 : decode method_3_code 1 = .ok (.ifCond .ne 14, 3) := by decide +kernel
theorem d1_4 : decode method_3_code 4 = .ok (.new 27, 3) := by decide +kernel
theorem d1_7 : decode method_3_code 7 = .ok (.dup, 1) := by decide +kernel
theorem d1_8 : decode method_3_code 8 = .ok (.iconst 0, 1) := by decide +kernel
theorem d1_9 : decode method_3_code 9 = .ok (.newarray .char, 2) := by decide +kernel
theorem d1_11 : decode method_3_code 11 = .ok (.invokespecial 29, 3) := by decide +kernel
theorem pd5 : parseMethodDescriptor "([C)V" = some ⟨[(.array .char)], none⟩ := by decide +kernel
theorem d1_14 : decode method_3_code 14 = .ok (.areturn, 1) := by decide +kernel
theorem d1_15 : decode method_3_code 15 = .ok (.iload_n 0, 1) := by decide +kernel
theorem d1_16 : decode method_3_code 16 = .ok (.iconst 1, 1) := by decide +kernel
theorem d1_17 : decode method_3_code 17 = .ok (.if_icmp .ne 18, 3) := by decide +kernel
theorem d1_20 : decode method_3_code 20 = .ok (.new 27, 3) := by decide +kernel
theorem d1_23 : decode method_3_code 23 = .ok (.dup, 1) := by decide +kernel
theorem d1_24 : decode method_3_code 24 = .ok (.iconst 1, 1) := by decide +kernel
theorem d1_25 : decode method_3_code 25 = .ok (.newarray .char, 2) := by decide +kernel
theorem d1_27 : decode method_3_code 27 = .ok (.dup, 1) := by decide +kernel
theorem d1_28 : decode method_3_code 28 = .ok (.iconst 0, 1) := by decide +kernel
theorem d1_29 : decode method_3_code 29 = .ok (.iload_n 1, 1) := by decide +kernel
theorem d1_30 : decode method_3_code 30 = .ok (.castore, 1) := by decide +kernel
theorem d1_31 : decode method_3_code 31 = .ok (.invokespecial 29, 3) := by decide +kernel
theorem d1_34 : decode method_3_code 34 = .ok (.areturn, 1) := by decide +kernel
theorem d1_35 : decode method_3_code 35 = .ok (.new 27, 3) := by decide +kernel
theorem d1_38 : decode method_3_code 38 = .ok (.dup, 1) := by decide +kernel
theorem d1_39 : decode method_3_code 39 = .ok (.iconst 2, 1) := by decide +kernel
theorem d1_40 : decode method_3_code 40 = .ok (.newarray .char, 2) := by decide +kernel
theorem d1_42 : decode method_3_code 42 = .ok (.dup, 1) := by decide +kernel
theorem d1_43 : decode method_3_code 43 = .ok (.iconst 0, 1) := by decide +kernel
theorem d1_44 : decode method_3_code 44 = .ok (.iload_n 1, 1) := by decide +kernel
theorem d1_45 : decode method_3_code 45 = .ok (.castore, 1) := by decide +kernel
theorem d1_46 : decode method_3_code 46 = .ok (.dup, 1) := by decide +kernel
theorem d1_47 : decode method_3_code 47 = .ok (.iconst 1, 1) := by decide +kernel
theorem d1_48 : decode method_3_code 48 = .ok (.iload_n 2, 1) := by decide +kernel
theorem d1_49 : decode method_3_code 49 = .ok (.castore, 1) := by decide +kernel
theorem d1_50 : decode method_3_code 50 = .ok (.invokespecial 29, 3) := by decide +kernel
theorem d1_53 : decode method_3_code 53 = .ok (.areturn, 1) := by decide +kernel
set_option maxRecDepth 65536 in
set_option maxHeartbeats 40000000 in
theorem rm1 (l : Launch) (Z : State) (a0 : Array Value) (hw : ∀ d ∈ tables_1, d.before a0 Z = true) (ws : List Jvm.Cond) (n1 x1 x2 : Int32) (zc : Int32) (ms : List Addr) (h0 : Heap) (n0 : Nat) (O0 : Old Z n0 h0) (nb : Nat) (hb0 : n0 ≤ nb) (hnb : nb ≤ h0.size) (hq_x1 : (¬ x1 < 0 ∧ ¬ 255 < x1)) (hq_x2 : (¬ x2 < 0 ∧ ¬ 255 < x2)) (S_C : Sta Z Z.heap "java/lang/String" "COMPACT_STRINGS" "Z" (.int zc)) (hzc : ¬ zc = 0) :
    Con l Z ms (⟨"com/example/mthd/mthd/rules/MessageFieldTypedAsPinLaw", "mk", "(ICC)Ljava/lang/String;"⟩ : MethodName) method_3_code 3 (some (.object "java/lang/String")) ws ({ frames := 4, cells := 4, slots := 10, locals := 66 } : Room) #[(.int n1), (.int x1), (.int x2)] h0 (fun v vm h L => ∃ r t k, v = some (.ref r) ∧ Fr nb L ∧ Ext h0 h ∧ h0.size ≤ r ∧ t ∉ ms ∧ Exa Z h r "java/lang/String" ∧ Fld Z h r "java/lang/String" "value" "[B" (.ref t) ∧ Fld Z h r "java/lang/String" "coder" "B" (.int 0) ∧ Arv Z h t k .byte (Int32.ofNat ((mkL n1 x1 x2).map lo8).length) (((mkL n1 x1 x2).map lo8).map Value.int) (.int 0)) := by
  refine Con.mk (plainFor_of_name pn3) ?_
  intro p e s m below meth c s₁ Cc X0 e0 eb J0 B0 M0
  obtain ⟨hx, hZ, hown, hby, hml, hnm, hret, hlk⟩ := id Cc
  have N0 := Fr.nil h0.size
  have K0 := Keep.refl h0 []
  show Go p e s below _ _ _ _ s₁ (mkF m 0 #[.val (.int n1), .val (.int x1), .val (.int x2)] [])
  refine Go.of (fun _ hr => XS.iloadN X0.here hx rfl (hb hby d1_0) rfl  hr) ?_
  show Go p e s below _ _ _ _ s₁ (mkF m 1 #[.val (.int n1), .val (.int x1), .val (.int x2)] [(.int n1)])
  by_cases hb1_101 : n1 = (0 : Int32)
  · refine Go.of (fun _ hr => XS.ifNo X0.here hx rfl (hb hby d1_1) rfl ((if0 _ _).trans (teq hb1_101).2) hr) ?_
    show Go p e s below _ _ _ _ s₁ (mkF m 4 #[.val (.int n1), .val (.int x1), .val (.int x2)] [])
    obtain ⟨T102, h102, X102, e102, E102, A102, D102, -, st102⟩ := newO X0 hx hZ hown (hw _ (List.mem_of_getElem? (i := 4) rfl)) (hw _ (List.mem_of_getElem? (i := 5) rfl)) (hw _ (List.mem_of_getElem? (i := 6) rfl)) e0 (g := (mkF m 4 #[.val (.int n1), .val (.int x1), .val (.int x2)] [])) rfl (hb hby d1_4) (by decide) (by decide)
    obtain ⟨o102, g102⟩ : ∃ z, z = h0.size := ⟨_, rfl⟩
    rw [← g102] at A102 D102 st102
    have lt102 : o102 < h102.size := A102.lt
    have J102 := J0.add E102 g102 lt102
    have B102 := B0.mono E102.1
    have O102 := O0.ext E102
    have sz102 : h0.size ≤ o102 := Nat.le_trans K0.1 (Nat.le_of_eq g102.symm)
    have fr102 : h0.size ≤ o102 := sz102
    have K102 := K0.ext E102
    have F102_coder : Fld Z h102 o102 "java/lang/String" "coder" "B" (.int (0 : Int32)) := D102 (Or.inr (hw _ (List.mem_of_getElem? (i := 31) rfl))) (ty := .byte) (by decide)
    have F102_value : Fld Z h102 o102 "java/lang/String" "value" "[B" .null := D102 (Or.inr (hw _ (List.mem_of_getElem? (i := 33) rfl))) (ty := (.array .byte)) (by decide)
    refine Go.of (fun _ hr => st102 _ hr) ?_
    show Go p e s below _ _ _ _ T102 (mkF m 7 #[.val (.int n1), .val (.int x1), .val (.int x2)] [(.ref o102)])
    refine Go.of (fun _ hr => XS.dup X102.here hx rfl (hb hby d1_7) rfl rfl hr) ?_
    show Go p e s below _ _ _ _ T102 (mkF m 8 #[.val (.int n1), .val (.int x1), .val (.int x2)] [(.ref o102), (.ref o102)])
    refine Go.of (fun _ hr => XS.iconst X102.here hx rfl (hb hby d1_8) hr) ?_
    show Go p e s below _ _ _ _ T102 (mkF m 9 #[.val (.int n1), .val (.int x1), .val (.int x2)] [(.int (0 : Int32)), (.ref o102), (.ref o102)])
    obtain ⟨T103, h103, k103, X103, e103, E103, A103, st103⟩ := newP X102 hx hZ (hw _ (List.mem_of_getElem? (i := 7) rfl)) e102 (g := (mkF m 9 #[.val (.int n1), .val (.int x1), .val (.int x2)] [(.int (0 : Int32)), (.ref o102), (.ref o102)])) rfl (hb hby d1_9) rfl (by decide) (cap := 0) (by decide) (by decide) (by decide) (by decide)
    obtain ⟨o103, g103⟩ : ∃ z, z = h102.size := ⟨_, rfl⟩
    rw [← g103] at A103 st103
    have ne_o102_o103 : o102 ≠ o103 := Nat.ne_of_lt (Nat.lt_of_lt_of_le A102.lt (Nat.le_of_eq g103.symm))
    have V103 := Arv.new A103 (by decide)
    have lt103 : o103 < h103.size := A103.lt
    have J103 := J102.add E103 g103 lt103
    have B103 := B102.mono E103.1
    have O103 := O102.ext E103
    have sz103 : h0.size ≤ o103 := Nat.le_trans K102.1 (Nat.le_of_eq g103.symm)
    have fr103 : h0.size ≤ o103 := sz103
    have K103 := K102.ext E103
    refine Go.of (fun _ hr => st103 _ hr) ?_
    show Go p e s below _ _ _ _ T103 (mkF m 11 #[.val (.int n1), .val (.int x1), .val (.int x2)] [(.ref o103), (.ref o102), (.ref o102)])
    have f105 := (A102.ext E103)
    have f106 := (F102_value.ext E103)
    have f107 := (F102_coder.ext E103)
    obtain ⟨_, b104, T104, h104, L104, e104, Cc104, X104, B104, J104, g104, hQ104, st104⟩ := own_callI Cc B103 J103 X103 rfl (hw _ (List.mem_of_getElem? (i := 8) rfl)) (hw _ (List.mem_of_getElem? (i := 9) rfl)) (hw _ (List.mem_of_getElem? (i := 6) rfl)) (hw _ (List.mem_of_getElem? (i := 10) rfl)) (by decide) (rm2 l Z a0 hw [] o102 o103 _ [] _ _ zc _ h103 n0 O103 h0.size (own_ole O0) K103.1 fr102 (List.mem_cons_of_mem _ (List.mem_cons_self ..)) (by simp) (by intro x hx; cases hx) V103 (Ne.symm ne_o102_o103) f105 f106 f107 S_C hzc) e103 (g := (mkF m 11 #[.val (.int n1), .val (.int x1), .val (.int x2)] [(.ref o103), (.ref o102), (.ref o102)])) rfl (by rw [hml]; rfl) (argsL := [(.ref o103)]) (rest := [(.ref o102)]) (lenOf pd5 rfl) rfl (W := 1) (by show 2 * 0 + _ ≤ _; exact Nat.le_of_eq rfl) (hb hby d1_11) (by decide) (by decide) (by decide) (by decide)
    obtain ⟨rfl, Nq104, Kq104, t104, kt104, nt104, Fv104, Fc104, Vt104⟩ := hQ104
    have N104 := Fr.app N0 Nq104
    obtain ⟨hx, hZ, hown, hby, hml, hnm, hret, hlk⟩ := id Cc104
    have K104 := K103.trans Kq104 (allS (Or.inr sz102) all0)
    have O104 := O103.keep Kq104 (allS (Nat.le_trans (own_ole O0) fr102) all0)
    refine Go.of st104 ?_
    have nx_t104_o103 : t104 ≠ o103 := fun q => nt104 (by rw [q]; exact (List.mem_cons_self ..))
    have nx_t104_o102 : t104 ≠ o102 := fun q => nt104 (by rw [q]; exact (List.mem_cons_of_mem _ (List.mem_cons_self ..)))
    show Go p e s below _ _ _ _ T104 (mkF m 14 #[.val (.int n1), .val (.int x1), .val (.int x2)] [(.ref o102)])
    have f108 := (f105.keep Kq104)
    exact Go.retA X104 hx hlk B104 (J104.sub fun x hx => (List.mem_cons_of_mem _ (List.mem_cons_of_mem _ hx))) e104 hret rfl rfl (hb hby d1_14) (by decide) (by decide) (fun vm_ hw_ => ⟨_, _, _, rfl, (fun y hy => Nat.le_trans hnb (N104 y hy)), keep_ext K104, sz102, (fun hz => nt104 (List.mem_cons_of_mem _ (List.mem_cons_of_mem _ hz))), f108, Fv104, Fc104, (by rw [show mkL n1 x1 x2 = [] from by simp [mkL, hb1_101]]; exact Vt104)⟩)
  · refine Go.of (fun _ hr => XS.ifYes X0.here hx rfl (pc0 := 1) (pc' := 15) rfl (hb hby d1_1) rfl ((if0 _ _).trans (feq hb1_101).2) (by decide) (by decide) hr) ?_
    show Go p e s below _ _ _ _ s₁ (mkF m 15 #[.val (.int n1), .val (.int x1), .val (.int x2)] [])
    refine Go.of (fun _ hr => XS.iloadN X0.here hx rfl (hb hby d1_15) rfl  hr) ?_
    show Go p e s below _ _ _ _ s₁ (mkF m 16 #[.val (.int n1), .val (.int x1), .val (.int x2)] [(.int n1)])
    refine Go.of (fun _ hr => XS.iconst X0.here hx rfl (hb hby d1_16) hr) ?_
    show Go p e s below _ _ _ _ s₁ (mkF m 17 #[.val (.int n1), .val (.int x1), .val (.int x2)] [(.int (1 : Int32)), (.int n1)])
    by_cases hb17_109 : n1 = (1 : Int32)
    · refine Go.of (fun _ hr => XS.icmpNo X0.here hx rfl (hb hby d1_17) rfl (teq hb17_109).2 hr) ?_
      show Go p e s below _ _ _ _ s₁ (mkF m 20 #[.val (.int n1), .val (.int x1), .val (.int x2)] [])
      obtain ⟨T110, h110, X110, e110, E110, A110, D110, -, st110⟩ := newO X0 hx hZ hown (hw _ (List.mem_of_getElem? (i := 4) rfl)) (hw _ (List.mem_of_getElem? (i := 5) rfl)) (hw _ (List.mem_of_getElem? (i := 6) rfl)) e0 (g := (mkF m 20 #[.val (.int n1), .val (.int x1), .val (.int x2)] [])) rfl (hb hby d1_20) (by decide) (by decide)
      obtain ⟨o110, g110⟩ : ∃ z, z = h0.size := ⟨_, rfl⟩
      rw [← g110] at A110 D110 st110
      have lt110 : o110 < h110.size := A110.lt
      have J110 := J0.add E110 g110 lt110
      have B110 := B0.mono E110.1
      have O110 := O0.ext E110
      have sz110 : h0.size ≤ o110 := Nat.le_trans K0.1 (Nat.le_of_eq g110.symm)
      have fr110 : h0.size ≤ o110 := sz110
      have K110 := K0.ext E110
      have F110_coder : Fld Z h110 o110 "java/lang/String" "coder" "B" (.int (0 : Int32)) := D110 (Or.inr (hw _ (List.mem_of_getElem? (i := 31) rfl))) (ty := .byte) (by decide)
      have F110_value : Fld Z h110 o110 "java/lang/String" "value" "[B" .null := D110 (Or.inr (hw _ (List.mem_of_getElem? (i := 33) rfl))) (ty := (.array .byte)) (by decide)
      refine Go.of (fun _ hr => st110 _ hr) ?_
      show Go p e s below _ _ _ _ T110 (mkF m 23 #[.val (.int n1), .val (.int x1), .val (.int x2)] [(.ref o110)])
      refine Go.of (fun _ hr => XS.dup X110.here hx rfl (hb hby d1_23) rfl rfl hr) ?_
      show Go p e s below _ _ _ _ T110 (mkF m 24 #[.val (.int n1), .val (.int x1), .val (.int x2)] [(.ref o110), (.ref o110)])
      refine Go.of (fun _ hr => XS.iconst X110.here hx rfl (hb hby d1_24) hr) ?_
      show Go p e s below _ _ _ _ T110 (mkF m 25 #[.val (.int n1), .val (.int x1), .val (.int x2)] [(.int (1 : Int32)), (.ref o110), (.ref o110)])
      obtain ⟨T111, h111, k111, X111, e111, E111, A111, st111⟩ := newP X110 hx hZ (hw _ (List.mem_of_getElem? (i := 7) rfl)) e110 (g := (mkF m 25 #[.val (.int n1), .val (.int x1), .val (.int x2)] [(.int (1 : Int32)), (.ref o110), (.ref o110)])) rfl (hb hby d1_25) rfl (by decide) (cap := 1) (by decide) (by decide) (by decide) (by decide)
      obtain ⟨o111, g111⟩ : ∃ z, z = h110.size := ⟨_, rfl⟩
      rw [← g111] at A111 st111
      have ne_o110_o111 : o110 ≠ o111 := Nat.ne_of_lt (Nat.lt_of_lt_of_le A110.lt (Nat.le_of_eq g111.symm))
      have V111 : Arv Z h111 o111 k111 .char (1 : Int32) [(.int (0 : Int32))] (.int (0 : Int32)) := (Arv.new A111 (by decide)).pad (pad_rep [] (.int (0 : Int32)) 1)
      have lt111 : o111 < h111.size := A111.lt
      have J111 := J110.add E111 g111 lt111
      have B111 := B110.mono E111.1
      have O111 := O110.ext E111
      have sz111 : h0.size ≤ o111 := Nat.le_trans K110.1 (Nat.le_of_eq g111.symm)
      have fr111 : h0.size ≤ o111 := sz111
      have K111 := K110.ext E111
      refine Go.of (fun _ hr => st111 _ hr) ?_
      show Go p e s below _ _ _ _ T111 (mkF m 27 #[.val (.int n1), .val (.int x1), .val (.int x2)] [(.ref o111), (.ref o110), (.ref o110)])
      refine Go.of (fun _ hr => XS.dup X111.here hx rfl (hb hby d1_27) rfl rfl hr) ?_
      show Go p e s below _ _ _ _ T111 (mkF m 28 #[.val (.int n1), .val (.int x1), .val (.int x2)] [(.ref o111), (.ref o111), (.ref o110), (.ref o110)])
      refine Go.of (fun _ hr => XS.iconst X111.here hx rfl (hb hby d1_28) hr) ?_
      show Go p e s below _ _ _ _ T111 (mkF m 29 #[.val (.int n1), .val (.int x1), .val (.int x2)] [(.int (0 : Int32)), (.ref o111), (.ref o111), (.ref o110), (.ref o110)])
      refine Go.of (fun _ hr => XS.iloadN X111.here hx rfl (hb hby d1_29) rfl  hr) ?_
      show Go p e s below _ _ _ _ T111 (mkF m 30 #[.val (.int n1), .val (.int x1), .val (.int x2)] [(.int x1), (.int (0 : Int32)), (.ref o111), (.ref o111), (.ref o110), (.ref o110)])
      obtain ⟨cl112, Ar112, q112, S112, N112_, H112, G112⟩ := id V111
      have hin112 : ¬ ((0 : Int32) < 0 ∨ cl112.slots.size ≤ ((0 : Int32)).toNatClampNeg) := inb_of S112 ⟨by decide, by decide⟩
      obtain ⟨T112, h112, X112, e112, W112, st112⟩ := stC X111 hx hZ e111 Ar112 (j := (0 : Int32)) hin112 (g := (mkF m 30 #[.val (.int n1), .val (.int x1), .val (.int x2)] [(.int x1), (.int (0 : Int32)), (.ref o111), (.ref o111), (.ref o110), (.ref o110)])) rfl rfl (hb hby d1_30)
      have W112' := W112
      rw [show nar .char x1 = x1 from (nar_c hq_x1.1 (le255 hq_x1.2))] at W112'
      have V112 : Arv Z h112 o111 k111 .char (1 : Int32) [(.int x1)] (.int (0 : Int32)) := Arv.set Ar112 q112 S112 N112_ H112 G112 (fits_c hq_x1.1 (le255 hq_x1.2)) W112' 0 rfl (by simp)
      have N112 := Fr.snoc X112 N0 fr111
      have J112 := J111.wr W112 (List.mem_cons_self ..)
      have B112 := B111.mono (Nat.le_of_eq W112.size.symm)
      have O112 := O111.wr W112 (Nat.le_trans (own_ole O0) fr111)
      have K112 := K111.wr W112 (Or.inr sz111)
      refine Go.of (fun _ hr => st112 _ hr) ?_
      show Go p e s below _ _ _ _ T112 (mkF m 31 #[.val (.int n1), .val (.int x1), .val (.int x2)] [(.ref o111), (.ref o110), (.ref o110)])
      have f114 := ((A110.ext E111).wr W112)
      have f115 := ((F110_value.ext E111).other W112 (Or.inl ne_o110_o111))
      have f116 := ((F110_coder.ext E111).other W112 (Or.inl ne_o110_o111))
      obtain ⟨_, b113, T113, h113, L113, e113, Cc113, X113, B113, J113, g113, hQ113, st113⟩ := own_callI Cc B112 J112 X112 rfl (hw _ (List.mem_of_getElem? (i := 8) rfl)) (hw _ (List.mem_of_getElem? (i := 9) rfl)) (hw _ (List.mem_of_getElem? (i := 6) rfl)) (hw _ (List.mem_of_getElem? (i := 10) rfl)) (by decide) (rm2 l Z a0 hw [] o110 o111 _ [x1] _ _ zc _ h112 n0 O112 h0.size (own_ole O0) K112.1 fr110 (List.mem_cons_of_mem _ (List.mem_cons_self ..)) (by simp) (by intro x hx; cases List.mem_singleton.mp hx; exact hq_x1) V112 (Ne.symm ne_o110_o111) f114 f115 f116 S_C hzc) e112 (g := (mkF m 31 #[.val (.int n1), .val (.int x1), .val (.int x2)] [(.ref o111), (.ref o110), (.ref o110)])) rfl (by rw [hml]; rfl) (argsL := [(.ref o111)]) (rest := [(.ref o110)]) (lenOf pd5 rfl) rfl (W := 1) (by show 2 * 0 + _ ≤ _; exact Nat.le_of_eq rfl) (hb hby d1_31) (by decide) (by decide) (by decide) (by decide)
      obtain ⟨rfl, Nq113, Kq113, t113, kt113, nt113, Fv113, Fc113, Vt113⟩ := hQ113
      have N113 := Fr.app N112 Nq113
      obtain ⟨hx, hZ, hown, hby, hml, hnm, hret, hlk⟩ := id Cc113
      have K113 := K112.trans Kq113 (allS (Or.inr sz110) all0)
      have O113 := O112.keep Kq113 (allS (Nat.le_trans (own_ole O0) fr110) all0)
      refine Go.of st113 ?_
      have nx_t113_o111 : t113 ≠ o111 := fun q => nt113 (by rw [q]; exact (List.mem_cons_self ..))
      have nx_t113_o110 : t113 ≠ o110 := fun q => nt113 (by rw [q]; exact (List.mem_cons_of_mem _ (List.mem_cons_self ..)))
      show Go p e s below _ _ _ _ T113 (mkF m 34 #[.val (.int n1), .val (.int x1), .val (.int x2)] [(.ref o110)])
      have f117 := (f114.keep Kq113)
      exact Go.retA X113 hx hlk B113 (J113.sub fun x hx => (List.mem_cons_of_mem _ (List.mem_cons_of_mem _ hx))) e113 hret rfl rfl (hb hby d1_34) (by decide) (by decide) (fun vm_ hw_ => ⟨_, _, _, rfl, (fun y hy => Nat.le_trans hnb (N113 y hy)), keep_ext K113, sz110, (fun hz => nt113 (List.mem_cons_of_mem _ (List.mem_cons_of_mem _ hz))), f117, Fv113, Fc113, (by rw [show mkL n1 x1 x2 = [x1] from by simp [mkL, hb1_101, hb17_109]]; exact Vt113)⟩)
    · refine Go.of (fun _ hr => XS.icmpYes X0.here hx rfl (pc0 := 17) (pc' := 35) rfl (hb hby d1_17) rfl (feq hb17_109).2 (by decide) (by decide) hr) ?_
      show Go p e s below _ _ _ _ s₁ (mkF m 35 #[.val (.int n1), .val (.int x1), .val (.int x2)] [])
      obtain ⟨T118, h118, X118, e118, E118, A118, D118, -, st118⟩ := newO X0 hx hZ hown (hw _ (List.mem_of_getElem? (i := 4) rfl)) (hw _ (List.mem_of_getElem? (i := 5) rfl)) (hw _ (List.mem_of_getElem? (i := 6) rfl)) e0 (g := (mkF m 35 #[.val (.int n1), .val (.int x1), .val (.int x2)] [])) rfl (hb hby d1_35) (by decide) (by decide)
      obtain ⟨o118, g118⟩ : ∃ z, z = h0.size := ⟨_, rfl⟩
      rw [← g118] at A118 D118 st118
      have lt118 : o118 < h118.size := A118.lt
      have J118 := J0.add E118 g118 lt118
      have B118 := B0.mono E118.1
      have O118 := O0.ext E118
      have sz118 : h0.size ≤ o118 := Nat.le_trans K0.1 (Nat.le_of_eq g118.symm)
      have fr118 : h0.size ≤ o118 := sz118
      have K118 := K0.ext E118
      have F118_coder : Fld Z h118 o118 "java/lang/String" "coder" "B" (.int (0 : Int32)) := D118 (Or.inr (hw _ (List.mem_of_getElem? (i := 31) rfl))) (ty := .byte) (by decide)
      have F118_value : Fld Z h118 o118 "java/lang/String" "value" "[B" .null := D118 (Or.inr (hw _ (List.mem_of_getElem? (i := 33) rfl))) (ty := (.array .byte)) (by decide)
      refine Go.of (fun _ hr => st118 _ hr) ?_
      show Go p e s below _ _ _ _ T118 (mkF m 38 #[.val (.int n1), .val (.int x1), .val (.int x2)] [(.ref o118)])
      refine Go.of (fun _ hr => XS.dup X118.here hx rfl (hb hby d1_38) rfl rfl hr) ?_
      show Go p e s below _ _ _ _ T118 (mkF m 39 #[.val (.int n1), .val (.int x1), .val (.int x2)] [(.ref o118), (.ref o118)])
      refine Go.of (fun _ hr => XS.iconst X118.here hx rfl (hb hby d1_39) hr) ?_
      show Go p e s below _ _ _ _ T118 (mkF m 40 #[.val (.int n1), .val (.int x1), .val (.int x2)] [(.int (2 : Int32)), (.ref o118), (.ref o118)])
      obtain ⟨T119, h119, k119, X119, e119, E119, A119, st119⟩ := newP X118 hx hZ (hw _ (List.mem_of_getElem? (i := 7) rfl)) e118 (g := (mkF m 40 #[.val (.int n1), .val (.int x1), .val (.int x2)] [(.int (2 : Int32)), (.ref o118), (.ref o118)])) rfl (hb hby d1_40) rfl (by decide) (cap := 2) (by decide) (by decide) (by decide) (by decide)
      obtain ⟨o119, g119⟩ : ∃ z, z = h118.size := ⟨_, rfl⟩
      rw [← g119] at A119 st119
      have ne_o118_o119 : o118 ≠ o119 := Nat.ne_of_lt (Nat.lt_of_lt_of_le A118.lt (Nat.le_of_eq g119.symm))
      have V119 : Arv Z h119 o119 k119 .char (2 : Int32) [(.int (0 : Int32)), (.int (0 : Int32))] (.int (0 : Int32)) := (Arv.new A119 (by decide)).pad (pad_rep [] (.int (0 : Int32)) 2)
      have lt119 : o119 < h119.size := A119.lt
      have J119 := J118.add E119 g119 lt119
      have B119 := B118.mono E119.1
      have O119 := O118.ext E119
      have sz119 : h0.size ≤ o119 := Nat.le_trans K118.1 (Nat.le_of_eq g119.symm)
      have fr119 : h0.size ≤ o119 := sz119
      have K119 := K118.ext E119
      refine Go.of (fun _ hr => st119 _ hr) ?_
      show Go p e s below _ _ _ _ T119 (mkF m 42 #[.val (.int n1), .val (.int x1), .val (.int x2)] [(.ref o119), (.ref o118), (.ref o118)])
      refine Go.of (fun _ hr => XS.dup X119.here hx rfl (hb hby d1_42) rfl rfl hr) ?_
      show Go p e s below _ _ _ _ T119 (mkF m 43 #[.val (.int n1), .val (.int x1), .val (.int x2)] [(.ref o119), (.ref o119), (.ref o118), (.ref o118)])
      refine Go.of (fun _ hr => XS.iconst X119.here hx rfl (hb hby d1_43) hr) ?_
      show Go p e s below _ _ _ _ T119 (mkF m 44 #[.val (.int n1), .val (.int x1), .val (.int x2)] [(.int (0 : Int32)), (.ref o119), (.ref o119), (.ref o118), (.ref o118)])
      refine Go.of (fun _ hr => XS.iloadN X119.here hx rfl (hb hby d1_44) rfl  hr) ?_
      show Go p e s below _ _ _ _ T119 (mkF m 45 #[.val (.int n1), .val (.int x1), .val (.int x2)] [(.int x1), (.int (0 : Int32)), (.ref o119), (.ref o119), (.ref o118), (.ref o118)])
      obtain ⟨cl120, Ar120, q120, S120, N120_, H120, G120⟩ := id V119
      have hin120 : ¬ ((0 : Int32) < 0 ∨ cl120.slots.size ≤ ((0 : Int32)).toNatClampNeg) := inb_of S120 ⟨by decide, by decide⟩
      obtain ⟨T120, h120, X120, e120, W120, st120⟩ := stC X119 hx hZ e119 Ar120 (j := (0 : Int32)) hin120 (g := (mkF m 45 #[.val (.int n1), .val (.int x1), .val (.int x2)] [(.int x1), (.int (0 : Int32)), (.ref o119), (.ref o119), (.ref o118), (.ref o118)])) rfl rfl (hb hby d1_45)
      have W120' := W120
      rw [show nar .char x1 = x1 from (nar_c hq_x1.1 (le255 hq_x1.2))] at W120'
      have V120 : Arv Z h120 o119 k119 .char (2 : Int32) [(.int x1), (.int (0 : Int32))] (.int (0 : Int32)) := Arv.set Ar120 q120 S120 N120_ H120 G120 (fits_c hq_x1.1 (le255 hq_x1.2)) W120' 0 rfl (by simp)
      have N120 := Fr.snoc X120 N0 fr119
      have J120 := J119.wr W120 (List.mem_cons_self ..)
      have B120 := B119.mono (Nat.le_of_eq W120.size.symm)
      have O120 := O119.wr W120 (Nat.le_trans (own_ole O0) fr119)
      have K120 := K119.wr W120 (Or.inr sz119)
      refine Go.of (fun _ hr => st120 _ hr) ?_
      show Go p e s below _ _ _ _ T120 (mkF m 46 #[.val (.int n1), .val (.int x1), .val (.int x2)] [(.ref o119), (.ref o118), (.ref o118)])
      refine Go.of (fun _ hr => XS.dup X120.here hx rfl (hb hby d1_46) rfl rfl hr) ?_
      show Go p e s below _ _ _ _ T120 (mkF m 47 #[.val (.int n1), .val (.int x1), .val (.int x2)] [(.ref o119), (.ref o119), (.ref o118), (.ref o118)])
      refine Go.of (fun _ hr => XS.iconst X120.here hx rfl (hb hby d1_47) hr) ?_
      show Go p e s below _ _ _ _ T120 (mkF m 48 #[.val (.int n1), .val (.int x1), .val (.int x2)] [(.int (1 : Int32)), (.ref o119), (.ref o119), (.ref o118), (.ref o118)])
      refine Go.of (fun _ hr => XS.iloadN X120.here hx rfl (hb hby d1_48) rfl  hr) ?_
      show Go p e s below _ _ _ _ T120 (mkF m 49 #[.val (.int n1), .val (.int x1), .val (.int x2)] [(.int x2), (.int (1 : Int32)), (.ref o119), (.ref o119), (.ref o118), (.ref o118)])
      obtain ⟨cl121, Ar121, q121, S121, N121_, H121, G121⟩ := id V120
      have hin121 : ¬ ((1 : Int32) < 0 ∨ cl121.slots.size ≤ ((1 : Int32)).toNatClampNeg) := inb_of S121 ⟨by decide, by decide⟩
      obtain ⟨T121, h121, X121, e121, W121, st121⟩ := stC X120 hx hZ e120 Ar121 (j := (1 : Int32)) hin121 (g := (mkF m 49 #[.val (.int n1), .val (.int x1), .val (.int x2)] [(.int x2), (.int (1 : Int32)), (.ref o119), (.ref o119), (.ref o118), (.ref o118)])) rfl rfl (hb hby d1_49)
      have W121' := W121
      rw [show nar .char x2 = x2 from (nar_c hq_x2.1 (le255 hq_x2.2))] at W121'
      have V121 : Arv Z h121 o119 k119 .char (2 : Int32) [(.int x1), (.int x2)] (.int (0 : Int32)) := Arv.set Ar121 q121 S121 N121_ H121 G121 (fits_c hq_x2.1 (le255 hq_x2.2)) W121' 1 rfl (by simp)
      have N121 := Fr.snoc X121 N120 fr119
      have J121 := J120.wr W121 (List.mem_cons_self ..)
      have B121 := B120.mono (Nat.le_of_eq W121.size.symm)
      have O121 := O120.wr W121 (Nat.le_trans (own_ole O0) fr119)
      have K121 := K120.wr W121 (Or.inr sz119)
      refine Go.of (fun _ hr => st121 _ hr) ?_
      show Go p e s below _ _ _ _ T121 (mkF m 50 #[.val (.int n1), .val (.int x1), .val (.int x2)] [(.ref o119), (.ref o118), (.ref o118)])
      have f123 := (((A118.ext E119).wr W120).wr W121)
      have f124 := (((F118_value.ext E119).other W120 (Or.inl ne_o118_o119)).other W121 (Or.inl ne_o118_o119))
      have f125 := (((F118_coder.ext E119).other W120 (Or.inl ne_o118_o119)).other W121 (Or.inl ne_o118_o119))
      obtain ⟨_, b122, T122, h122, L122, e122, Cc122, X122, B122, J122, g122, hQ122, st122⟩ := own_callI Cc B121 J121 X121 rfl (hw _ (List.mem_of_getElem? (i := 8) rfl)) (hw _ (List.mem_of_getElem? (i := 9) rfl)) (hw _ (List.mem_of_getElem? (i := 6) rfl)) (hw _ (List.mem_of_getElem? (i := 10) rfl)) (by decide) (rm2 l Z a0 hw [] o118 o119 _ [x1, x2] _ _ zc _ h121 n0 O121 h0.size (own_ole O0) K121.1 fr118 (List.mem_cons_of_mem _ (List.mem_cons_self ..)) (by simp) (by intro x hx; simp only [List.mem_cons, List.not_mem_nil, or_false] at hx; rcases hx with rfl | rfl <;> assumption) V121 (Ne.symm ne_o118_o119) f123 f124 f125 S_C hzc) e121 (g := (mkF m 50 #[.val (.int n1), .val (.int x1), .val (.int x2)] [(.ref o119), (.ref o118), (.ref o118)])) rfl (by rw [hml]; rfl) (argsL := [(.ref o119)]) (rest := [(.ref o118)]) (lenOf pd5 rfl) rfl (W := 1) (by show 2 * 0 + _ ≤ _; exact Nat.le_of_eq rfl) (hb hby d1_50) (by decide) (by decide) (by decide) (by decide)
      obtain ⟨rfl, Nq122, Kq122, t122, kt122, nt122, Fv122, Fc122, Vt122⟩ := hQ122
      have N122 := Fr.app N121 Nq122
      obtain ⟨hx, hZ, hown, hby, hml, hnm, hret, hlk⟩ := id Cc122
      have K122 := K121.trans Kq122 (allS (Or.inr sz118) all0)
      have O122 := O121.keep Kq122 (allS (Nat.le_trans (own_ole O0) fr118) all0)
      refine Go.of st122 ?_
      have nx_t122_o119 : t122 ≠ o119 := fun q => nt122 (by rw [q]; exact (List.mem_cons_self ..))
      have nx_t122_o118 : t122 ≠ o118 := fun q => nt122 (by rw [q]; exact (List.mem_cons_of_mem _ (List.mem_cons_self ..)))
      show Go p e s below _ _ _ _ T122 (mkF m 53 #[.val (.int n1), .val (.int x1), .val (.int x2)] [(.ref o118)])
      have f126 := (f123.keep Kq122)
      exact Go.retA X122 hx hlk B122 (J122.sub fun x hx => (List.mem_cons_of_mem _ (List.mem_cons_of_mem _ hx))) e122 hret rfl rfl (hb hby d1_53) (by decide) (by decide) (fun vm_ hw_ => ⟨_, _, _, rfl, (fun y hy => Nat.le_trans hnb (N122 y hy)), keep_ext K122, sz118, (fun hz => nt122 (List.mem_cons_of_mem _ (List.mem_cons_of_mem _ hz))), f126, Fv122, Fc122, (by rw [show mkL n1 x1 x2 = [x1, x2] from by simp [mkL, hb1_101, hb17_109]]; exact Vt122)⟩)

theorem pn4 : plainName "java/lang/Record" = true := by first | (simp [plainName, overriddenIn]; done) | decide +kernel
theorem d9_0 : decode jdk_30_method_1_code 0 = .ok (.aload_n 0, 1) := by decide +kernel
theorem d9_1 : decode jdk_30_method_1_code 1 = .ok (.invokespecial 1, 3) := by decide +kernel
theorem d9_4 : decode jdk_30_method_1_code 4 = .ok (.return_, 1) := by decide +kernel
set_option maxRecDepth 65536 in
set_option maxHeartbeats 40000000 in
theorem rm9 (l : Launch) (Z : State) (a0 : Array Value) (hw : ∀ d ∈ tables_1, d.before a0 Z = true) (ws : List Jvm.Cond) (a1 : Addr) (ms : List Addr) (h0 : Heap) (n0 : Nat) (O0 : Old Z n0 h0) (nb : Nat) (hb0 : n0 ≤ nb) (hnb : nb ≤ h0.size) :
    Con l Z ms (⟨"java/lang/Record", "<init>", "()V"⟩ : MethodName) jdk_30_method_1_code 1 none ws ({ frames := 1, cells := 0, slots := 0, locals := 12 } : Room) #[(.ref a1)] h0 (fun v vm h L => v = none ∧ Fr nb L ∧ h = h0) := by
  refine Con.mk (plainFor_of_name pn4) ?_
  intro p e s m below meth c s₁ Cc X0 e0 eb J0 B0 M0
  obtain ⟨hx, hZ, hown, hby, hml, hnm, hret, hlk⟩ := id Cc
  have N0 := Fr.nil h0.size
  have K0 := Keep.refl h0 []
  show Go p e s below _ _ _ _ s₁ (mkF m 0 #[.val (.ref a1)] [])
  refine Go.of (fun _ hr => XS.aloadN X0.here hx rfl (hb hby d9_0) rfl rfl hr) ?_
  show Go p e s below _ _ _ _ s₁ (mkF m 1 #[.val (.ref a1)] [(.ref a1)])
  obtain ⟨T101, X101, e101, st101⟩ := initO X0 hx hZ hown (hw _ (List.mem_of_getElem? (i := 48) rfl)) (hw _ (List.mem_of_getElem? (i := 16) rfl)) (hw _ (List.mem_of_getElem? (i := 17) rfl)) e0 (g := (mkF m 1 #[.val (.ref a1)] [(.ref a1)])) rfl (by rw [hml]; rfl) rfl (hb hby d9_1) (by decide) (W := 0) (by show 2 * 0 + _ ≤ _; exact Nat.le_of_eq rfl) (by decide)
  refine Go.of (fun _ hr => st101 _ hr) ?_
  show Go p e s below _ _ _ _ T101 (mkF m 4 #[.val (.ref a1)] [])
  exact Go.retV X101 hx hlk B0 J0 e101 hret (hb hby d9_4) (by decide) (by decide) (fun vm_ hw_ => ⟨rfl, (fun y hy => Nat.le_trans hnb (N0 y hy)), rfl⟩)

theorem pn5 : plainName "com/example/mthd/mthd/rules/MessageField" = true := by first | (simp [plainName, overriddenIn]; done) | decide +kernel
theorem d8_0 : decode prog_42_method_1_code 0 = .ok (.aload_n 0, 1) := by decide +kernel
theorem d8_1 : decode prog_42_method_1_code 1 = .ok (.invokespecial 1, 3) := by decide +kernel
theorem pd6 : parseMethodDescriptor "()V" = some ⟨[], none⟩ := by decide +kernel
theorem d8_4 : decode prog_42_method_1_code 4 = .ok (.aload_n 0, 1) := by decide +kernel
theorem d8_5 : decode prog_42_method_1_code 5 = .ok (.aload_n 1, 1) := by decide +kernel
theorem d8_6 : decode prog_42_method_1_code 6 = .ok (.putfield 7, 3) := by decide +kernel
theorem d8_9 : decode prog_42_method_1_code 9 = .ok (.aload_n 0, 1) := by decide +kernel
theorem d8_10 : decode prog_42_method_1_code 10 = .ok (.aload_n 2, 1) := by decide +kernel
theorem d8_11 : decode prog_42_method_1_code 11 = .ok (.putfield 13, 3) := by decide +kernel
theorem d8_14 : decode prog_42_method_1_code 14 = .ok (.return_, 1) := by decide +kernel
set_option maxRecDepth 65536 in
set_option maxHeartbeats 40000000 in
theorem rm8 (l : Launch) (Z : State) (a0 : Array Value) (hw : ∀ d ∈ tables_1, d.before a0 Z = true) (ws : List Jvm.Cond) (a1 : Addr) (u0 : Value) (x0 : Addr) (u1 : Value) (x1 : Addr) (ms : List Addr) (h0 : Heap) (n0 : Nat) (O0 : Old Z n0 h0) (nb : Nat) (hb0 : n0 ≤ nb) (hnb : nb ≤ h0.size) (fr_a1 : nb ≤ a1) (hm_a1 : a1 ∈ ms) (E1 : Exa Z h0 a1 "com/example/mthd/mthd/rules/MessageField") (F0 : Fld Z h0 a1 "com/example/mthd/mthd/rules/MessageField" "name" "Ljava/lang/String;" u0) (F1 : Fld Z h0 a1 "com/example/mthd/mthd/rules/MessageField" "type" "Ljava/lang/String;" u1) :
    Con l Z ms (⟨"com/example/mthd/mthd/rules/MessageField", "<init>", "(Ljava/lang/String;Ljava/lang/String;)V"⟩ : MethodName) prog_42_method_1_code 3 none ws ({ frames := 2, cells := 0, slots := 0, locals := 24 } : Room) #[(.ref a1), (.ref x0), (.ref x1)] h0 (fun v vm h L => v = none ∧ Fr nb L ∧ Keep h0 h [a1] ∧ Fld Z h a1 "com/example/mthd/mthd/rules/MessageField" "name" "Ljava/lang/String;" (.ref x0) ∧ Fld Z h a1 "com/example/mthd/mthd/rules/MessageField" "type" "Ljava/lang/String;" (.ref x1)) := by
  refine Con.mk (plainFor_of_name pn5) ?_
  intro p e s m below meth c s₁ Cc X0 e0 eb J0 B0 M0
  obtain ⟨hx, hZ, hown, hby, hml, hnm, hret, hlk⟩ := id Cc
  have N0 := Fr.nil nb
  have K0 := Keep.refl h0 [a1]
  show Go p e s below _ _ _ _ s₁ (mkF m 0 #[.val (.ref a1), .val (.ref x0), .val (.ref x1)] [])
  refine Go.of (fun _ hr => XS.aloadN X0.here hx rfl (hb hby d8_0) rfl rfl hr) ?_
  show Go p e s below _ _ _ _ s₁ (mkF m 1 #[.val (.ref a1), .val (.ref x0), .val (.ref x1)] [(.ref a1)])
  obtain ⟨_, b101, T101, h101, L101, e101, Cc101, X101, B101, J101, g101, hQ101, st101⟩ := own_callI Cc B0 J0 X0 rfl (hw _ (List.mem_of_getElem? (i := 43) rfl)) (hw _ (List.mem_of_getElem? (i := 44) rfl)) (hw _ (List.mem_of_getElem? (i := 46) rfl)) (hw _ (List.mem_of_getElem? (i := 47) rfl)) (by decide) (rm9 l Z a0 hw [] a1 _ h0 n0 O0 h0.size (own_ole O0) K0.1) e0 (g := (mkF m 1 #[.val (.ref a1), .val (.ref x0), .val (.ref x1)] [(.ref a1)])) rfl (by rw [hml]; rfl) (argsL := []) (rest := []) (lenOf pd6 rfl) rfl (W := 0) (by show 2 * 0 + _ ≤ _; exact Nat.le_of_eq rfl) (hb hby d8_1) (by decide) (by decide) (by decide) (by decide)
  obtain ⟨rfl, Nq101, hh101⟩ := hQ101
  have N101 := Fr.app N0 (show Fr nb _ from fun y hy => Nat.le_trans hnb (Nq101 y hy))
  have NS101 := Fr.app (Fr.nil _) Nq101
  obtain ⟨hx, hZ, hown, hby, hml, hnm, hret, hlk⟩ := id Cc101
  rw [hh101] at e101 B101 J101
  refine Go.of st101 ?_
  show Go p e s below _ _ _ _ T101 (mkF m 4 #[.val (.ref a1), .val (.ref x0), .val (.ref x1)] [])
  refine Go.of (fun _ hr => XS.aloadN X101.here hx rfl (hb hby d8_4) rfl rfl hr) ?_
  show Go p e s below _ _ _ _ T101 (mkF m 5 #[.val (.ref a1), .val (.ref x0), .val (.ref x1)] [(.ref a1)])
  refine Go.of (fun _ hr => XS.aloadN X101.here hx rfl (hb hby d8_5) rfl rfl hr) ?_
  show Go p e s below _ _ _ _ T101 (mkF m 6 #[.val (.ref a1), .val (.ref x0), .val (.ref x1)] [(.ref x0), (.ref a1)])
  obtain ⟨T102, h102, X102, e102, W102, st102⟩ := putF X101 hx hZ hown (host := "") (Or.inl (hw _ (List.mem_of_getElem? (i := 49) rfl))) Via.refl e101 F0 E1 (Or.inr ⟨(hw _ (List.mem_of_getElem? (i := 50) rfl)), rfl, hnm⟩) (hw _ (List.mem_of_getElem? (i := 38) rfl)) (ty := (.object "java/lang/String")) (by decide) rfl rfl (g := (mkF m 6 #[.val (.ref a1), .val (.ref x0), .val (.ref x1)] [(.ref x0), (.ref a1)])) rfl rfl (hb hby d8_6)
  have N102 := Fr.snoc X102 N101 fr_a1
  have J102 := J101.wr W102 hm_a1
  have B102 := B101.mono (Nat.le_of_eq W102.size.symm)
  have O102 := O0.wr W102 (Nat.le_trans hb0 fr_a1)
  have K102 := K0.wr W102 (Or.inl (List.mem_of_getElem? (i := 0) rfl))
  have Fw102 := F0.same W102
  refine Go.of (fun _ hr => st102 _ hr) ?_
  show Go p e s below _ _ _ _ T102 (mkF m 9 #[.val (.ref a1), .val (.ref x0), .val (.ref x1)] [])
  refine Go.of (fun _ hr => XS.aloadN X102.here hx rfl (hb hby d8_9) rfl rfl hr) ?_
  show Go p e s below _ _ _ _ T102 (mkF m 10 #[.val (.ref a1), .val (.ref x0), .val (.ref x1)] [(.ref a1)])
  refine Go.of (fun _ hr => XS.aloadN X102.here hx rfl (hb hby d8_10) rfl rfl hr) ?_
  show Go p e s below _ _ _ _ T102 (mkF m 11 #[.val (.ref a1), .val (.ref x0), .val (.ref x1)] [(.ref x1), (.ref a1)])
  have f104 := (F1.other W102 (Or.inr (slot_ne (Or.inr (hw _ (List.mem_of_getElem? (i := 52) rfl))) (Or.inr (hw _ (List.mem_of_getElem? (i := 50) rfl))) (by decide) (t := (.object "java/lang/String")) (t' := (.object "java/lang/String")) (by decide) (by decide))))
  have f105 := (E1.wr W102)
  obtain ⟨T103, h103, X103, e103, W103, st103⟩ := putF X102 hx hZ hown (host := "") (Or.inl (hw _ (List.mem_of_getElem? (i := 51) rfl))) Via.refl e102 f104 f105 (Or.inr ⟨(hw _ (List.mem_of_getElem? (i := 52) rfl)), rfl, hnm⟩) (hw _ (List.mem_of_getElem? (i := 38) rfl)) (ty := (.object "java/lang/String")) (by decide) rfl rfl (g := (mkF m 11 #[.val (.ref a1), .val (.ref x0), .val (.ref x1)] [(.ref x1), (.ref a1)])) rfl rfl (hb hby d8_11)
  have N103 := Fr.snoc X103 N102 fr_a1
  have J103 := J102.wr W103 hm_a1
  have B103 := B102.mono (Nat.le_of_eq W103.size.symm)
  have O103 := O102.wr W103 (Nat.le_trans hb0 fr_a1)
  have K103 := K102.wr W103 (Or.inl (List.mem_of_getElem? (i := 0) rfl))
  have Fw103 := f104.same W103
  refine Go.of (fun _ hr => st103 _ hr) ?_
  show Go p e s below _ _ _ _ T103 (mkF m 14 #[.val (.ref a1), .val (.ref x0), .val (.ref x1)] [])
  have f106 := (Fw102.other W103 (Or.inr (slot_ne (Or.inr (hw _ (List.mem_of_getElem? (i := 50) rfl))) (Or.inr (hw _ (List.mem_of_getElem? (i := 52) rfl))) (by decide) (t := (.object "java/lang/String")) (t' := (.object "java/lang/String")) (by decide) (by decide))))
  exact Go.retV X103 hx hlk B103 J103 e103 hret (hb hby d8_14) (by decide) (by decide) (fun vm_ hw_ => ⟨rfl, N103, K103, f106, Fw103⟩)

theorem pn6 : plainName "com/example/mthd/mthd/model/ApiMessage$Field" = true := by first | (simp [plainName, overriddenIn]; done) | decide +kernel
theorem d10_0 : decode prog_19_method_1_code 0 = .ok (.aload_n 0, 1) := by decide +kernel
theorem d10_1 : decode prog_19_method_1_code 1 = .ok (.invokespecial 1, 3) := by decide +kernel
theorem d10_4 : decode prog_19_method_1_code 4 = .ok (.aload_n 0, 1) := by decide +kernel
theorem d10_5 : decode prog_19_method_1_code 5 = .ok (.aload_n 1, 1) := by decide +kernel
theorem d10_6 : decode prog_19_method_1_code 6 = .ok (.putfield 7, 3) := by decide +kernel
theorem d10_9 : decode prog_19_method_1_code 9 = .ok (.aload_n 0, 1) := by decide +kernel
theorem d10_10 : decode prog_19_method_1_code 10 = .ok (.aload_n 2, 1) := by decide +kernel
theorem d10_11 : decode prog_19_method_1_code 11 = .ok (.putfield 13, 3) := by decide +kernel
theorem d10_14 : decode prog_19_method_1_code 14 = .ok (.aload_n 0, 1) := by decide +kernel
theorem d10_15 : decode prog_19_method_1_code 15 = .ok (.iload_n 3, 1) := by decide +kernel
theorem d10_16 : decode prog_19_method_1_code 16 = .ok (.putfield 16, 3) := by decide +kernel
theorem d10_19 : decode prog_19_method_1_code 19 = .ok (.aload_n 0, 1) := by decide +kernel
theorem d10_20 : decode prog_19_method_1_code 20 = .ok (.iload 4, 2) := by decide +kernel
theorem d10_22 : decode prog_19_method_1_code 22 = .ok (.putfield 20, 3) := by decide +kernel
theorem d10_25 : decode prog_19_method_1_code 25 = .ok (.aload_n 0, 1) := by decide +kernel
theorem d10_26 : decode prog_19_method_1_code 26 = .ok (.aload 5, 2) := by decide +kernel
theorem d10_28 : decode prog_19_method_1_code 28 = .ok (.putfield 23, 3) := by decide +kernel
theorem d10_31 : decode prog_19_method_1_code 31 = .ok (.aload_n 0, 1) := by decide +kernel
theorem d10_32 : decode prog_19_method_1_code 32 = .ok (.aload 6, 2) := by decide +kernel
theorem d10_34 : decode prog_19_method_1_code 34 = .ok (.putfield 27, 3) := by decide +kernel
theorem d10_37 : decode prog_19_method_1_code 37 = .ok (.return_, 1) := by decide +kernel
set_option maxRecDepth 65536 in
set_option maxHeartbeats 40000000 in
theorem rm10 (l : Launch) (Z : State) (a0 : Array Value) (hw : ∀ d ∈ tables_1, d.before a0 Z = true) (ws : List Jvm.Cond) (a1 : Addr) (u0 : Value) (x0 : Addr) (u1 : Value) (x1 : Addr) (u2 : Value) (x2 : Int32) (u3 : Value) (x3 : Int32) (u4 : Value) (u5 : Value) (ms : List Addr) (h0 : Heap) (n0 : Nat) (O0 : Old Z n0 h0) (nb : Nat) (hb0 : n0 ≤ nb) (hnb : nb ≤ h0.size) (fr_a1 : nb ≤ a1) (hm_a1 : a1 ∈ ms) (E1 : Exa Z h0 a1 "com/example/mthd/mthd/model/ApiMessage$Field") (F0 : Fld Z h0 a1 "com/example/mthd/mthd/model/ApiMessage$Field" "name" "Ljava/lang/String;" u0) (F1 : Fld Z h0 a1 "com/example/mthd/mthd/model/ApiMessage$Field" "type" "Ljava/lang/String;" u1) (F2 : Fld Z h0 a1 "com/example/mthd/mthd/model/ApiMessage$Field" "repeated" "Z" u2) (hz2 : x2 = 1 ∨ x2 = 0) (F3 : Fld Z h0 a1 "com/example/mthd/mthd/model/ApiMessage$Field" "map" "Z" u3) (hz3 : x3 = 1 ∨ x3 = 0) (F4 : Fld Z h0 a1 "com/example/mthd/mthd/model/ApiMessage$Field" "message" "Ljava/util/Optional;" u4) (F5 : Fld Z h0 a1 "com/example/mthd/mthd/model/ApiMessage$Field" "resource" "Ljava/util/Optional;" u5) :
    Con l Z ms (⟨"com/example/mthd/mthd/model/ApiMessage$Field", "<init>", "(Ljava/lang/String;Ljava/lang/String;ZZLjava/util/Optional;Ljava/util/Optional;)V"⟩ : MethodName) prog_19_method_1_code 7 none ws ({ frames := 2, cells := 0, slots := 0, locals := 24 } : Room) #[(.ref a1), (.ref x0), (.ref x1), (.int x2), (.int x3), .null, .null] h0 (fun v vm h L => v = none ∧ Fr nb L ∧ Keep h0 h [a1] ∧ Fld Z h a1 "com/example/mthd/mthd/model/ApiMessage$Field" "name" "Ljava/lang/String;" (.ref x0) ∧ Fld Z h a1 "com/example/mthd/mthd/model/ApiMessage$Field" "type" "Ljava/lang/String;" (.ref x1) ∧ Fld Z h a1 "com/example/mthd/mthd/model/ApiMessage$Field" "repeated" "Z" (.int x2) ∧ Fld Z h a1 "com/example/mthd/mthd/model/ApiMessage$Field" "map" "Z" (.int x3) ∧ Fld Z h a1 "com/example/mthd/mthd/model/ApiMessage$Field" "message" "Ljava/util/Optional;" .null ∧ Fld Z h a1 "com/example/mthd/mthd/model/ApiMessage$Field" "resource" "Ljava/util/Optional;" .null) := by
  refine Con.mk (plainFor_of_name pn6) ?_
  intro p e s m below meth c s₁ Cc X0 e0 eb J0 B0 M0
  obtain ⟨hx, hZ, hown, hby, hml, hnm, hret, hlk⟩ := id Cc
  have N0 := Fr.nil nb
  have K0 := Keep.refl h0 [a1]
  show Go p e s below _ _ _ _ s₁ (mkF m 0 #[.val (.ref a1), .val (.ref x0), .val (.ref x1), .val (.int x2), .val (.int x3), .val .null, .val .null] [])
  refine Go.of (fun _ hr => XS.aloadN X0.here hx rfl (hb hby d10_0) rfl rfl hr) ?_
  show Go p e s below _ _ _ _ s₁ (mkF m 1 #[.val (.ref a1), .val (.ref x0), .val (.ref x1), .val (.int x2), .val (.int x3), .val .null, .val .null] [(.ref a1)])
  obtain ⟨_, b101, T101, h101, L101, e101, Cc101, X101, B101, J101, g101, hQ101, st101⟩ := own_callI Cc B0 J0 X0 rfl (hw _ (List.mem_of_getElem? (i := 59) rfl)) (hw _ (List.mem_of_getElem? (i := 44) rfl)) (hw _ (List.mem_of_getElem? (i := 46) rfl)) (hw _ (List.mem_of_getElem? (i := 47) rfl)) (by decide) (rm9 l Z a0 hw [] a1 _ h0 n0 O0 h0.size (own_ole O0) K0.1) e0 (g := (mkF m 1 #[.val (.ref a1), .val (.ref x0), .val (.ref x1), .val (.int x2), .val (.int x3), .val .null, .val .null] [(.ref a1)])) rfl (by rw [hml]; rfl) (argsL := []) (rest := []) (lenOf pd6 rfl) rfl (W := 0) (by show 2 * 0 + _ ≤ _; exact Nat.le_of_eq rfl) (hb hby d10_1) (by decide) (by decide) (by decide) (by decide)
  obtain ⟨rfl, Nq101, hh101⟩ := hQ101
  have N101 := Fr.app N0 (show Fr nb _ from fun y hy => Nat.le_trans hnb (Nq101 y hy))
  have NS101 := Fr.app (Fr.nil _) Nq101
  obtain ⟨hx, hZ, hown, hby, hml, hnm, hret, hlk⟩ := id Cc101
  rw [hh101] at e101 B101 J101
  refine Go.of st101 ?_
  show Go p e s below _ _ _ _ T101 (mkF m 4 #[.val (.ref a1), .val (.ref x0), .val (.ref x1), .val (.int x2), .val (.int x3), .val .null, .val .null] [])
  refine Go.of (fun _ hr => XS.aloadN X101.here hx rfl (hb hby d10_4) rfl rfl hr) ?_
  show Go p e s below _ _ _ _ T101 (mkF m 5 #[.val (.ref a1), .val (.ref x0), .val (.ref x1), .val (.int x2), .val (.int x3), .val .null, .val .null] [(.ref a1)])
  refine Go.of (fun _ hr => XS.aloadN X101.here hx rfl (hb hby d10_5) rfl rfl hr) ?_
  show Go p e s below _ _ _ _ T101 (mkF m 6 #[.val (.ref a1), .val (.ref x0), .val (.ref x1), .val (.int x2), .val (.int x3), .val .null, .val .null] [(.ref x0), (.ref a1)])
  obtain ⟨T102, h102, X102, e102, W102, st102⟩ := putF X101 hx hZ hown (host := "") (Or.inl (hw _ (List.mem_of_getElem? (i := 60) rfl))) Via.refl e101 F0 E1 (Or.inr ⟨(hw _ (List.mem_of_getElem? (i := 61) rfl)), rfl, hnm⟩) (hw _ (List.mem_of_getElem? (i := 54) rfl)) (ty := (.object "java/lang/String")) (by decide) rfl rfl (g := (mkF m 6 #[.val (.ref a1), .val (.ref x0), .val (.ref x1), .val (.int x2), .val (.int x3), .val .null, .val .null] [(.ref x0), (.ref a1)])) rfl rfl (hb hby d10_6)
  have N102 := Fr.snoc X102 N101 fr_a1
  have J102 := J101.wr W102 hm_a1
  have B102 := B101.mono (Nat.le_of_eq W102.size.symm)
  have O102 := O0.wr W102 (Nat.le_trans hb0 fr_a1)
  have K102 := K0.wr W102 (Or.inl (List.mem_of_getElem? (i := 0) rfl))
  have Fw102 := F0.same W102
  refine Go.of (fun _ hr => st102 _ hr) ?_
  show Go p e s below _ _ _ _ T102 (mkF m 9 #[.val (.ref a1), .val (.ref x0), .val (.ref x1), .val (.int x2), .val (.int x3), .val .null, .val .null] [])
  refine Go.of (fun _ hr => XS.aloadN X102.here hx rfl (hb hby d10_9) rfl rfl hr) ?_
  show Go p e s below _ _ _ _ T102 (mkF m 10 #[.val (.ref a1), .val (.ref x0), .val (.ref x1), .val (.int x2), .val (.int x3), .val .null, .val .null] [(.ref a1)])
  refine Go.of (fun _ hr => XS.aloadN X102.here hx rfl (hb hby d10_10) rfl rfl hr) ?_
  show Go p e s below _ _ _ _ T102 (mkF m 11 #[.val (.ref a1), .val (.ref x0), .val (.ref x1), .val (.int x2), .val (.int x3), .val .null, .val .null] [(.ref x1), (.ref a1)])
  have f104 := (F1.other W102 (Or.inr (slot_ne (Or.inr (hw _ (List.mem_of_getElem? (i := 63) rfl))) (Or.inr (hw _ (List.mem_of_getElem? (i := 61) rfl))) (by decide) (t := (.object "java/lang/String")) (t' := (.object "java/lang/String")) (by decide) (by decide))))
  have f105 := (E1.wr W102)
  obtain ⟨T103, h103, X103, e103, W103, st103⟩ := putF X102 hx hZ hown (host := "") (Or.inl (hw _ (List.mem_of_getElem? (i := 62) rfl))) Via.refl e102 f104 f105 (Or.inr ⟨(hw _ (List.mem_of_getElem? (i := 63) rfl)), rfl, hnm⟩) (hw _ (List.mem_of_getElem? (i := 54) rfl)) (ty := (.object "java/lang/String")) (by decide) rfl rfl (g := (mkF m 11 #[.val (.ref a1), .val (.ref x0), .val (.ref x1), .val (.int x2), .val (.int x3), .val .null, .val .null] [(.ref x1), (.ref a1)])) rfl rfl (hb hby d10_11)
  have N103 := Fr.snoc X103 N102 fr_a1
  have J103 := J102.wr W103 hm_a1
  have B103 := B102.mono (Nat.le_of_eq W103.size.symm)
  have O103 := O102.wr W103 (Nat.le_trans hb0 fr_a1)
  have K103 := K102.wr W103 (Or.inl (List.mem_of_getElem? (i := 0) rfl))
  have Fw103 := f104.same W103
  refine Go.of (fun _ hr => st103 _ hr) ?_
  show Go p e s below _ _ _ _ T103 (mkF m 14 #[.val (.ref a1), .val (.ref x0), .val (.ref x1), .val (.int x2), .val (.int x3), .val .null, .val .null] [])
  refine Go.of (fun _ hr => XS.aloadN X103.here hx rfl (hb hby d10_14) rfl rfl hr) ?_
  show Go p e s below _ _ _ _ T103 (mkF m 15 #[.val (.ref a1), .val (.ref x0), .val (.ref x1), .val (.int x2), .val (.int x3), .val .null, .val .null] [(.ref a1)])
  refine Go.of (fun _ hr => XS.iloadN X103.here hx rfl (hb hby d10_15) rfl  hr) ?_
  show Go p e s below _ _ _ _ T103 (mkF m 16 #[.val (.ref a1), .val (.ref x0), .val (.ref x1), .val (.int x2), .val (.int x3), .val .null, .val .null] [(.int x2), (.ref a1)])
  have f107 := ((F2.other W102 (Or.inr (slot_ne (Or.inr (hw _ (List.mem_of_getElem? (i := 65) rfl))) (Or.inr (hw _ (List.mem_of_getElem? (i := 61) rfl))) (by decide) (t := .boolean) (t' := (.object "java/lang/String")) (by decide) (by decide)))).other W103 (Or.inr (slot_ne (Or.inr (hw _ (List.mem_of_getElem? (i := 65) rfl))) (Or.inr (hw _ (List.mem_of_getElem? (i := 63) rfl))) (by decide) (t := .boolean) (t' := (.object "java/lang/String")) (by decide) (by decide))))
  have f108 := (f105.wr W103)
  obtain ⟨T106, h106, X106, e106, W106, st106⟩ := putFN X103 hx hZ hown (hw _ (List.mem_of_getElem? (i := 64) rfl)) Via.refl e103 f107 f108 (Or.inr ⟨(hw _ (List.mem_of_getElem? (i := 65) rfl)), rfl, hnm⟩) (hw _ (List.mem_of_getElem? (i := 54) rfl)) (ty := .boolean) (v := (.int x2)) (v' := (.int x2)) (by decide) (congrArg Value.int (nar_z hz2)) (fits_z hz2) (g := (mkF m 16 #[.val (.ref a1), .val (.ref x0), .val (.ref x1), .val (.int x2), .val (.int x3), .val .null, .val .null] [(.int x2), (.ref a1)])) rfl rfl (hb hby d10_16)
  have N106 := Fr.snoc X106 N103 fr_a1
  have J106 := J103.wr W106 hm_a1
  have B106 := B103.mono (Nat.le_of_eq W106.size.symm)
  have O106 := O103.wr W106 (Nat.le_trans hb0 fr_a1)
  have K106 := K103.wr W106 (Or.inl (List.mem_of_getElem? (i := 0) rfl))
  have Fw106 := f107.same W106
  refine Go.of (fun _ hr => st106 _ hr) ?_
  show Go p e s below _ _ _ _ T106 (mkF m 19 #[.val (.ref a1), .val (.ref x0), .val (.ref x1), .val (.int x2), .val (.int x3), .val .null, .val .null] [])
  refine Go.of (fun _ hr => XS.aloadN X106.here hx rfl (hb hby d10_19) rfl rfl hr) ?_
  show Go p e s below _ _ _ _ T106 (mkF m 20 #[.val (.ref a1), .val (.ref x0), .val (.ref x1), .val (.int x2), .val (.int x3), .val .null, .val .null] [(.ref a1)])
  refine Go.of (fun _ hr => XS.iload X106.here hx rfl (hb hby d10_20) rfl  hr) ?_
  show Go p e s below _ _ _ _ T106 (mkF m 22 #[.val (.ref a1), .val (.ref x0), .val (.ref x1), .val (.int x2), .val (.int x3), .val .null, .val .null] [(.int x3), (.ref a1)])
  have f110 := (((F3.other W102 (Or.inr (slot_ne (Or.inr (hw _ (List.mem_of_getElem? (i := 67) rfl))) (Or.inr (hw _ (List.mem_of_getElem? (i := 61) rfl))) (by decide) (t := .boolean) (t' := (.object "java/lang/String")) (by decide) (by decide)))).other W103 (Or.inr (slot_ne (Or.inr (hw _ (List.mem_of_getElem? (i := 67) rfl))) (Or.inr (hw _ (List.mem_of_getElem? (i := 63) rfl))) (by decide) (t := .boolean) (t' := (.object "java/lang/String")) (by decide) (by decide)))).other W106 (Or.inr (slot_ne (Or.inr (hw _ (List.mem_of_getElem? (i := 67) rfl))) (Or.inr (hw _ (List.mem_of_getElem? (i := 65) rfl))) (by decide) (t := .boolean) (t' := .boolean) (by decide) (by decide))))
  have f111 := (f108.wr W106)
  obtain ⟨T109, h109, X109, e109, W109, st109⟩ := putFN X106 hx hZ hown (hw _ (List.mem_of_getElem? (i := 66) rfl)) Via.refl e106 f110 f111 (Or.inr ⟨(hw _ (List.mem_of_getElem? (i := 67) rfl)), rfl, hnm⟩) (hw _ (List.mem_of_getElem? (i := 54) rfl)) (ty := .boolean) (v := (.int x3)) (v' := (.int x3)) (by decide) (congrArg Value.int (nar_z hz3)) (fits_z hz3) (g := (mkF m 22 #[.val (.ref a1), .val (.ref x0), .val (.ref x1), .val (.int x2), .val (.int x3), .val .null, .val .null] [(.int x3), (.ref a1)])) rfl rfl (hb hby d10_22)
  have N109 := Fr.snoc X109 N106 fr_a1
  have J109 := J106.wr W109 hm_a1
  have B109 := B106.mono (Nat.le_of_eq W109.size.symm)
  have O109 := O106.wr W109 (Nat.le_trans hb0 fr_a1)
  have K109 := K106.wr W109 (Or.inl (List.mem_of_getElem? (i := 0) rfl))
  have Fw109 := f110.same W109
  refine Go.of (fun _ hr => st109 _ hr) ?_
  show Go p e s below _ _ _ _ T109 (mkF m 25 #[.val (.ref a1), .val (.ref x0), .val (.ref x1), .val (.int x2), .val (.int x3), .val .null, .val .null] [])
  refine Go.of (fun _ hr => XS.aloadN X109.here hx rfl (hb hby d10_25) rfl rfl hr) ?_
  show Go p e s below _ _ _ _ T109 (mkF m 26 #[.val (.ref a1), .val (.ref x0), .val (.ref x1), .val (.int x2), .val (.int x3), .val .null, .val .null] [(.ref a1)])
  refine Go.of (fun _ hr => XS.aload X109.here hx rfl (hb hby d10_26) rfl rfl hr) ?_
  show Go p e s below _ _ _ _ T109 (mkF m 28 #[.val (.ref a1), .val (.ref x0), .val (.ref x1), .val (.int x2), .val (.int x3), .val .null, .val .null] [.null, (.ref a1)])
  have f113 := ((((F4.other W102 (Or.inr (slot_ne (Or.inr (hw _ (List.mem_of_getElem? (i := 69) rfl))) (Or.inr (hw _ (List.mem_of_getElem? (i := 61) rfl))) (by decide) (t := (.object "java/util/Optional")) (t' := (.object "java/lang/String")) (by decide) (by decide)))).other W103 (Or.inr (slot_ne (Or.inr (hw _ (List.mem_of_getElem? (i := 69) rfl))) (Or.inr (hw _ (List.mem_of_getElem? (i := 63) rfl))) (by decide) (t := (.object "java/util/Optional")) (t' := (.object "java/lang/String")) (by decide) (by decide)))).other W106 (Or.inr (slot_ne (Or.inr (hw _ (List.mem_of_getElem? (i := 69) rfl))) (Or.inr (hw _ (List.mem_of_getElem? (i := 65) rfl))) (by decide) (t := (.object "java/util/Optional")) (t' := .boolean) (by decide) (by decide)))).other W109 (Or.inr (slot_ne (Or.inr (hw _ (List.mem_of_getElem? (i := 69) rfl))) (Or.inr (hw _ (List.mem_of_getElem? (i := 67) rfl))) (by decide) (t := (.object "java/util/Optional")) (t' := .boolean) (by decide) (by decide))))
  have f114 := (f111.wr W109)
  obtain ⟨T112, h112, X112, e112, W112, st112⟩ := putF X109 hx hZ hown (host := "") (Or.inl (hw _ (List.mem_of_getElem? (i := 68) rfl))) Via.refl e109 f113 f114 (Or.inr ⟨(hw _ (List.mem_of_getElem? (i := 69) rfl)), rfl, hnm⟩) (hw _ (List.mem_of_getElem? (i := 54) rfl)) (ty := (.object "java/util/Optional")) (by decide) rfl rfl (g := (mkF m 28 #[.val (.ref a1), .val (.ref x0), .val (.ref x1), .val (.int x2), .val (.int x3), .val .null, .val .null] [.null, (.ref a1)])) rfl rfl (hb hby d10_28)
  have N112 := Fr.snoc X112 N109 fr_a1
  have J112 := J109.wr W112 hm_a1
  have B112 := B109.mono (Nat.le_of_eq W112.size.symm)
  have O112 := O109.wr W112 (Nat.le_trans hb0 fr_a1)
  have K112 := K109.wr W112 (Or.inl (List.mem_of_getElem? (i := 0) rfl))
  have Fw112 := f113.same W112
  refine Go.of (fun _ hr => st112 _ hr) ?_
  show Go p e s below _ _ _ _ T112 (mkF m 31 #[.val (.ref a1), .val (.ref x0), .val (.ref x1), .val (.int x2), .val (.int x3), .val .null, .val .null] [])
  refine Go.of (fun _ hr => XS.aloadN X112.here hx rfl (hb hby d10_31) rfl rfl hr) ?_
  show Go p e s below _ _ _ _ T112 (mkF m 32 #[.val (.ref a1), .val (.ref x0), .val (.ref x1), .val (.int x2), .val (.int x3), .val .null, .val .null] [(.ref a1)])
  refine Go.of (fun _ hr => XS.aload X112.here hx rfl (hb hby d10_32) rfl rfl hr) ?_
  show Go p e s below _ _ _ _ T112 (mkF m 34 #[.val (.ref a1), .val (.ref x0), .val (.ref x1), .val (.int x2), .val (.int x3), .val .null, .val .null] [.null, (.ref a1)])
  have f116 := (((((F5.other W102 (Or.inr (slot_ne (Or.inr (hw _ (List.mem_of_getElem? (i := 71) rfl))) (Or.inr (hw _ (List.mem_of_getElem? (i := 61) rfl))) (by decide) (t := (.object "java/util/Optional")) (t' := (.object "java/lang/String")) (by decide) (by decide)))).other W103 (Or.inr (slot_ne (Or.inr (hw _ (List.mem_of_getElem? (i := 71) rfl))) (Or.inr (hw _ (List.mem_of_getElem? (i := 63) rfl))) (by decide) (t := (.object "java/util/Optional")) (t' := (.object "java/lang/String")) (by decide) (by decide)))).other W106 (Or.inr (slot_ne (Or.inr (hw _ (List.mem_of_getElem? (i := 71) rfl))) (Or.inr (hw _ (List.mem_of_getElem? (i := 65) rfl))) (by decide) (t := (.object "java/util/Optional")) (t' := .boolean) (by decide) (by decide)))).other W109 (Or.inr (slot_ne (Or.inr (hw _ (List.mem_of_getElem? (i := 71) rfl))) (Or.inr (hw _ (List.mem_of_getElem? (i := 67) rfl))) (by decide) (t := (.object "java/util/Optional")) (t' := .boolean) (by decide) (by decide)))).other W112 (Or.inr (slot_ne (Or.inr (hw _ (List.mem_of_getElem? (i := 71) rfl))) (Or.inr (hw _ (List.mem_of_getElem? (i := 69) rfl))) (by decide) (t := (.object "java/util/Optional")) (t' := (.object "java/util/Optional")) (by decide) (by decide))))
  have f117 := (f114.wr W112)
  obtain ⟨T115, h115, X115, e115, W115, st115⟩ := putF X112 hx hZ hown (host := "") (Or.inl (hw _ (List.mem_of_getElem? (i := 70) rfl))) Via.refl e112 f116 f117 (Or.inr ⟨(hw _ (List.mem_of_getElem? (i := 71) rfl)), rfl, hnm⟩) (hw _ (List.mem_of_getElem? (i := 54) rfl)) (ty := (.object "java/util/Optional")) (by decide) rfl rfl (g := (mkF m 34 #[.val (.ref a1), .val (.ref x0), .val (.ref x1), .val (.int x2), .val (.int x3), .val .null, .val .null] [.null, (.ref a1)])) rfl rfl (hb hby d10_34)
  have N115 := Fr.snoc X115 N112 fr_a1
  have J115 := J112.wr W115 hm_a1
  have B115 := B112.mono (Nat.le_of_eq W115.size.symm)
  have O115 := O112.wr W115 (Nat.le_trans hb0 fr_a1)
  have K115 := K112.wr W115 (Or.inl (List.mem_of_getElem? (i := 0) rfl))
  have Fw115 := f116.same W115
  refine Go.of (fun _ hr => st115 _ hr) ?_
  show Go p e s below _ _ _ _ T115 (mkF m 37 #[.val (.ref a1), .val (.ref x0), .val (.ref x1), .val (.int x2), .val (.int x3), .val .null, .val .null] [])
  have f118 := (((((Fw102.other W103 (Or.inr (slot_ne (Or.inr (hw _ (List.mem_of_getElem? (i := 61) rfl))) (Or.inr (hw _ (List.mem_of_getElem? (i := 63) rfl))) (by decide) (t := (.object "java/lang/String")) (t' := (.object "java/lang/String")) (by decide) (by decide)))).other W106 (Or.inr (slot_ne (Or.inr (hw _ (List.mem_of_getElem? (i := 61) rfl))) (Or.inr (hw _ (List.mem_of_getElem? (i := 65) rfl))) (by decide) (t := (.object "java/lang/String")) (t' := .boolean) (by decide) (by decide)))).other W109 (Or.inr (slot_ne (Or.inr (hw _ (List.mem_of_getElem? (i := 61) rfl))) (Or.inr (hw _ (List.mem_of_getElem? (i := 67) rfl))) (by decide) (t := (.object "java/lang/String")) (t' := .boolean) (by decide) (by decide)))).other W112 (Or.inr (slot_ne (Or.inr (hw _ (List.mem_of_getElem? (i := 61) rfl))) (Or.inr (hw _ (List.mem_of_getElem? (i := 69) rfl))) (by decide) (t := (.object "java/lang/String")) (t' := (.object "java/util/Optional")) (by decide) (by decide)))).other W115 (Or.inr (slot_ne (Or.inr (hw _ (List.mem_of_getElem? (i := 61) rfl))) (Or.inr (hw _ (List.mem_of_getElem? (i := 71) rfl))) (by decide) (t := (.object "java/lang/String")) (t' := (.object "java/util/Optional")) (by decide) (by decide))))
  have f119 := ((((Fw103.other W106 (Or.inr (slot_ne (Or.inr (hw _ (List.mem_of_getElem? (i := 63) rfl))) (Or.inr (hw _ (List.mem_of_getElem? (i := 65) rfl))) (by decide) (t := (.object "java/lang/String")) (t' := .boolean) (by decide) (by decide)))).other W109 (Or.inr (slot_ne (Or.inr (hw _ (List.mem_of_getElem? (i := 63) rfl))) (Or.inr (hw _ (List.mem_of_getElem? (i := 67) rfl))) (by decide) (t := (.object "java/lang/String")) (t' := .boolean) (by decide) (by decide)))).other W112 (Or.inr (slot_ne (Or.inr (hw _ (List.mem_of_getElem? (i := 63) rfl))) (Or.inr (hw _ (List.mem_of_getElem? (i := 69) rfl))) (by decide) (t := (.object "java/lang/String")) (t' := (.object "java/util/Optional")) (by decide) (by decide)))).other W115 (Or.inr (slot_ne (Or.inr (hw _ (List.mem_of_getElem? (i := 63) rfl))) (Or.inr (hw _ (List.mem_of_getElem? (i := 71) rfl))) (by decide) (t := (.object "java/lang/String")) (t' := (.object "java/util/Optional")) (by decide) (by decide))))
  have f120 := (((Fw106.other W109 (Or.inr (slot_ne (Or.inr (hw _ (List.mem_of_getElem? (i := 65) rfl))) (Or.inr (hw _ (List.mem_of_getElem? (i := 67) rfl))) (by decide) (t := .boolean) (t' := .boolean) (by decide) (by decide)))).other W112 (Or.inr (slot_ne (Or.inr (hw _ (List.mem_of_getElem? (i := 65) rfl))) (Or.inr (hw _ (List.mem_of_getElem? (i := 69) rfl))) (by decide) (t := .boolean) (t' := (.object "java/util/Optional")) (by decide) (by decide)))).other W115 (Or.inr (slot_ne (Or.inr (hw _ (List.mem_of_getElem? (i := 65) rfl))) (Or.inr (hw _ (List.mem_of_getElem? (i := 71) rfl))) (by decide) (t := .boolean) (t' := (.object "java/util/Optional")) (by decide) (by decide))))
  have f121 := ((Fw109.other W112 (Or.inr (slot_ne (Or.inr (hw _ (List.mem_of_getElem? (i := 67) rfl))) (Or.inr (hw _ (List.mem_of_getElem? (i := 69) rfl))) (by decide) (t := .boolean) (t' := (.object "java/util/Optional")) (by decide) (by decide)))).other W115 (Or.inr (slot_ne (Or.inr (hw _ (List.mem_of_getElem? (i := 67) rfl))) (Or.inr (hw _ (List.mem_of_getElem? (i := 71) rfl))) (by decide) (t := .boolean) (t' := (.object "java/util/Optional")) (by decide) (by decide))))
  have f122 := (Fw112.other W115 (Or.inr (slot_ne (Or.inr (hw _ (List.mem_of_getElem? (i := 69) rfl))) (Or.inr (hw _ (List.mem_of_getElem? (i := 71) rfl))) (by decide) (t := (.object "java/util/Optional")) (t' := (.object "java/util/Optional")) (by decide) (by decide))))
  exact Go.retV X115 hx hlk B115 J115 e115 hret (hb hby d10_37) (by decide) (by decide) (fun vm_ hw_ => ⟨rfl, N115, K115, f118, f119, f120, f121, f122, Fw115⟩)

theorem d12_0 : decode prog_19_method_7_code 0 = .ok (.aload_n 0, 1) := by decide +kernel
theorem d12_1 : decode prog_19_method_7_code 1 = .ok (.getfield 13, 3) := by decide +kernel
theorem d12_4 : decode prog_19_method_7_code 4 = .ok (.areturn, 1) := by decide +kernel
set_option maxRecDepth 65536 in
set_option maxHeartbeats 40000000 in
theorem rm12 (l : Launch) (Z : State) (a0 : Array Value) (hw : ∀ d ∈ tables_1, d.before a0 Z = true) (ws : List Jvm.Cond) (a1 x1 : Addr) (ms : List Addr) (h0 : Heap) (n0 : Nat) (O0 : Old Z n0 h0) (nb : Nat) (hb0 : n0 ≤ nb) (hnb : nb ≤ h0.size) (F1 : Fld Z h0 a1 "com/example/mthd/mthd/model/ApiMessage$Field" "type" "Ljava/lang/String;" (.ref x1)) :
    Con l Z ms (⟨"com/example/mthd/mthd/model/ApiMessage$Field", "type", "()Ljava/lang/String;"⟩ : MethodName) prog_19_method_7_code 1 (some (.object "java/lang/String")) ws ({ frames := 0, cells := 0, slots := 0, locals := 0 } : Room) #[(.ref a1)] h0 (fun v vm h L => v = some (.ref x1) ∧ Fr nb L ∧ h = h0) := by
  refine Con.mk (plainFor_of_name pn6) ?_
  intro p e s m below meth c s₁ Cc X0 e0 eb J0 B0 M0
  obtain ⟨hx, hZ, hown, hby, hml, hnm, hret, hlk⟩ := id Cc
  have N0 := Fr.nil h0.size
  have K0 := Keep.refl h0 []
  show Go p e s below _ _ _ _ s₁ (mkF m 0 #[.val (.ref a1)] [])
  refine Go.of (fun _ hr => XS.aloadN X0.here hx rfl (hb hby d12_0) rfl rfl hr) ?_
  show Go p e s below _ _ _ _ s₁ (mkF m 1 #[.val (.ref a1)] [(.ref a1)])
  obtain ⟨T101, X101, e101, st101⟩ := getF X0 hx hZ hown (host := "") (Or.inl (hw _ (List.mem_of_getElem? (i := 62) rfl))) Via.refl e0 F1 (g := (mkF m 1 #[.val (.ref a1)] [(.ref a1)])) rfl rfl (hb hby d12_1)
  refine Go.of (fun _ hr => st101 _ hr) ?_
  show Go p e s below _ _ _ _ T101 (mkF m 4 #[.val (.ref a1)] [(.ref x1)])
  exact Go.retA X101 hx hlk B0 J0 e101 hret rfl rfl (hb hby d12_4) (by decide) (by decide) (fun vm_ hw_ => ⟨rfl, (fun y hy => Nat.le_trans hnb (N0 y hy)), rfl⟩)

theorem ite_z (p : Prop) [Decidable p] : (if p then (1 : Int32) else 0) = 1 ∨ (if p then (1 : Int32) else 0) = 0 := by split <;> simp

theorem d11_0 : decode prog_42_method_3_code 0 = .ok (.aload_n 1, 1) := by decide +kernel
theorem d11_1 : decode prog_42_method_3_code 1 = .ok (.invokevirtual 59, 3) := by decide +kernel
theorem pd7 : parseMethodDescriptor "()Ljava/lang/String;" = some ⟨[], some (.object "java/lang/String")⟩ := by decide +kernel
theorem d11_4 : decode prog_42_method_3_code 4 = .ok (.aload_n 0, 1) := by decide +kernel
theorem d11_5 : decode prog_42_method_3_code 5 = .ok (.getfield 13, 3) := by decide +kernel
theorem d11_8 : decode prog_42_method_3_code 8 = .ok (.invokevirtual 62, 3) := by decide +kernel
theorem pd8 : parseMethodDescriptor "(Ljava/lang/Object;)Z" = some ⟨[(.object "java/lang/Object")], some .boolean⟩ := by decide +kernel
theorem d11_11 : decode prog_42_method_3_code 11 = .ok (.ireturn, 1) := by decide +kernel
set_option maxRecDepth 65536 in
set_option maxHeartbeats 40000000 in
theorem rm11 (l : Launch) (Z : State) (a0 : Array Value) (hw : ∀ d ∈ tables_1, d.before a0 Z = true) (ws : List Jvm.Cond) (a1 a2 s1 s2 t1 t2 : Addr) (k1 k2 : ClassId) (b1 b2 : List Int32) (zc : Int32) (ms : List Addr) (h0 : Heap) (n0 : Nat) (O0 : Old Z n0 h0) (nb : Nat) (hb0 : n0 ≤ nb) (hnb : nb ≤ h0.size) (hn1 : b1.length < 2147483648) (hn2 : b2.length < 2147483648) (ne12 : s2 ≠ s1) (Ea2 : Exa Z h0 a2 "com/example/mthd/mthd/model/ApiMessage$Field") (Ft1 : Fld Z h0 a1 "com/example/mthd/mthd/rules/MessageField" "type" "Ljava/lang/String;" (.ref s1)) (Ft2 : Fld Z h0 a2 "com/example/mthd/mthd/model/ApiMessage$Field" "type" "Ljava/lang/String;" (.ref s2)) (Es1 : Exa Z h0 s1 "java/lang/String") (Es2 : Exa Z h0 s2 "java/lang/String") (Fv1 : Fld Z h0 s1 "java/lang/String" "value" "[B" (.ref t1)) (Fc1 : Fld Z h0 s1 "java/lang/String" "coder" "B" (.int 0)) (Fv2 : Fld Z h0 s2 "java/lang/String" "value" "[B" (.ref t2)) (Fc2 : Fld Z h0 s2 "java/lang/String" "coder" "B" (.int 0)) (V1 : Arv Z h0 t1 k1 .byte (Int32.ofNat b1.length) (b1.map Value.int) (.int 0)) (V2 : Arv Z h0 t2 k2 .byte (Int32.ofNat b2.length) (b2.map Value.int) (.int 0)) (S_C : Sta Z Z.heap "java/lang/String" "COMPACT_STRINGS" "Z" (.int zc)) (hzc : ¬ zc = 0) :
    Con l Z ms (⟨"com/example/mthd/mthd/rules/MessageField", "typedAs", "(Lcom/example/mthd/mthd/model/ApiMessage$Field;)Z"⟩ : MethodName) prog_42_method_3_code 2 (some .boolean) ws ({ frames := 2, cells := 0, slots := 0, locals := 30 } : Room) #[(.ref a1), (.ref a2)] h0 (fun v vm h L => v = some (.int (if b2 = b1 then 1 else 0)) ∧ Fr nb L ∧ h = h0) := by
  refine Con.mk (plainFor_of_name pn5) ?_
  intro p e s m below meth c s₁ Cc X0 e0 eb J0 B0 M0
  obtain ⟨hx, hZ, hown, hby, hml, hnm, hret, hlk⟩ := id Cc
  have N0 := Fr.nil h0.size
  have K0 := Keep.refl h0 []
  show Go p e s below _ _ _ _ s₁ (mkF m 0 #[.val (.ref a1), .val (.ref a2)] [])
  refine Go.of (fun _ hr => XS.aloadN X0.here hx rfl (hb hby d11_0) rfl rfl hr) ?_
  show Go p e s below _ _ _ _ s₁ (mkF m 1 #[.val (.ref a1), .val (.ref a2)] [(.ref a2)])
  obtain ⟨_, b101, T101, h101, L101, e101, Cc101, X101, B101, J101, g101, hQ101, st101⟩ := own_callV Cc B0 J0 X0 (hw _ (List.mem_of_getElem? (i := 77) rfl)) (hw _ (List.mem_of_getElem? (i := 78) rfl)) (notFace_of_selects (args := #[]) (mvT hZ (hw _ (List.mem_of_getElem? (i := 80) rfl)))) (hw _ (List.mem_of_getElem? (i := 80) rfl)) (hw _ (List.mem_of_getElem? (i := 79) rfl)) (hw _ (List.mem_of_getElem? (i := 55) rfl)) (hw _ (List.mem_of_getElem? (i := 81) rfl)) (by decide) Ea2 (rm12 l Z a0 hw [] a2 s2 _ h0 n0 O0 h0.size (own_ole O0) K0.1 Ft2) e0 (g := (mkF m 1 #[.val (.ref a1), .val (.ref a2)] [(.ref a2)])) rfl (by rw [hml]; rfl) (argsL := []) (rest := []) (lenOf pd7 rfl) rfl (W := 0) (by show 2 * 0 + _ ≤ _; exact Nat.le_of_eq rfl) (hb hby d11_1) (by decide) (by decide) (by decide) (by decide)
  obtain ⟨rfl, Nq101, hh101⟩ := hQ101
  have N101 := Fr.app N0 Nq101
  obtain ⟨hx, hZ, hown, hby, hml, hnm, hret, hlk⟩ := id Cc101
  rw [hh101] at e101 B101 J101
  refine Go.of st101 ?_
  show Go p e s below _ _ _ _ T101 (mkF m 4 #[.val (.ref a1), .val (.ref a2)] [(.ref s2)])
  refine Go.of (fun _ hr => XS.aloadN X101.here hx rfl (hb hby d11_4) rfl rfl hr) ?_
  show Go p e s below _ _ _ _ T101 (mkF m 5 #[.val (.ref a1), .val (.ref a2)] [(.ref a1), (.ref s2)])
  obtain ⟨T102, X102, e102, st102⟩ := getF X101 hx hZ hown (host := "") (Or.inl (hw _ (List.mem_of_getElem? (i := 51) rfl))) Via.refl e101 Ft1 (g := (mkF m 5 #[.val (.ref a1), .val (.ref a2)] [(.ref a1), (.ref s2)])) rfl rfl (hb hby d11_5)
  refine Go.of (fun _ hr => st102 _ hr) ?_
  show Go p e s below _ _ _ _ T102 (mkF m 8 #[.val (.ref a1), .val (.ref a2)] [(.ref s1), (.ref s2)])
  obtain ⟨_, b103, T103, h103, L103, e103, Cc103, X103, B103, J103, g103, hQ103, st103⟩ := own_callV Cc101 B101 J101 X102 (hw _ (List.mem_of_getElem? (i := 82) rfl)) (hw _ (List.mem_of_getElem? (i := 83) rfl)) (notFace_of_selects (args := #[]) (mvT hZ (hw _ (List.mem_of_getElem? (i := 85) rfl)))) (hw _ (List.mem_of_getElem? (i := 85) rfl)) (hw _ (List.mem_of_getElem? (i := 84) rfl)) (hw _ (List.mem_of_getElem? (i := 6) rfl)) (hw _ (List.mem_of_getElem? (i := 86) rfl)) (by decide) Es2 (rm13 l Z a0 hw [] s2 s1 t2 t1 _ _ b2 b1 zc _ h0 n0 O0 h0.size (own_ole O0) K0.1 hn2 hn1 ne12 Es1 Fv2 Fc2 Fv1 Fc1 V2 V1 S_C hzc) e102 (g := (mkF m 8 #[.val (.ref a1), .val (.ref a2)] [(.ref s1), (.ref s2)])) rfl (by rw [hml]; rfl) (argsL := [(.ref s1)]) (rest := []) (lenOf pd8 rfl) rfl (W := 0) (by show 2 * 0 + _ ≤ _; exact Nat.le_of_eq rfl) (hb hby d11_8) (by decide) (by decide) (by decide) (by decide)
  obtain ⟨rfl, Nq103, hh103⟩ := hQ103
  have N103 := Fr.app N101 Nq103
  obtain ⟨hx, hZ, hown, hby, hml, hnm, hret, hlk⟩ := id Cc103
  rw [hh103] at e103 B103 J103
  refine Go.of st103 ?_
  show Go p e s below _ _ _ _ T103 (mkF m 11 #[.val (.ref a1), .val (.ref a2)] [(.int (if b2 = b1 then 1 else 0))])
  exact Go.retN X103 hx hlk B103 J103 e103 (t := .boolean) (z' := (if b2 = b1 then 1 else 0)) hret (by simp) (hb hby d11_11) (nar_z (ite_z _)) (by decide) (by decide) (fun vm_ hw_ => ⟨rfl, (fun y hy => Nat.le_trans hnb (N103 y hy)), rfl⟩)

abbrev LB0 (p1 : Int32) (p2 : Int32) (p3 : Int32) (p4 : Int32) (lt : Int32) (t0 : Int32) (t1 : Int32) (sm : Int32) (lf : Int32) (f0 : Int32) (f1 : Int32) (ln : Int32) (c0 : Int32) (c1 : Int32) (lm : Int32) (m0 : Int32) (m1 : Int32) (s1 : Addr) (s2 : Addr) (x3 : Addr) (x4 : Addr) : Array Slot := #[.val (.int p1), .val (.int p2), .val (.int p3), .val (.int p4), .val (.int lt), .val (.int t0), .val (.int t1), .val (.int sm), .val (.int lf), .val (.int f0), .val (.int f1), .val (.int ln), .val (.int c0), .val (.int c1), .val (.int lm), .val (.int m0), .val (.int m1), .val (.ref s1), .val (.ref s2), .val (.ref x3), .val (.ref x4), .unset, .unset, .unset, .unset, .unset]
abbrev LB1 (p1 : Int32) (p2 : Int32) (p3 : Int32) (p4 : Int32) (lt : Int32) (t0 : Int32) (t1 : Int32) (sm : Int32) (lf : Int32) (f0 : Int32) (f1 : Int32) (ln : Int32) (c0 : Int32) (c1 : Int32) (lm : Int32) (m0 : Int32) (m1 : Int32) (s1 : Addr) (s2 : Addr) (x3 : Addr) (x4 : Addr) (rp : Int32) : Array Slot := #[.val (.int p1), .val (.int p2), .val (.int p3), .val (.int p4), .val (.int lt), .val (.int t0), .val (.int t1), .val (.int sm), .val (.int lf), .val (.int f0), .val (.int f1), .val (.int ln), .val (.int c0), .val (.int c1), .val (.int lm), .val (.int m0), .val (.int m1), .val (.ref s1), .val (.ref s2), .val (.ref x3), .val (.ref x4), .val (.int rp), .unset, .unset, .unset, .unset]
abbrev LB2 (p1 : Int32) (p2 : Int32) (p3 : Int32) (p4 : Int32) (lt : Int32) (t0 : Int32) (t1 : Int32) (sm : Int32) (lf : Int32) (f0 : Int32) (f1 : Int32) (ln : Int32) (c0 : Int32) (c1 : Int32) (lm : Int32) (m0 : Int32) (m1 : Int32) (s1 : Addr) (s2 : Addr) (x3 : Addr) (x4 : Addr) (rp : Int32) (mp : Int32) : Array Slot := #[.val (.int p1), .val (.int p2), .val (.int p3), .val (.int p4), .val (.int lt), .val (.int t0), .val (.int t1), .val (.int sm), .val (.int lf), .val (.int f0), .val (.int f1), .val (.int ln), .val (.int c0), .val (.int c1), .val (.int lm), .val (.int m0), .val (.int m1), .val (.ref s1), .val (.ref s2), .val (.ref x3), .val (.ref x4), .val (.int rp), .val (.int mp), .unset, .unset, .unset]
abbrev LB3 (p1 : Int32) (p2 : Int32) (p3 : Int32) (p4 : Int32) (lt : Int32) (t0 : Int32) (t1 : Int32) (sm : Int32) (lf : Int32) (f0 : Int32) (f1 : Int32) (ln : Int32) (c0 : Int32) (c1 : Int32) (lm : Int32) (m0 : Int32) (m1 : Int32) (s1 : Addr) (s2 : Addr) (x3 : Addr) (x4 : Addr) (rp : Int32) (mp : Int32) (o103 : Addr) : Array Slot := #[.val (.int p1), .val (.int p2), .val (.int p3), .val (.int p4), .val (.int lt), .val (.int t0), .val (.int t1), .val (.int sm), .val (.int lf), .val (.int f0), .val (.int f1), .val (.int ln), .val (.int c0), .val (.int c1), .val (.int lm), .val (.int m0), .val (.int m1), .val (.ref s1), .val (.ref s2), .val (.ref x3), .val (.ref x4), .val (.int rp), .val (.int mp), .val (.ref o103), .unset, .unset]
abbrev LB4 (p1 : Int32) (p2 : Int32) (p3 : Int32) (p4 : Int32) (lt : Int32) (t0 : Int32) (t1 : Int32) (sm : Int32) (lf : Int32) (f0 : Int32) (f1 : Int32) (ln : Int32) (c0 : Int32) (c1 : Int32) (lm : Int32) (m0 : Int32) (m1 : Int32) (s1 : Addr) (s2 : Addr) (x3 : Addr) (x4 : Addr) (rp : Int32) (mp : Int32) (o103 : Addr) (o105 : Addr) : Array Slot := #[.val (.int p1), .val (.int p2), .val (.int p3), .val (.int p4), .val (.int lt), .val (.int t0), .val (.int t1), .val (.int sm), .val (.int lf), .val (.int f0), .val (.int f1), .val (.int ln), .val (.int c0), .val (.int c1), .val (.int lm), .val (.int m0), .val (.int m1), .val (.ref s1), .val (.ref s2), .val (.ref x3), .val (.ref x4), .val (.int rp), .val (.int mp), .val (.ref o103), .val (.ref o105), .unset]
abbrev LB5 (p1 : Int32) (p2 : Int32) (p3 : Int32) (p4 : Int32) (lt : Int32) (t0 : Int32) (t1 : Int32) (sm : Int32) (lf : Int32) (f0 : Int32) (f1 : Int32) (ln : Int32) (c0 : Int32) (c1 : Int32) (lm : Int32) (m0 : Int32) (m1 : Int32) (s1 : Addr) (s2 : Addr) (x3 : Addr) (x4 : Addr) (rp : Int32) (mp : Int32) (o103 : Addr) (o105 : Addr) (ex : Int32) : Array Slot := #[.val (.int p1), .val (.int p2), .val (.int p3), .val (.int p4), .val (.int lt), .val (.int t0), .val (.int t1), .val (.int sm), .val (.int lf), .val (.int f0), .val (.int f1), .val (.int ln), .val (.int c0), .val (.int c1), .val (.int lm), .val (.int m0), .val (.int m1), .val (.ref s1), .val (.ref s2), .val (.ref x3), .val (.ref x4), .val (.int rp), .val (.int mp), .val (.ref o103), .val (.ref o105), .val (.int ex)]
theorem pd9 : parseMethodDescriptor "(Ljava/lang/String;Ljava/lang/String;)V" = some ⟨[(.object "java/lang/String"), (.object "java/lang/String")], none⟩ := by decide +kernel
theorem pd10 : parseMethodDescriptor "(Ljava/lang/String;Ljava/lang/String;ZZLjava/util/Optional;Ljava/util/Optional;)V" = some ⟨[(.object "java/lang/String"), (.object "java/lang/String"), .boolean, .boolean, (.object "java/util/Optional"), (.object "java/util/Optional")], none⟩ := by decide +kernel
theorem pd11 : parseMethodDescriptor "(Lcom/example/mthd/mthd/model/ApiMessage$Field;)Z" = some ⟨[(.object "com/example/mthd/mthd/model/ApiMessage$Field")], some .boolean⟩ := by decide +kernel
set_option maxRecDepth 65536 in
set_option maxHeartbeats 40000000 in
theorem law_tail (l : Launch) (Z : State) (a0 : Array Value) (hw : ∀ d ∈ tables_1, d.before a0 Z = true) {p : Program} {e : Env} {s b T0 : State} {m : MethodId} {args : Array Value} {below : List Frame} {meth : Method} {c : Code} {locs : List Loc} {ms : List Addr} (p1 p2 p3 p4 lt t0 t1 sm lf f0 f1 ln c0 c1 lm m0 m1 : Int32) (s1 s2 x3 x4 v1 v2 : Addr) (k1 k2 : ClassId) (zc : Int32) (h0 : Heap) (n0 : Nat) (O0 : Old Z n0 h0) (nb : Nat) (hb0 : n0 ≤ nb) (hnb : nb ≤ h0.size) (hr_lt : lt = 0 ∨ lt = 1 ∨ lt = 2) (hr_lf : lf = 0 ∨ lf = 1 ∨ lf = 2) (hq_t0 : (¬ t0 < 0 ∧ ¬ 255 < t0)) (hq_t1 : (¬ t1 < 0 ∧ ¬ 255 < t1)) (hq_f0 : (¬ f0 < 0 ∧ ¬ 255 < f0)) (hq_f1 : (¬ f1 < 0 ∧ ¬ 255 < f1)) (ne21 : s2 ≠ s1) (Es1 : Exa Z h0 s1 "java/lang/String") (Fv1 : Fld Z h0 s1 "java/lang/String" "value" "[B" (.ref v1)) (Fc1 : Fld Z h0 s1 "java/lang/String" "coder" "B" (.int 0)) (V1 : Arv Z h0 v1 k1 .byte (Int32.ofNat ((mkL lt t0 t1).map lo8).length) (((mkL lt t0 t1).map lo8).map Value.int) (.int 0)) (Es2 : Exa Z h0 s2 "java/lang/String") (Fv2 : Fld Z h0 s2 "java/lang/String" "value" "[B" (.ref v2)) (Fc2 : Fld Z h0 s2 "java/lang/String" "coder" "B" (.int 0)) (V2 : Arv Z h0 v2 k2 .byte (Int32.ofNat ((mkL lf f0 f1).map lo8).length) (((mkL lf f0 f1).map lo8).map Value.int) (.int 0)) (S_C : Sta Z Z.heap "java/lang/String" "COMPACT_STRINGS" "Z" (.int zc)) (hzc : ¬ zc = 0) (Cc : Cx Z p b m meth c "com/example/mthd/mthd/rules/MessageFieldTypedAsPinLaw" code 26 "law" ret) (X0 : Stand p l e room_1 b m args below meth c T0 locs 16 40) (e0 : T0.heap = h0) (N0 : Fr nb locs) (J0 : Hd Z (ms) b.vm h0) (B0 : Bs s b h0) :
    Go p e s below room_1.cells room_1.slots (Hd Z ms) (fun v vm h L => v = some (.int 1) ∧ Fr nb L) T0 (mkF m 240 (LB0 p1 p2 p3 p4 lt t0 t1 sm lf f0 f1 ln c0 c1 lm m0 m1 s1 s2 x3 x4) []) := by
  obtain ⟨hx, hZ, hown, hby, hml, hnm, hret, hlk⟩ := id Cc
  have K0 := Keep.refl h0 []
  show Go p e s below _ _ _ _ T0 (mkF m 240 (LB0 p1 p2 p3 p4 lt t0 t1 sm lf f0 f1 ln c0 c1 lm m0 m1 s1 s2 x3 x4) [])
  refine Go.of (fun _ hr => XS.iloadN X0.here hx rfl (hb hby at_240) rfl  hr) ?_
  show Go p e s below _ _ _ _ T0 (mkF m 241 (LB0 p1 p2 p3 p4 lt t0 t1 sm lf f0 f1 ln c0 c1 lm m0 m1 s1 s2 x3 x4) [(.int p4)])
  refine Go.of (fun _ hr => XS.bipush X0.here hx rfl (hb hby at_241) hr) ?_
  show Go p e s below _ _ _ _ T0 (mkF m 243 (LB0 p1 p2 p3 p4 lt t0 t1 sm lf f0 f1 ln c0 c1 lm m0 m1 s1 s2 x3 x4) [(.int (8 : Int32)), (.int p4)])
  refine Go.of (fun _ hr => XS.iushr X0.here hx rfl (hb hby at_243) rfl hr) ?_
  show Go p e s below _ _ _ _ T0 (mkF m 244 (LB0 p1 p2 p3 p4 lt t0 t1 sm lf f0 f1 ln c0 c1 lm m0 m1 s1 s2 x3 x4) [(.int ((p4.toUInt32 >>> ((8 : Int32) &&& 31).toUInt32).toInt32))])
  refine Go.of (fun _ hr => XS.iconst X0.here hx rfl (hb hby at_244) hr) ?_
  show Go p e s below _ _ _ _ T0 (mkF m 245 (LB0 p1 p2 p3 p4 lt t0 t1 sm lf f0 f1 ln c0 c1 lm m0 m1 s1 s2 x3 x4) [(.int (1 : Int32)), (.int ((p4.toUInt32 >>> ((8 : Int32) &&& 31).toUInt32).toInt32))])
  refine Go.of (fun _ hr => XS.iand X0.here hx rfl (hb hby at_245) rfl hr) ?_
  show Go p e s below _ _ _ _ T0 (mkF m 246 (LB0 p1 p2 p3 p4 lt t0 t1 sm lf f0 f1 ln c0 c1 lm m0 m1 s1 s2 x3 x4) [(.int (((p4.toUInt32 >>> ((8 : Int32) &&& 31).toUInt32).toInt32) &&& (1 : Int32)))])
  refine Go.join (α := Int32) (fun x_ => (x_ = 1 ∨ x_ = 0)) (fun x_ => (mkF m 254 (LB0 p1 p2 p3 p4 lt t0 t1 sm lf f0 f1 ln c0 c1 lm m0 m1 s1 s2 x3 x4) [(.int x_)])) ?_ ?_
  · rintro rp hj101
    replace hj101 : (rp = 1 ∨ rp = 0) := hj101
    show Go p e s below _ _ _ _ T0 (mkF m 254 (LB0 p1 p2 p3 p4 lt t0 t1 sm lf f0 f1 ln c0 c1 lm m0 m1 s1 s2 x3 x4) [(.int rp)])
    have hz_rp := hj101
    refine Go.of (fun _ hr => XS.istore X0.here hx rfl (hb hby at_254) rfl (l' := (LB1 p1 p2 p3 p4 lt t0 t1 sm lf f0 f1 ln c0 c1 lm m0 m1 s1 s2 x3 x4 rp)) rfl hr) ?_
    show Go p e s below _ _ _ _ T0 (mkF m 256 (LB1 p1 p2 p3 p4 lt t0 t1 sm lf f0 f1 ln c0 c1 lm m0 m1 s1 s2 x3 x4 rp) [])
    refine Go.of (fun _ hr => XS.iloadN X0.here hx rfl (hb hby at_256) rfl  hr) ?_
    show Go p e s below _ _ _ _ T0 (mkF m 257 (LB1 p1 p2 p3 p4 lt t0 t1 sm lf f0 f1 ln c0 c1 lm m0 m1 s1 s2 x3 x4 rp) [(.int p4)])
    refine Go.of (fun _ hr => XS.bipush X0.here hx rfl (hb hby at_257) hr) ?_
    show Go p e s below _ _ _ _ T0 (mkF m 259 (LB1 p1 p2 p3 p4 lt t0 t1 sm lf f0 f1 ln c0 c1 lm m0 m1 s1 s2 x3 x4 rp) [(.int (9 : Int32)), (.int p4)])
    refine Go.of (fun _ hr => XS.iushr X0.here hx rfl (hb hby at_259) rfl hr) ?_
    show Go p e s below _ _ _ _ T0 (mkF m 260 (LB1 p1 p2 p3 p4 lt t0 t1 sm lf f0 f1 ln c0 c1 lm m0 m1 s1 s2 x3 x4 rp) [(.int ((p4.toUInt32 >>> ((9 : Int32) &&& 31).toUInt32).toInt32))])
    refine Go.of (fun _ hr => XS.iconst X0.here hx rfl (hb hby at_260) hr) ?_
    show Go p e s below _ _ _ _ T0 (mkF m 261 (LB1 p1 p2 p3 p4 lt t0 t1 sm lf f0 f1 ln c0 c1 lm m0 m1 s1 s2 x3 x4 rp) [(.int (1 : Int32)), (.int ((p4.toUInt32 >>> ((9 : Int32) &&& 31).toUInt32).toInt32))])
    refine Go.of (fun _ hr => XS.iand X0.here hx rfl (hb hby at_261) rfl hr) ?_
    show Go p e s below _ _ _ _ T0 (mkF m 262 (LB1 p1 p2 p3 p4 lt t0 t1 sm lf f0 f1 ln c0 c1 lm m0 m1 s1 s2 x3 x4 rp) [(.int (((p4.toUInt32 >>> ((9 : Int32) &&& 31).toUInt32).toInt32) &&& (1 : Int32)))])
    refine Go.join (α := Int32) (fun x_ => (x_ = 1 ∨ x_ = 0)) (fun x_ => (mkF m 270 (LB1 p1 p2 p3 p4 lt t0 t1 sm lf f0 f1 ln c0 c1 lm m0 m1 s1 s2 x3 x4 rp) [(.int x_)])) ?_ ?_
    · rintro mp hj102
      replace hj102 : (mp = 1 ∨ mp = 0) := hj102
      show Go p e s below _ _ _ _ T0 (mkF m 270 (LB1 p1 p2 p3 p4 lt t0 t1 sm lf f0 f1 ln c0 c1 lm m0 m1 s1 s2 x3 x4 rp) [(.int mp)])
      have hz_mp := hj102
      refine Go.of (fun _ hr => XS.istore X0.here hx rfl (hb hby at_270) rfl (l' := (LB2 p1 p2 p3 p4 lt t0 t1 sm lf f0 f1 ln c0 c1 lm m0 m1 s1 s2 x3 x4 rp mp)) rfl hr) ?_
      show Go p e s below _ _ _ _ T0 (mkF m 272 (LB2 p1 p2 p3 p4 lt t0 t1 sm lf f0 f1 ln c0 c1 lm m0 m1 s1 s2 x3 x4 rp mp) [])
      obtain ⟨T103, h103, X103, e103, E103, A103, D103, -, st103⟩ := newO X0 hx hZ hown (hw _ (List.mem_of_getElem? (i := 37) rfl)) (hw _ (List.mem_of_getElem? (i := 38) rfl)) (hw _ (List.mem_of_getElem? (i := 39) rfl)) e0 (g := (mkF m 272 (LB2 p1 p2 p3 p4 lt t0 t1 sm lf f0 f1 ln c0 c1 lm m0 m1 s1 s2 x3 x4 rp mp) [])) rfl (hb hby at_272) (by decide) (by decide)
      obtain ⟨o103, g103⟩ : ∃ z, z = h0.size := ⟨_, rfl⟩
      rw [← g103] at A103 D103 st103
      have ne_s1_o103 : s1 ≠ o103 := Nat.ne_of_lt (Nat.lt_of_lt_of_le Es1.lt (Nat.le_of_eq g103.symm))
      have ne_v1_o103 : v1 ≠ o103 := Nat.ne_of_lt (Nat.lt_of_lt_of_le V1.lt (Nat.le_of_eq g103.symm))
      have ne_s2_o103 : s2 ≠ o103 := Nat.ne_of_lt (Nat.lt_of_lt_of_le Es2.lt (Nat.le_of_eq g103.symm))
      have ne_v2_o103 : v2 ≠ o103 := Nat.ne_of_lt (Nat.lt_of_lt_of_le V2.lt (Nat.le_of_eq g103.symm))
      have lt103 : o103 < h103.size := A103.lt
      have J103 := J0.add E103 g103 lt103
      have B103 := B0.mono E103.1
      have O103 := O0.ext E103
      have sz103 : h0.size ≤ o103 := Nat.le_trans K0.1 (Nat.le_of_eq g103.symm)
      have fr103 : nb ≤ o103 := Nat.le_trans hnb sz103
      have K103 := K0.ext E103
      have F103_name : Fld Z h103 o103 "com/example/mthd/mthd/rules/MessageField" "name" "Ljava/lang/String;" .null := D103 (Or.inr (hw _ (List.mem_of_getElem? (i := 50) rfl))) (ty := (.object "java/lang/String")) (by decide)
      have F103_type : Fld Z h103 o103 "com/example/mthd/mthd/rules/MessageField" "type" "Ljava/lang/String;" .null := D103 (Or.inr (hw _ (List.mem_of_getElem? (i := 52) rfl))) (ty := (.object "java/lang/String")) (by decide)
      refine Go.of (fun _ hr => st103 _ hr) ?_
      show Go p e s below _ _ _ _ T103 (mkF m 275 (LB2 p1 p2 p3 p4 lt t0 t1 sm lf f0 f1 ln c0 c1 lm m0 m1 s1 s2 x3 x4 rp mp) [(.ref o103)])
      refine Go.of (fun _ hr => XS.dup X103.here hx rfl (hb hby at_275) rfl rfl hr) ?_
      show Go p e s below _ _ _ _ T103 (mkF m 276 (LB2 p1 p2 p3 p4 lt t0 t1 sm lf f0 f1 ln c0 c1 lm m0 m1 s1 s2 x3 x4 rp mp) [(.ref o103), (.ref o103)])
      refine Go.of (fun _ hr => XS.aload X103.here hx rfl (hb hby at_276) rfl rfl hr) ?_
      show Go p e s below _ _ _ _ T103 (mkF m 278 (LB2 p1 p2 p3 p4 lt t0 t1 sm lf f0 f1 ln c0 c1 lm m0 m1 s1 s2 x3 x4 rp mp) [(.ref x3), (.ref o103), (.ref o103)])
      refine Go.of (fun _ hr => XS.aload X103.here hx rfl (hb hby at_278) rfl rfl hr) ?_
      show Go p e s below _ _ _ _ T103 (mkF m 280 (LB2 p1 p2 p3 p4 lt t0 t1 sm lf f0 f1 ln c0 c1 lm m0 m1 s1 s2 x3 x4 rp mp) [(.ref s1), (.ref x3), (.ref o103), (.ref o103)])
      obtain ⟨_, b104, T104, h104, L104, e104, Cc104, X104, B104, J104, g104, hQ104, st104⟩ := own_callI Cc B103 J103 X103 rfl (hw _ (List.mem_of_getElem? (i := 40) rfl)) (hw _ (List.mem_of_getElem? (i := 41) rfl)) (hw _ (List.mem_of_getElem? (i := 39) rfl)) (hw _ (List.mem_of_getElem? (i := 42) rfl)) (by decide) (rm8 l Z a0 hw [] o103 _ x3 _ s1 _ h103 n0 O103 h0.size (own_ole O0) K103.1 sz103 (List.mem_cons_self ..) A103 F103_name F103_type) e103 (g := (mkF m 280 (LB2 p1 p2 p3 p4 lt t0 t1 sm lf f0 f1 ln c0 c1 lm m0 m1 s1 s2 x3 x4 rp mp) [(.ref s1), (.ref x3), (.ref o103), (.ref o103)])) rfl (by rw [hml]; rfl) (argsL := [(.ref x3), (.ref s1)]) (rest := [(.ref o103)]) (lenOf pd9 rfl) rfl (W := 1) (by show 2 * 0 + _ ≤ _; exact Nat.le_of_eq rfl) (hb hby at_280) (by decide) (by decide) (by decide) (by decide)
      obtain ⟨rfl, Nq104, Kq104, Fs0_104, Fs1_104⟩ := hQ104
      have N104 := Fr.app N0 (show Fr nb _ from fun y hy => Nat.le_trans hnb (Nq104 y hy))
      obtain ⟨hx, hZ, hown, hby, hml, hnm, hret, hlk⟩ := id Cc104
      have K104 := K103.trans Kq104 (allS (Or.inr sz103) all0)
      have O104 := O103.keep Kq104 (allS (Nat.le_trans hb0 fr103) all0)
      refine Go.of st104 ?_
      show Go p e s below _ _ _ _ T104 (mkF m 283 (LB2 p1 p2 p3 p4 lt t0 t1 sm lf f0 f1 ln c0 c1 lm m0 m1 s1 s2 x3 x4 rp mp) [(.ref o103)])
      refine Go.of (fun _ hr => XS.astore X104.here hx rfl (hb hby at_283) rfl rfl (l' := (LB3 p1 p2 p3 p4 lt t0 t1 sm lf f0 f1 ln c0 c1 lm m0 m1 s1 s2 x3 x4 rp mp o103)) rfl hr) ?_
      show Go p e s below _ _ _ _ T104 (mkF m 285 (LB3 p1 p2 p3 p4 lt t0 t1 sm lf f0 f1 ln c0 c1 lm m0 m1 s1 s2 x3 x4 rp mp o103) [])
      obtain ⟨T105, h105, X105, e105, E105, A105, D105, -, st105⟩ := newO X104 hx hZ hown (hw _ (List.mem_of_getElem? (i := 53) rfl)) (hw _ (List.mem_of_getElem? (i := 54) rfl)) (hw _ (List.mem_of_getElem? (i := 55) rfl)) e104 (g := (mkF m 285 (LB3 p1 p2 p3 p4 lt t0 t1 sm lf f0 f1 ln c0 c1 lm m0 m1 s1 s2 x3 x4 rp mp o103) [])) rfl (hb hby at_285) (by decide) (by decide)
      obtain ⟨o105, g105⟩ : ∃ z, z = h104.size := ⟨_, rfl⟩
      rw [← g105] at A105 D105 st105
      have f106 := ((Es1.ext E103).keep Kq104)
      have ne_s1_o105 : s1 ≠ o105 := Nat.ne_of_lt (Nat.lt_of_lt_of_le f106.lt (Nat.le_of_eq g105.symm))
      have f107 := ((V1.ext E103).keep Kq104 (ninS ne_v1_o103 nin0))
      have ne_v1_o105 : v1 ≠ o105 := Nat.ne_of_lt (Nat.lt_of_lt_of_le f107.lt (Nat.le_of_eq g105.symm))
      have f108 := ((Es2.ext E103).keep Kq104)
      have ne_s2_o105 : s2 ≠ o105 := Nat.ne_of_lt (Nat.lt_of_lt_of_le f108.lt (Nat.le_of_eq g105.symm))
      have f109 := ((V2.ext E103).keep Kq104 (ninS ne_v2_o103 nin0))
      have ne_v2_o105 : v2 ≠ o105 := Nat.ne_of_lt (Nat.lt_of_lt_of_le f109.lt (Nat.le_of_eq g105.symm))
      have f110 := (A103.keep Kq104)
      have ne_o103_o105 : o103 ≠ o105 := Nat.ne_of_lt (Nat.lt_of_lt_of_le f110.lt (Nat.le_of_eq g105.symm))
      have lt105 : o105 < h105.size := A105.lt
      have J105 := J104.add E105 g105 lt105
      have B105 := B104.mono E105.1
      have O105 := O104.ext E105
      have sz105 : h0.size ≤ o105 := Nat.le_trans K104.1 (Nat.le_of_eq g105.symm)
      have fr105 : nb ≤ o105 := Nat.le_trans hnb sz105
      have K105 := K104.ext E105
      have F105_name : Fld Z h105 o105 "com/example/mthd/mthd/model/ApiMessage$Field" "name" "Ljava/lang/String;" .null := D105 (Or.inr (hw _ (List.mem_of_getElem? (i := 61) rfl))) (ty := (.object "java/lang/String")) (by decide)
      have F105_type : Fld Z h105 o105 "com/example/mthd/mthd/model/ApiMessage$Field" "type" "Ljava/lang/String;" .null := D105 (Or.inr (hw _ (List.mem_of_getElem? (i := 63) rfl))) (ty := (.object "java/lang/String")) (by decide)
      have F105_repeated : Fld Z h105 o105 "com/example/mthd/mthd/model/ApiMessage$Field" "repeated" "Z" (.int (0 : Int32)) := D105 (Or.inr (hw _ (List.mem_of_getElem? (i := 65) rfl))) (ty := .boolean) (by decide)
      have F105_map : Fld Z h105 o105 "com/example/mthd/mthd/model/ApiMessage$Field" "map" "Z" (.int (0 : Int32)) := D105 (Or.inr (hw _ (List.mem_of_getElem? (i := 67) rfl))) (ty := .boolean) (by decide)
      have F105_message : Fld Z h105 o105 "com/example/mthd/mthd/model/ApiMessage$Field" "message" "Ljava/util/Optional;" .null := D105 (Or.inr (hw _ (List.mem_of_getElem? (i := 69) rfl))) (ty := (.object "java/util/Optional")) (by decide)
      have F105_resource : Fld Z h105 o105 "com/example/mthd/mthd/model/ApiMessage$Field" "resource" "Ljava/util/Optional;" .null := D105 (Or.inr (hw _ (List.mem_of_getElem? (i := 71) rfl))) (ty := (.object "java/util/Optional")) (by decide)
      refine Go.of (fun _ hr => st105 _ hr) ?_
      show Go p e s below _ _ _ _ T105 (mkF m 288 (LB3 p1 p2 p3 p4 lt t0 t1 sm lf f0 f1 ln c0 c1 lm m0 m1 s1 s2 x3 x4 rp mp o103) [(.ref o105)])
      refine Go.of (fun _ hr => XS.dup X105.here hx rfl (hb hby at_288) rfl rfl hr) ?_
      show Go p e s below _ _ _ _ T105 (mkF m 289 (LB3 p1 p2 p3 p4 lt t0 t1 sm lf f0 f1 ln c0 c1 lm m0 m1 s1 s2 x3 x4 rp mp o103) [(.ref o105), (.ref o105)])
      refine Go.of (fun _ hr => XS.aload X105.here hx rfl (hb hby at_289) rfl rfl hr) ?_
      show Go p e s below _ _ _ _ T105 (mkF m 291 (LB3 p1 p2 p3 p4 lt t0 t1 sm lf f0 f1 ln c0 c1 lm m0 m1 s1 s2 x3 x4 rp mp o103) [(.ref x4), (.ref o105), (.ref o105)])
      refine Go.of (fun _ hr => XS.aload X105.here hx rfl (hb hby at_291) rfl rfl hr) ?_
      show Go p e s below _ _ _ _ T105 (mkF m 293 (LB3 p1 p2 p3 p4 lt t0 t1 sm lf f0 f1 ln c0 c1 lm m0 m1 s1 s2 x3 x4 rp mp o103) [(.ref s2), (.ref x4), (.ref o105), (.ref o105)])
      refine Go.of (fun _ hr => XS.iload X105.here hx rfl (hb hby at_293) rfl  hr) ?_
      show Go p e s below _ _ _ _ T105 (mkF m 295 (LB3 p1 p2 p3 p4 lt t0 t1 sm lf f0 f1 ln c0 c1 lm m0 m1 s1 s2 x3 x4 rp mp o103) [(.int rp), (.ref s2), (.ref x4), (.ref o105), (.ref o105)])
      refine Go.of (fun _ hr => XS.iload X105.here hx rfl (hb hby at_295) rfl  hr) ?_
      show Go p e s below _ _ _ _ T105 (mkF m 297 (LB3 p1 p2 p3 p4 lt t0 t1 sm lf f0 f1 ln c0 c1 lm m0 m1 s1 s2 x3 x4 rp mp o103) [(.int mp), (.int rp), (.ref s2), (.ref x4), (.ref o105), (.ref o105)])
      refine Go.of (fun _ hr => XS.aconstNull X105.here hx rfl (hb hby at_297) hr) ?_
      show Go p e s below _ _ _ _ T105 (mkF m 298 (LB3 p1 p2 p3 p4 lt t0 t1 sm lf f0 f1 ln c0 c1 lm m0 m1 s1 s2 x3 x4 rp mp o103) [.null, (.int mp), (.int rp), (.ref s2), (.ref x4), (.ref o105), (.ref o105)])
      refine Go.of (fun _ hr => XS.aconstNull X105.here hx rfl (hb hby at_298) hr) ?_
      show Go p e s below _ _ _ _ T105 (mkF m 299 (LB3 p1 p2 p3 p4 lt t0 t1 sm lf f0 f1 ln c0 c1 lm m0 m1 s1 s2 x3 x4 rp mp o103) [.null, .null, (.int mp), (.int rp), (.ref s2), (.ref x4), (.ref o105), (.ref o105)])
      obtain ⟨_, b111, T111, h111, L111, e111, Cc111, X111, B111, J111, g111, hQ111, st111⟩ := own_callI Cc104 B105 J105 X105 rfl (hw _ (List.mem_of_getElem? (i := 56) rfl)) (hw _ (List.mem_of_getElem? (i := 57) rfl)) (hw _ (List.mem_of_getElem? (i := 55) rfl)) (hw _ (List.mem_of_getElem? (i := 58) rfl)) (by decide) (rm10 l Z a0 hw [] o105 _ x4 _ s2 _ rp _ mp _ _ _ h105 n0 O105 h0.size (own_ole O0) K105.1 sz105 (List.mem_cons_self ..) A105 F105_name F105_type F105_repeated hz_rp F105_map hz_mp F105_message F105_resource) e105 (g := (mkF m 299 (LB3 p1 p2 p3 p4 lt t0 t1 sm lf f0 f1 ln c0 c1 lm m0 m1 s1 s2 x3 x4 rp mp o103) [.null, .null, (.int mp), (.int rp), (.ref s2), (.ref x4), (.ref o105), (.ref o105)])) rfl (by rw [hml]; rfl) (argsL := [(.ref x4), (.ref s2), (.int rp), (.int mp), .null, .null]) (rest := [(.ref o105)]) (lenOf pd10 rfl) rfl (W := 1) (by show 2 * 0 + _ ≤ _; exact Nat.le_of_eq rfl) (hb hby at_299) (by decide) (by decide) (by decide) (by decide)
      obtain ⟨rfl, Nq111, Kq111, Fs0_111, Fs1_111, Fs2_111, Fs3_111, Fs4_111, Fs5_111⟩ := hQ111
      have N111 := Fr.app N104 (show Fr nb _ from fun y hy => Nat.le_trans hnb (Nq111 y hy))
      obtain ⟨hx, hZ, hown, hby, hml, hnm, hret, hlk⟩ := id Cc111
      have K111 := K105.trans Kq111 (allS (Or.inr sz105) all0)
      have O111 := O105.keep Kq111 (allS (Nat.le_trans hb0 fr105) all0)
      refine Go.of st111 ?_
      show Go p e s below _ _ _ _ T111 (mkF m 302 (LB3 p1 p2 p3 p4 lt t0 t1 sm lf f0 f1 ln c0 c1 lm m0 m1 s1 s2 x3 x4 rp mp o103) [(.ref o105)])
      refine Go.of (fun _ hr => XS.astore X111.here hx rfl (hb hby at_302) rfl rfl (l' := (LB4 p1 p2 p3 p4 lt t0 t1 sm lf f0 f1 ln c0 c1 lm m0 m1 s1 s2 x3 x4 rp mp o103 o105)) rfl hr) ?_
      show Go p e s below _ _ _ _ T111 (mkF m 304 (LB4 p1 p2 p3 p4 lt t0 t1 sm lf f0 f1 ln c0 c1 lm m0 m1 s1 s2 x3 x4 rp mp o103 o105) [])
      refine Go.of (fun _ hr => XS.iload X111.here hx rfl (hb hby at_304) rfl  hr) ?_
      show Go p e s below _ _ _ _ T111 (mkF m 306 (LB4 p1 p2 p3 p4 lt t0 t1 sm lf f0 f1 ln c0 c1 lm m0 m1 s1 s2 x3 x4 rp mp o103 o105) [(.int lt)])
      refine Go.of (fun _ hr => XS.iload X111.here hx rfl (hb hby at_306) rfl  hr) ?_
      show Go p e s below _ _ _ _ T111 (mkF m 308 (LB4 p1 p2 p3 p4 lt t0 t1 sm lf f0 f1 ln c0 c1 lm m0 m1 s1 s2 x3 x4 rp mp o103 o105) [(.int lf), (.int lt)])
      refine Go.join (α := Int32) (fun x_ => x_ = (if ((mkL lf f0 f1).map lo8 = (mkL lt t0 t1).map lo8) then 1 else 0)) (fun x_ => (mkF m 342 (LB4 p1 p2 p3 p4 lt t0 t1 sm lf f0 f1 ln c0 c1 lm m0 m1 s1 s2 x3 x4 rp mp o103 o105) [(.int x_)])) ?_ ?_
      · rintro ex hj112
        replace hj112 : ex = (if ((mkL lf f0 f1).map lo8 = (mkL lt t0 t1).map lo8) then 1 else 0) := hj112
        show Go p e s below _ _ _ _ T111 (mkF m 342 (LB4 p1 p2 p3 p4 lt t0 t1 sm lf f0 f1 ln c0 c1 lm m0 m1 s1 s2 x3 x4 rp mp o103 o105) [(.int ex)])
        refine Go.of (fun _ hr => XS.istore X111.here hx rfl (hb hby at_342) rfl (l' := (LB5 p1 p2 p3 p4 lt t0 t1 sm lf f0 f1 ln c0 c1 lm m0 m1 s1 s2 x3 x4 rp mp o103 o105 ex)) rfl hr) ?_
        show Go p e s below _ _ _ _ T111 (mkF m 344 (LB5 p1 p2 p3 p4 lt t0 t1 sm lf f0 f1 ln c0 c1 lm m0 m1 s1 s2 x3 x4 rp mp o103 o105 ex) [])
        refine Go.of (fun _ hr => XS.aload X111.here hx rfl (hb hby at_344) rfl rfl hr) ?_
        show Go p e s below _ _ _ _ T111 (mkF m 346 (LB5 p1 p2 p3 p4 lt t0 t1 sm lf f0 f1 ln c0 c1 lm m0 m1 s1 s2 x3 x4 rp mp o103 o105 ex) [(.ref o103)])
        refine Go.of (fun _ hr => XS.aload X111.here hx rfl (hb hby at_346) rfl rfl hr) ?_
        show Go p e s below _ _ _ _ T111 (mkF m 348 (LB5 p1 p2 p3 p4 lt t0 t1 sm lf f0 f1 ln c0 c1 lm m0 m1 s1 s2 x3 x4 rp mp o103 o105 ex) [(.ref o105), (.ref o103)])
        have f114 := (A105.keep Kq111)
        have f115 := ((Fs1_104.ext E105).keep Kq111 (ninS ne_o103_o105 nin0))
        have f116 := ((f106.ext E105).keep Kq111)
        have f117 := ((f108.ext E105).keep Kq111)
        have f118 := ((((Fv1.ext E103).keep Kq104 (ninS ne_s1_o103 nin0)).ext E105).keep Kq111 (ninS ne_s1_o105 nin0))
        have f119 := ((((Fc1.ext E103).keep Kq104 (ninS ne_s1_o103 nin0)).ext E105).keep Kq111 (ninS ne_s1_o105 nin0))
        have f120 := ((((Fv2.ext E103).keep Kq104 (ninS ne_s2_o103 nin0)).ext E105).keep Kq111 (ninS ne_s2_o105 nin0))
        have f121 := ((((Fc2.ext E103).keep Kq104 (ninS ne_s2_o103 nin0)).ext E105).keep Kq111 (ninS ne_s2_o105 nin0))
        have f122 := ((f107.ext E105).keep Kq111 (ninS ne_v1_o105 nin0))
        have f123 := ((f109.ext E105).keep Kq111 (ninS ne_v2_o105 nin0))
        have f124 := ((f110.ext E105).keep Kq111)
        obtain ⟨_, b113, T113, h113, L113, e113, Cc113, X113, B113, J113, g113, hQ113, st113⟩ := own_callV Cc111 B111 J111 X111 (hw _ (List.mem_of_getElem? (i := 72) rfl)) (hw _ (List.mem_of_getElem? (i := 73) rfl)) (notFace_of_selects (args := #[]) (mvT hZ (hw _ (List.mem_of_getElem? (i := 75) rfl)))) (hw _ (List.mem_of_getElem? (i := 75) rfl)) (hw _ (List.mem_of_getElem? (i := 74) rfl)) (hw _ (List.mem_of_getElem? (i := 39) rfl)) (hw _ (List.mem_of_getElem? (i := 76) rfl)) (by decide) f124 (rm11 l Z a0 hw [] o103 o105 s1 s2 v1 v2 _ _ ((mkL lt t0 t1).map lo8) ((mkL lf f0 f1).map lo8) zc _ h111 n0 O111 h0.size (own_ole O0) K111.1 (mkL_len ..) (mkL_len ..) ne21 f114 f115 Fs1_111 f116 f117 f118 f119 f120 f121 f122 f123 S_C hzc) e111 (g := (mkF m 348 (LB5 p1 p2 p3 p4 lt t0 t1 sm lf f0 f1 ln c0 c1 lm m0 m1 s1 s2 x3 x4 rp mp o103 o105 ex) [(.ref o105), (.ref o103)])) rfl (by rw [hml]; rfl) (argsL := [(.ref o105)]) (rest := []) (lenOf pd11 rfl) rfl (W := 0) (by show 2 * 0 + _ ≤ _; exact Nat.le_of_eq rfl) (hb hby at_348) (by decide) (by decide) (by decide) (by decide)
        obtain ⟨rfl, Nq113, hh113⟩ := hQ113
        have N113 := Fr.app N111 (show Fr nb _ from fun y hy => Nat.le_trans hnb (Nq113 y hy))
        obtain ⟨hx, hZ, hown, hby, hml, hnm, hret, hlk⟩ := id Cc113
        rw [hh113] at e113 B113 J113
        refine Go.of st113 ?_
        show Go p e s below _ _ _ _ T113 (mkF m 351 (LB5 p1 p2 p3 p4 lt t0 t1 sm lf f0 f1 ln c0 c1 lm m0 m1 s1 s2 x3 x4 rp mp o103 o105 ex) [(.int (if ((mkL lf f0 f1).map lo8) = ((mkL lt t0 t1).map lo8) then 1 else 0))])
        refine Go.of (fun _ hr => XS.iload X113.here hx rfl (hb hby at_351) rfl  hr) ?_
        show Go p e s below _ _ _ _ T113 (mkF m 353 (LB5 p1 p2 p3 p4 lt t0 t1 sm lf f0 f1 ln c0 c1 lm m0 m1 s1 s2 x3 x4 rp mp o103 o105 ex) [(.int ex), (.int (if ((mkL lf f0 f1).map lo8) = ((mkL lt t0 t1).map lo8) then 1 else 0))])
        refine Go.of (fun _ hr => XS.icmpNo X113.here hx rfl (hb hby at_353) rfl (teq hj112.symm).2 hr) ?_
        show Go p e s below _ _ _ _ T113 (mkF m 356 (LB5 p1 p2 p3 p4 lt t0 t1 sm lf f0 f1 ln c0 c1 lm m0 m1 s1 s2 x3 x4 rp mp o103 o105 ex) [])
        refine Go.of (fun _ hr => XS.iconst X113.here hx rfl (hb hby at_356) hr) ?_
        show Go p e s below _ _ _ _ T113 (mkF m 357 (LB5 p1 p2 p3 p4 lt t0 t1 sm lf f0 f1 ln c0 c1 lm m0 m1 s1 s2 x3 x4 rp mp o103 o105 ex) [(.int (1 : Int32))])
        refine Go.of (fun _ hr => XS.goto X113.here hx rfl (pc0 := 357) (pc' := 361) rfl (hb hby at_357) (by decide) (by decide) hr) ?_
        show Go p e s below _ _ _ _ T113 (mkF m 361 (LB5 p1 p2 p3 p4 lt t0 t1 sm lf f0 f1 ln c0 c1 lm m0 m1 s1 s2 x3 x4 rp mp o103 o105 ex) [(.int (1 : Int32))])
        exact Go.retN X113 hx hlk B113 (J113.sub fun x hx => (List.mem_cons_of_mem _ (List.mem_cons_of_mem _ hx))) e113 (t := .boolean) (z' := (1 : Int32)) hret (by simp) (hb hby at_361) rfl (by decide) (by decide) (fun vm_ hw_ => ⟨rfl, N113⟩)
      intro jn112
      show Go p e s below _ _ _ _ T111 (mkF m 308 (LB4 p1 p2 p3 p4 lt t0 t1 sm lf f0 f1 ln c0 c1 lm m0 m1 s1 s2 x3 x4 rp mp o103 o105) [(.int lf), (.int lt)])
      by_cases hb308_125 : lt = lf
      · refine Go.of (fun _ hr => XS.icmpNo X111.here hx rfl (hb hby at_308) rfl (teq hb308_125).2 hr) ?_
        show Go p e s below _ _ _ _ T111 (mkF m 311 (LB4 p1 p2 p3 p4 lt t0 t1 sm lf f0 f1 ln c0 c1 lm m0 m1 s1 s2 x3 x4 rp mp o103 o105) [])
        refine Go.of (fun _ hr => XS.iload X111.here hx rfl (hb hby at_311) rfl  hr) ?_
        show Go p e s below _ _ _ _ T111 (mkF m 313 (LB4 p1 p2 p3 p4 lt t0 t1 sm lf f0 f1 ln c0 c1 lm m0 m1 s1 s2 x3 x4 rp mp o103 o105) [(.int lt)])
        refine Go.of (fun _ hr => XS.iconst X111.here hx rfl (hb hby at_313) hr) ?_
        show Go p e s below _ _ _ _ T111 (mkF m 314 (LB4 p1 p2 p3 p4 lt t0 t1 sm lf f0 f1 ln c0 c1 lm m0 m1 s1 s2 x3 x4 rp mp o103 o105) [(.int (1 : Int32)), (.int lt)])
        by_cases hb314_126 : lt < (1 : Int32)
        · refine Go.of (fun _ hr => XS.icmpYes X111.here hx rfl (pc0 := 314) (pc' := 324) rfl (hb hby at_314) rfl (tlt hb314_126).1 (by decide) (by decide) hr) ?_
          show Go p e s below _ _ _ _ T111 (mkF m 324 (LB4 p1 p2 p3 p4 lt t0 t1 sm lf f0 f1 ln c0 c1 lm m0 m1 s1 s2 x3 x4 rp mp o103 o105) [])
          refine Go.of (fun _ hr => XS.iload X111.here hx rfl (hb hby at_324) rfl  hr) ?_
          show Go p e s below _ _ _ _ T111 (mkF m 326 (LB4 p1 p2 p3 p4 lt t0 t1 sm lf f0 f1 ln c0 c1 lm m0 m1 s1 s2 x3 x4 rp mp o103 o105) [(.int lt)])
          refine Go.of (fun _ hr => XS.iconst X111.here hx rfl (hb hby at_326) hr) ?_
          show Go p e s below _ _ _ _ T111 (mkF m 327 (LB4 p1 p2 p3 p4 lt t0 t1 sm lf f0 f1 ln c0 c1 lm m0 m1 s1 s2 x3 x4 rp mp o103 o105) [(.int (2 : Int32)), (.int lt)])
          by_cases hb327_127 : lt < (2 : Int32)
          · refine Go.of (fun _ hr => XS.icmpYes X111.here hx rfl (pc0 := 327) (pc' := 337) rfl (hb hby at_327) rfl (tlt hb327_127).1 (by decide) (by decide) hr) ?_
            show Go p e s below _ _ _ _ T111 (mkF m 337 (LB4 p1 p2 p3 p4 lt t0 t1 sm lf f0 f1 ln c0 c1 lm m0 m1 s1 s2 x3 x4 rp mp o103 o105) [])
            refine Go.of (fun _ hr => XS.iconst X111.here hx rfl (hb hby at_337) hr) ?_
            show Go p e s below _ _ _ _ T111 (mkF m 338 (LB4 p1 p2 p3 p4 lt t0 t1 sm lf f0 f1 ln c0 c1 lm m0 m1 s1 s2 x3 x4 rp mp o103 o105) [(.int (1 : Int32))])
            refine Go.of (fun _ hr => XS.goto X111.here hx rfl (pc0 := 338) (pc' := 342) rfl (hb hby at_338) (by decide) (by decide) hr) ?_
            show Go p e s below _ _ _ _ T111 (mkF m 342 (LB4 p1 p2 p3 p4 lt t0 t1 sm lf f0 f1 ln c0 c1 lm m0 m1 s1 s2 x3 x4 rp mp o103 o105) [(.int (1 : Int32))])
            exact jn112 (1 : Int32) (by rw [if_pos ((mkL_eq hr_lt hr_lf hq_t0 hq_t1 hq_f0 hq_f1).mpr ⟨hb308_125, Or.inl hb314_126, Or.inl hb327_127⟩)])
          · refine Go.of (fun _ hr => XS.icmpNo X111.here hx rfl (hb hby at_327) rfl (flt hb327_127).1 hr) ?_
            show Go p e s below _ _ _ _ T111 (mkF m 330 (LB4 p1 p2 p3 p4 lt t0 t1 sm lf f0 f1 ln c0 c1 lm m0 m1 s1 s2 x3 x4 rp mp o103 o105) [])
            refine Go.of (fun _ hr => XS.iload X111.here hx rfl (hb hby at_330) rfl  hr) ?_
            show Go p e s below _ _ _ _ T111 (mkF m 332 (LB4 p1 p2 p3 p4 lt t0 t1 sm lf f0 f1 ln c0 c1 lm m0 m1 s1 s2 x3 x4 rp mp o103 o105) [(.int t1)])
            refine Go.of (fun _ hr => XS.iload X111.here hx rfl (hb hby at_332) rfl  hr) ?_
            show Go p e s below _ _ _ _ T111 (mkF m 334 (LB4 p1 p2 p3 p4 lt t0 t1 sm lf f0 f1 ln c0 c1 lm m0 m1 s1 s2 x3 x4 rp mp o103 o105) [(.int f1), (.int t1)])
            by_cases hb334_128 : t1 = f1
            · refine Go.of (fun _ hr => XS.icmpNo X111.here hx rfl (hb hby at_334) rfl (teq hb334_128).2 hr) ?_
              show Go p e s below _ _ _ _ T111 (mkF m 337 (LB4 p1 p2 p3 p4 lt t0 t1 sm lf f0 f1 ln c0 c1 lm m0 m1 s1 s2 x3 x4 rp mp o103 o105) [])
              refine Go.of (fun _ hr => XS.iconst X111.here hx rfl (hb hby at_337) hr) ?_
              show Go p e s below _ _ _ _ T111 (mkF m 338 (LB4 p1 p2 p3 p4 lt t0 t1 sm lf f0 f1 ln c0 c1 lm m0 m1 s1 s2 x3 x4 rp mp o103 o105) [(.int (1 : Int32))])
              refine Go.of (fun _ hr => XS.goto X111.here hx rfl (pc0 := 338) (pc' := 342) rfl (hb hby at_338) (by decide) (by decide) hr) ?_
              show Go p e s below _ _ _ _ T111 (mkF m 342 (LB4 p1 p2 p3 p4 lt t0 t1 sm lf f0 f1 ln c0 c1 lm m0 m1 s1 s2 x3 x4 rp mp o103 o105) [(.int (1 : Int32))])
              exact jn112 (1 : Int32) (by rw [if_pos ((mkL_eq hr_lt hr_lf hq_t0 hq_t1 hq_f0 hq_f1).mpr ⟨hb308_125, Or.inl hb314_126, Or.inr hb334_128⟩)])
            · refine Go.of (fun _ hr => XS.icmpYes X111.here hx rfl (pc0 := 334) (pc' := 341) rfl (hb hby at_334) rfl (feq hb334_128).2 (by decide) (by decide) hr) ?_
              show Go p e s below _ _ _ _ T111 (mkF m 341 (LB4 p1 p2 p3 p4 lt t0 t1 sm lf f0 f1 ln c0 c1 lm m0 m1 s1 s2 x3 x4 rp mp o103 o105) [])
              refine Go.of (fun _ hr => XS.iconst X111.here hx rfl (hb hby at_341) hr) ?_
              show Go p e s below _ _ _ _ T111 (mkF m 342 (LB4 p1 p2 p3 p4 lt t0 t1 sm lf f0 f1 ln c0 c1 lm m0 m1 s1 s2 x3 x4 rp mp o103 o105) [(.int (0 : Int32))])
              exact jn112 (0 : Int32) (by rw [if_neg (fun y => (fun z => z.2.2.elim hb327_127 hb334_128) ((mkL_eq hr_lt hr_lf hq_t0 hq_t1 hq_f0 hq_f1).mp y))])
        · refine Go.of (fun _ hr => XS.icmpNo X111.here hx rfl (hb hby at_314) rfl (flt hb314_126).1 hr) ?_
          show Go p e s below _ _ _ _ T111 (mkF m 317 (LB4 p1 p2 p3 p4 lt t0 t1 sm lf f0 f1 ln c0 c1 lm m0 m1 s1 s2 x3 x4 rp mp o103 o105) [])
          refine Go.of (fun _ hr => XS.iload X111.here hx rfl (hb hby at_317) rfl  hr) ?_
          show Go p e s below _ _ _ _ T111 (mkF m 319 (LB4 p1 p2 p3 p4 lt t0 t1 sm lf f0 f1 ln c0 c1 lm m0 m1 s1 s2 x3 x4 rp mp o103 o105) [(.int t0)])
          refine Go.of (fun _ hr => XS.iload X111.here hx rfl (hb hby at_319) rfl  hr) ?_
          show Go p e s below _ _ _ _ T111 (mkF m 321 (LB4 p1 p2 p3 p4 lt t0 t1 sm lf f0 f1 ln c0 c1 lm m0 m1 s1 s2 x3 x4 rp mp o103 o105) [(.int f0), (.int t0)])
          by_cases hb321_129 : t0 = f0
          · refine Go.of (fun _ hr => XS.icmpNo X111.here hx rfl (hb hby at_321) rfl (teq hb321_129).2 hr) ?_
            show Go p e s below _ _ _ _ T111 (mkF m 324 (LB4 p1 p2 p3 p4 lt t0 t1 sm lf f0 f1 ln c0 c1 lm m0 m1 s1 s2 x3 x4 rp mp o103 o105) [])
            refine Go.of (fun _ hr => XS.iload X111.here hx rfl (hb hby at_324) rfl  hr) ?_
            show Go p e s below _ _ _ _ T111 (mkF m 326 (LB4 p1 p2 p3 p4 lt t0 t1 sm lf f0 f1 ln c0 c1 lm m0 m1 s1 s2 x3 x4 rp mp o103 o105) [(.int lt)])
            refine Go.of (fun _ hr => XS.iconst X111.here hx rfl (hb hby at_326) hr) ?_
            show Go p e s below _ _ _ _ T111 (mkF m 327 (LB4 p1 p2 p3 p4 lt t0 t1 sm lf f0 f1 ln c0 c1 lm m0 m1 s1 s2 x3 x4 rp mp o103 o105) [(.int (2 : Int32)), (.int lt)])
            by_cases hb327_130 : lt < (2 : Int32)
            · refine Go.of (fun _ hr => XS.icmpYes X111.here hx rfl (pc0 := 327) (pc' := 337) rfl (hb hby at_327) rfl (tlt hb327_130).1 (by decide) (by decide) hr) ?_
              show Go p e s below _ _ _ _ T111 (mkF m 337 (LB4 p1 p2 p3 p4 lt t0 t1 sm lf f0 f1 ln c0 c1 lm m0 m1 s1 s2 x3 x4 rp mp o103 o105) [])
              refine Go.of (fun _ hr => XS.iconst X111.here hx rfl (hb hby at_337) hr) ?_
              show Go p e s below _ _ _ _ T111 (mkF m 338 (LB4 p1 p2 p3 p4 lt t0 t1 sm lf f0 f1 ln c0 c1 lm m0 m1 s1 s2 x3 x4 rp mp o103 o105) [(.int (1 : Int32))])
              refine Go.of (fun _ hr => XS.goto X111.here hx rfl (pc0 := 338) (pc' := 342) rfl (hb hby at_338) (by decide) (by decide) hr) ?_
              show Go p e s below _ _ _ _ T111 (mkF m 342 (LB4 p1 p2 p3 p4 lt t0 t1 sm lf f0 f1 ln c0 c1 lm m0 m1 s1 s2 x3 x4 rp mp o103 o105) [(.int (1 : Int32))])
              exact jn112 (1 : Int32) (by rw [if_pos ((mkL_eq hr_lt hr_lf hq_t0 hq_t1 hq_f0 hq_f1).mpr ⟨hb308_125, Or.inr hb321_129, Or.inl hb327_130⟩)])
            · refine Go.of (fun _ hr => XS.icmpNo X111.here hx rfl (hb hby at_327) rfl (flt hb327_130).1 hr) ?_
              show Go p e s below _ _ _ _ T111 (mkF m 330 (LB4 p1 p2 p3 p4 lt t0 t1 sm lf f0 f1 ln c0 c1 lm m0 m1 s1 s2 x3 x4 rp mp o103 o105) [])
              refine Go.of (fun _ hr => XS.iload X111.here hx rfl (hb hby at_330) rfl  hr) ?_
              show Go p e s below _ _ _ _ T111 (mkF m 332 (LB4 p1 p2 p3 p4 lt t0 t1 sm lf f0 f1 ln c0 c1 lm m0 m1 s1 s2 x3 x4 rp mp o103 o105) [(.int t1)])
              refine Go.of (fun _ hr => XS.iload X111.here hx rfl (hb hby at_332) rfl  hr) ?_
              show Go p e s below _ _ _ _ T111 (mkF m 334 (LB4 p1 p2 p3 p4 lt t0 t1 sm lf f0 f1 ln c0 c1 lm m0 m1 s1 s2 x3 x4 rp mp o103 o105) [(.int f1), (.int t1)])
              by_cases hb334_131 : t1 = f1
              · refine Go.of (fun _ hr => XS.icmpNo X111.here hx rfl (hb hby at_334) rfl (teq hb334_131).2 hr) ?_
                show Go p e s below _ _ _ _ T111 (mkF m 337 (LB4 p1 p2 p3 p4 lt t0 t1 sm lf f0 f1 ln c0 c1 lm m0 m1 s1 s2 x3 x4 rp mp o103 o105) [])
                refine Go.of (fun _ hr => XS.iconst X111.here hx rfl (hb hby at_337) hr) ?_
                show Go p e s below _ _ _ _ T111 (mkF m 338 (LB4 p1 p2 p3 p4 lt t0 t1 sm lf f0 f1 ln c0 c1 lm m0 m1 s1 s2 x3 x4 rp mp o103 o105) [(.int (1 : Int32))])
                refine Go.of (fun _ hr => XS.goto X111.here hx rfl (pc0 := 338) (pc' := 342) rfl (hb hby at_338) (by decide) (by decide) hr) ?_
                show Go p e s below _ _ _ _ T111 (mkF m 342 (LB4 p1 p2 p3 p4 lt t0 t1 sm lf f0 f1 ln c0 c1 lm m0 m1 s1 s2 x3 x4 rp mp o103 o105) [(.int (1 : Int32))])
                exact jn112 (1 : Int32) (by rw [if_pos ((mkL_eq hr_lt hr_lf hq_t0 hq_t1 hq_f0 hq_f1).mpr ⟨hb308_125, Or.inr hb321_129, Or.inr hb334_131⟩)])
              · refine Go.of (fun _ hr => XS.icmpYes X111.here hx rfl (pc0 := 334) (pc' := 341) rfl (hb hby at_334) rfl (feq hb334_131).2 (by decide) (by decide) hr) ?_
                show Go p e s below _ _ _ _ T111 (mkF m 341 (LB4 p1 p2 p3 p4 lt t0 t1 sm lf f0 f1 ln c0 c1 lm m0 m1 s1 s2 x3 x4 rp mp o103 o105) [])
                refine Go.of (fun _ hr => XS.iconst X111.here hx rfl (hb hby at_341) hr) ?_
                show Go p e s below _ _ _ _ T111 (mkF m 342 (LB4 p1 p2 p3 p4 lt t0 t1 sm lf f0 f1 ln c0 c1 lm m0 m1 s1 s2 x3 x4 rp mp o103 o105) [(.int (0 : Int32))])
                exact jn112 (0 : Int32) (by rw [if_neg (fun y => (fun z => z.2.2.elim hb327_130 hb334_131) ((mkL_eq hr_lt hr_lf hq_t0 hq_t1 hq_f0 hq_f1).mp y))])
          · refine Go.of (fun _ hr => XS.icmpYes X111.here hx rfl (pc0 := 321) (pc' := 341) rfl (hb hby at_321) rfl (feq hb321_129).2 (by decide) (by decide) hr) ?_
            show Go p e s below _ _ _ _ T111 (mkF m 341 (LB4 p1 p2 p3 p4 lt t0 t1 sm lf f0 f1 ln c0 c1 lm m0 m1 s1 s2 x3 x4 rp mp o103 o105) [])
            refine Go.of (fun _ hr => XS.iconst X111.here hx rfl (hb hby at_341) hr) ?_
            show Go p e s below _ _ _ _ T111 (mkF m 342 (LB4 p1 p2 p3 p4 lt t0 t1 sm lf f0 f1 ln c0 c1 lm m0 m1 s1 s2 x3 x4 rp mp o103 o105) [(.int (0 : Int32))])
            exact jn112 (0 : Int32) (by rw [if_neg (fun y => (fun z => z.2.1.elim hb314_126 hb321_129) ((mkL_eq hr_lt hr_lf hq_t0 hq_t1 hq_f0 hq_f1).mp y))])
      · refine Go.of (fun _ hr => XS.icmpYes X111.here hx rfl (pc0 := 308) (pc' := 341) rfl (hb hby at_308) rfl (feq hb308_125).2 (by decide) (by decide) hr) ?_
        show Go p e s below _ _ _ _ T111 (mkF m 341 (LB4 p1 p2 p3 p4 lt t0 t1 sm lf f0 f1 ln c0 c1 lm m0 m1 s1 s2 x3 x4 rp mp o103 o105) [])
        refine Go.of (fun _ hr => XS.iconst X111.here hx rfl (hb hby at_341) hr) ?_
        show Go p e s below _ _ _ _ T111 (mkF m 342 (LB4 p1 p2 p3 p4 lt t0 t1 sm lf f0 f1 ln c0 c1 lm m0 m1 s1 s2 x3 x4 rp mp o103 o105) [(.int (0 : Int32))])
        exact jn112 (0 : Int32) (by rw [if_neg (fun y => (fun z => hb308_125 z.1) ((mkL_eq hr_lt hr_lf hq_t0 hq_t1 hq_f0 hq_f1).mp y))])
    intro jn102
    show Go p e s below _ _ _ _ T0 (mkF m 262 (LB1 p1 p2 p3 p4 lt t0 t1 sm lf f0 f1 ln c0 c1 lm m0 m1 s1 s2 x3 x4 rp) [(.int (((p4.toUInt32 >>> ((9 : Int32) &&& 31).toUInt32).toInt32) &&& (1 : Int32)))])
    by_cases hb262_132 : (((p4.toUInt32 >>> ((9 : Int32) &&& 31).toUInt32).toInt32) &&& (1 : Int32)) = (0 : Int32)
    · refine Go.of (fun _ hr => XS.ifYes X0.here hx rfl (pc0 := 262) (pc' := 269) rfl (hb hby at_262) rfl ((if0 _ _).trans (teq hb262_132).1) (by decide) (by decide) hr) ?_
      show Go p e s below _ _ _ _ T0 (mkF m 269 (LB1 p1 p2 p3 p4 lt t0 t1 sm lf f0 f1 ln c0 c1 lm m0 m1 s1 s2 x3 x4 rp) [])
      refine Go.of (fun _ hr => XS.iconst X0.here hx rfl (hb hby at_269) hr) ?_
      show Go p e s below _ _ _ _ T0 (mkF m 270 (LB1 p1 p2 p3 p4 lt t0 t1 sm lf f0 f1 ln c0 c1 lm m0 m1 s1 s2 x3 x4 rp) [(.int (0 : Int32))])
      exact jn102 (0 : Int32) (Or.inr rfl)
    · refine Go.of (fun _ hr => XS.ifNo X0.here hx rfl (hb hby at_262) rfl ((if0 _ _).trans (feq hb262_132).1) hr) ?_
      show Go p e s below _ _ _ _ T0 (mkF m 265 (LB1 p1 p2 p3 p4 lt t0 t1 sm lf f0 f1 ln c0 c1 lm m0 m1 s1 s2 x3 x4 rp) [])
      refine Go.of (fun _ hr => XS.iconst X0.here hx rfl (hb hby at_265) hr) ?_
      show Go p e s below _ _ _ _ T0 (mkF m 266 (LB1 p1 p2 p3 p4 lt t0 t1 sm lf f0 f1 ln c0 c1 lm m0 m1 s1 s2 x3 x4 rp) [(.int (1 : Int32))])
      refine Go.of (fun _ hr => XS.goto X0.here hx rfl (pc0 := 266) (pc' := 270) rfl (hb hby at_266) (by decide) (by decide) hr) ?_
      show Go p e s below _ _ _ _ T0 (mkF m 270 (LB1 p1 p2 p3 p4 lt t0 t1 sm lf f0 f1 ln c0 c1 lm m0 m1 s1 s2 x3 x4 rp) [(.int (1 : Int32))])
      exact jn102 (1 : Int32) (Or.inl rfl)
  intro jn101
  show Go p e s below _ _ _ _ T0 (mkF m 246 (LB0 p1 p2 p3 p4 lt t0 t1 sm lf f0 f1 ln c0 c1 lm m0 m1 s1 s2 x3 x4) [(.int (((p4.toUInt32 >>> ((8 : Int32) &&& 31).toUInt32).toInt32) &&& (1 : Int32)))])
  by_cases hb246_133 : (((p4.toUInt32 >>> ((8 : Int32) &&& 31).toUInt32).toInt32) &&& (1 : Int32)) = (0 : Int32)
  · refine Go.of (fun _ hr => XS.ifYes X0.here hx rfl (pc0 := 246) (pc' := 253) rfl (hb hby at_246) rfl ((if0 _ _).trans (teq hb246_133).1) (by decide) (by decide) hr) ?_
    show Go p e s below _ _ _ _ T0 (mkF m 253 (LB0 p1 p2 p3 p4 lt t0 t1 sm lf f0 f1 ln c0 c1 lm m0 m1 s1 s2 x3 x4) [])
    refine Go.of (fun _ hr => XS.iconst X0.here hx rfl (hb hby at_253) hr) ?_
    show Go p e s below _ _ _ _ T0 (mkF m 254 (LB0 p1 p2 p3 p4 lt t0 t1 sm lf f0 f1 ln c0 c1 lm m0 m1 s1 s2 x3 x4) [(.int (0 : Int32))])
    exact jn101 (0 : Int32) (Or.inr rfl)
  · refine Go.of (fun _ hr => XS.ifNo X0.here hx rfl (hb hby at_246) rfl ((if0 _ _).trans (feq hb246_133).1) hr) ?_
    show Go p e s below _ _ _ _ T0 (mkF m 249 (LB0 p1 p2 p3 p4 lt t0 t1 sm lf f0 f1 ln c0 c1 lm m0 m1 s1 s2 x3 x4) [])
    refine Go.of (fun _ hr => XS.iconst X0.here hx rfl (hb hby at_249) hr) ?_
    show Go p e s below _ _ _ _ T0 (mkF m 250 (LB0 p1 p2 p3 p4 lt t0 t1 sm lf f0 f1 ln c0 c1 lm m0 m1 s1 s2 x3 x4) [(.int (1 : Int32))])
    refine Go.of (fun _ hr => XS.goto X0.here hx rfl (pc0 := 250) (pc' := 254) rfl (hb hby at_250) (by decide) (by decide) hr) ?_
    show Go p e s below _ _ _ _ T0 (mkF m 254 (LB0 p1 p2 p3 p4 lt t0 t1 sm lf f0 f1 ln c0 c1 lm m0 m1 s1 s2 x3 x4) [(.int (1 : Int32))])
    exact jn101 (1 : Int32) (Or.inl rfl)

abbrev LA0 (p1 : Int32) (p2 : Int32) (p3 : Int32) (p4 : Int32) : Array Slot := #[.val (.int p1), .val (.int p2), .val (.int p3), .val (.int p4), .unset, .unset, .unset, .unset, .unset, .unset, .unset, .unset, .unset, .unset, .unset, .unset, .unset, .unset, .unset, .unset, .unset, .unset, .unset, .unset, .unset, .unset]
abbrev LA1 (p1 : Int32) (p2 : Int32) (p3 : Int32) (p4 : Int32) (lt : Int32) : Array Slot := #[.val (.int p1), .val (.int p2), .val (.int p3), .val (.int p4), .val (.int lt), .unset, .unset, .unset, .unset, .unset, .unset, .unset, .unset, .unset, .unset, .unset, .unset, .unset, .unset, .unset, .unset, .unset, .unset, .unset, .unset, .unset]
abbrev LA2 (p1 : Int32) (p2 : Int32) (p3 : Int32) (p4 : Int32) (lt : Int32) (t0 : Int32) : Array Slot := #[.val (.int p1), .val (.int p2), .val (.int p3), .val (.int p4), .val (.int lt), .val (.int t0), .unset, .unset, .unset, .unset, .unset, .unset, .unset, .unset, .unset, .unset, .unset, .unset, .unset, .unset, .unset, .unset, .unset, .unset, .unset, .unset]
abbrev LA3 (p1 : Int32) (p2 : Int32) (p3 : Int32) (p4 : Int32) (lt : Int32) (t0 : Int32) (t1 : Int32) : Array Slot := #[.val (.int p1), .val (.int p2), .val (.int p3), .val (.int p4), .val (.int lt), .val (.int t0), .val (.int t1), .unset, .unset, .unset, .unset, .unset, .unset, .unset, .unset, .unset, .unset, .unset, .unset, .unset, .unset, .unset, .unset, .unset, .unset, .unset]
abbrev LA4 (p1 : Int32) (p2 : Int32) (p3 : Int32) (p4 : Int32) (lt : Int32) (t0 : Int32) (t1 : Int32) (sm : Int32) (lf : Int32) (f0 : Int32) (f1 : Int32) : Array Slot := #[.val (.int p1), .val (.int p2), .val (.int p3), .val (.int p4), .val (.int lt), .val (.int t0), .val (.int t1), .val (.int sm), .val (.int lf), .val (.int f0), .val (.int f1), .unset, .unset, .unset, .unset, .unset, .unset, .unset, .unset, .unset, .unset, .unset, .unset, .unset, .unset, .unset]
abbrev LA5 (p1 : Int32) (p2 : Int32) (p3 : Int32) (p4 : Int32) (lt : Int32) (t0 : Int32) (t1 : Int32) (sm : Int32) (lf : Int32) (f0 : Int32) (f1 : Int32) (ln : Int32) : Array Slot := #[.val (.int p1), .val (.int p2), .val (.int p3), .val (.int p4), .val (.int lt), .val (.int t0), .val (.int t1), .val (.int sm), .val (.int lf), .val (.int f0), .val (.int f1), .val (.int ln), .unset, .unset, .unset, .unset, .unset, .unset, .unset, .unset, .unset, .unset, .unset, .unset, .unset, .unset]
abbrev LA6 (p1 : Int32) (p2 : Int32) (p3 : Int32) (p4 : Int32) (lt : Int32) (t0 : Int32) (t1 : Int32) (sm : Int32) (lf : Int32) (f0 : Int32) (f1 : Int32) (ln : Int32) (c0 : Int32) : Array Slot := #[.val (.int p1), .val (.int p2), .val (.int p3), .val (.int p4), .val (.int lt), .val (.int t0), .val (.int t1), .val (.int sm), .val (.int lf), .val (.int f0), .val (.int f1), .val (.int ln), .val (.int c0), .unset, .unset, .unset, .unset, .unset, .unset, .unset, .unset, .unset, .unset, .unset, .unset, .unset]
abbrev LA7 (p1 : Int32) (p2 : Int32) (p3 : Int32) (p4 : Int32) (lt : Int32) (t0 : Int32) (t1 : Int32) (sm : Int32) (lf : Int32) (f0 : Int32) (f1 : Int32) (ln : Int32) (c0 : Int32) (c1 : Int32) : Array Slot := #[.val (.int p1), .val (.int p2), .val (.int p3), .val (.int p4), .val (.int lt), .val (.int t0), .val (.int t1), .val (.int sm), .val (.int lf), .val (.int f0), .val (.int f1), .val (.int ln), .val (.int c0), .val (.int c1), .unset, .unset, .unset, .unset, .unset, .unset, .unset, .unset, .unset, .unset, .unset, .unset]
abbrev LA8 (p1 : Int32) (p2 : Int32) (p3 : Int32) (p4 : Int32) (lt : Int32) (t0 : Int32) (t1 : Int32) (sm : Int32) (lf : Int32) (f0 : Int32) (f1 : Int32) (ln : Int32) (c0 : Int32) (c1 : Int32) (lm : Int32) : Array Slot := #[.val (.int p1), .val (.int p2), .val (.int p3), .val (.int p4), .val (.int lt), .val (.int t0), .val (.int t1), .val (.int sm), .val (.int lf), .val (.int f0), .val (.int f1), .val (.int ln), .val (.int c0), .val (.int c1), .val (.int lm), .unset, .unset, .unset, .unset, .unset, .unset, .unset, .unset, .unset, .unset, .unset]
abbrev LA9 (p1 : Int32) (p2 : Int32) (p3 : Int32) (p4 : Int32) (lt : Int32) (t0 : Int32) (t1 : Int32) (sm : Int32) (lf : Int32) (f0 : Int32) (f1 : Int32) (ln : Int32) (c0 : Int32) (c1 : Int32) (lm : Int32) (m0 : Int32) : Array Slot := #[.val (.int p1), .val (.int p2), .val (.int p3), .val (.int p4), .val (.int lt), .val (.int t0), .val (.int t1), .val (.int sm), .val (.int lf), .val (.int f0), .val (.int f1), .val (.int ln), .val (.int c0), .val (.int c1), .val (.int lm), .val (.int m0), .unset, .unset, .unset, .unset, .unset, .unset, .unset, .unset, .unset, .unset]
abbrev LA10 (p1 : Int32) (p2 : Int32) (p3 : Int32) (p4 : Int32) (lt : Int32) (t0 : Int32) (t1 : Int32) (sm : Int32) (lf : Int32) (f0 : Int32) (f1 : Int32) (ln : Int32) (c0 : Int32) (c1 : Int32) (lm : Int32) (m0 : Int32) (m1 : Int32) : Array Slot := #[.val (.int p1), .val (.int p2), .val (.int p3), .val (.int p4), .val (.int lt), .val (.int t0), .val (.int t1), .val (.int sm), .val (.int lf), .val (.int f0), .val (.int f1), .val (.int ln), .val (.int c0), .val (.int c1), .val (.int lm), .val (.int m0), .val (.int m1), .unset, .unset, .unset, .unset, .unset, .unset, .unset, .unset, .unset]
abbrev LA11 (p1 : Int32) (p2 : Int32) (p3 : Int32) (p4 : Int32) (lt : Int32) (t0 : Int32) (t1 : Int32) (sm : Int32) (lf : Int32) (f0 : Int32) (f1 : Int32) (ln : Int32) (c0 : Int32) (c1 : Int32) (lm : Int32) (m0 : Int32) (m1 : Int32) (r102 : Addr) : Array Slot := #[.val (.int p1), .val (.int p2), .val (.int p3), .val (.int p4), .val (.int lt), .val (.int t0), .val (.int t1), .val (.int sm), .val (.int lf), .val (.int f0), .val (.int f1), .val (.int ln), .val (.int c0), .val (.int c1), .val (.int lm), .val (.int m0), .val (.int m1), .val (.ref r102), .unset, .unset, .unset, .unset, .unset, .unset, .unset, .unset]
abbrev LA12 (p1 : Int32) (p2 : Int32) (p3 : Int32) (p4 : Int32) (lt : Int32) (t0 : Int32) (t1 : Int32) (sm : Int32) (lf : Int32) (f0 : Int32) (f1 : Int32) (ln : Int32) (c0 : Int32) (c1 : Int32) (lm : Int32) (m0 : Int32) (m1 : Int32) (r102 : Addr) (r103 : Addr) : Array Slot := #[.val (.int p1), .val (.int p2), .val (.int p3), .val (.int p4), .val (.int lt), .val (.int t0), .val (.int t1), .val (.int sm), .val (.int lf), .val (.int f0), .val (.int f1), .val (.int ln), .val (.int c0), .val (.int c1), .val (.int lm), .val (.int m0), .val (.int m1), .val (.ref r102), .val (.ref r103), .unset, .unset, .unset, .unset, .unset, .unset, .unset]
abbrev LA13 (p1 : Int32) (p2 : Int32) (p3 : Int32) (p4 : Int32) (lt : Int32) (t0 : Int32) (t1 : Int32) (sm : Int32) (lf : Int32) (f0 : Int32) (f1 : Int32) (ln : Int32) (c0 : Int32) (c1 : Int32) (lm : Int32) (m0 : Int32) (m1 : Int32) (r102 : Addr) (r103 : Addr) (r105 : Addr) : Array Slot := #[.val (.int p1), .val (.int p2), .val (.int p3), .val (.int p4), .val (.int lt), .val (.int t0), .val (.int t1), .val (.int sm), .val (.int lf), .val (.int f0), .val (.int f1), .val (.int ln), .val (.int c0), .val (.int c1), .val (.int lm), .val (.int m0), .val (.int m1), .val (.ref r102), .val (.ref r103), .val (.ref r105), .unset, .unset, .unset, .unset, .unset, .unset]
abbrev LA14 (p1 : Int32) (p2 : Int32) (p3 : Int32) (p4 : Int32) (lt : Int32) (t0 : Int32) (t1 : Int32) (sm : Int32) (lf : Int32) (f0 : Int32) (f1 : Int32) (ln : Int32) (c0 : Int32) (c1 : Int32) (lm : Int32) (m0 : Int32) (m1 : Int32) (r102 : Addr) (r103 : Addr) (r135 : Addr) : Array Slot := #[.val (.int p1), .val (.int p2), .val (.int p3), .val (.int p4), .val (.int lt), .val (.int t0), .val (.int t1), .val (.int sm), .val (.int lf), .val (.int f0), .val (.int f1), .val (.int ln), .val (.int c0), .val (.int c1), .val (.int lm), .val (.int m0), .val (.int m1), .val (.ref r102), .val (.ref r103), .val (.ref r135), .unset, .unset, .unset, .unset, .unset, .unset]
abbrev LA15 (p1 : Int32) (p2 : Int32) (p3 : Int32) (p4 : Int32) (lt : Int32) (t0 : Int32) (t1 : Int32) : Array Slot := #[.val (.int p1), .val (.int p2), .val (.int p3), .val (.int p4), .val (.int lt), .val (.int t0), .val (.int t1), .val (.int (1 : Int32)), .unset, .unset, .unset, .unset, .unset, .unset, .unset, .unset, .unset, .unset, .unset, .unset, .unset, .unset, .unset, .unset, .unset, .unset]
abbrev LA16 (p1 : Int32) (p2 : Int32) (p3 : Int32) (p4 : Int32) (lt : Int32) (t0 : Int32) (t1 : Int32) : Array Slot := #[.val (.int p1), .val (.int p2), .val (.int p3), .val (.int p4), .val (.int lt), .val (.int t0), .val (.int t1), .val (.int (0 : Int32)), .unset, .unset, .unset, .unset, .unset, .unset, .unset, .unset, .unset, .unset, .unset, .unset, .unset, .unset, .unset, .unset, .unset, .unset]
abbrev LA17 (p1 : Int32) (p2 : Int32) (p3 : Int32) (p4 : Int32) (lt : Int32) (t0 : Int32) (t1 : Int32) : Array Slot := #[.val (.int p1), .val (.int p2), .val (.int p3), .val (.int p4), .val (.int lt), .val (.int t0), .val (.int t1), .val (.int (0 : Int32)), .val (.int ((((p4.toUInt32 >>> ((4 : Int32) &&& 31).toUInt32).toInt32) &&& (3 : Int32)) % (3 : Int32))), .unset, .unset, .unset, .unset, .unset, .unset, .unset, .unset, .unset, .unset, .unset, .unset, .unset, .unset, .unset, .unset, .unset]
abbrev LA18 (p1 : Int32) (p2 : Int32) (p3 : Int32) (p4 : Int32) (lt : Int32) (t0 : Int32) (t1 : Int32) : Array Slot := #[.val (.int p1), .val (.int p2), .val (.int p3), .val (.int p4), .val (.int lt), .val (.int t0), .val (.int t1), .val (.int (0 : Int32)), .val (.int ((((p4.toUInt32 >>> ((4 : Int32) &&& 31).toUInt32).toInt32) &&& (3 : Int32)) % (3 : Int32))), .val (.int ((p2 &&& (255 : Int32)).toUInt32.toUInt16.toUInt32.toInt32)), .unset, .unset, .unset, .unset, .unset, .unset, .unset, .unset, .unset, .unset, .unset, .unset, .unset, .unset, .unset, .unset]
theorem pd12 : parseMethodDescriptor "(ICC)Ljava/lang/String;" = some ⟨[.int, .char, .char], some (.object "java/lang/String")⟩ := by decide +kernel
set_option maxRecDepth 65536 in
set_option maxHeartbeats 40000000 in
theorem rm0 (l : Launch) (Z : State) (a0 : Array Value) (hw : ∀ d ∈ tables_1, d.before a0 Z = true) (ws : List Jvm.Cond) (p1 p2 p3 p4 : Int32) (zc : Int32) (ms : List Addr) (h0 : Heap) (n0 : Nat) (O0 : Old Z n0 h0) (nb : Nat) (hb0 : n0 ≤ nb) (hnb : nb ≤ h0.size) (S_C : Sta Z Z.heap "java/lang/String" "COMPACT_STRINGS" "Z" (.int zc)) (hzc : ¬ zc = 0) :
    Con l Z ms x code maxLocals ret ws room_1 #[(.int p1), (.int p2), (.int p3), (.int p4)] h0 (fun v vm h L => v = some (.int 1) ∧ Fr nb L) := by
  refine Con.mk (plainFor_of_name pn3) ?_
  intro p e s m below meth c s₁ Cc X0 e0 eb J0 B0 M0
  replace Cc : Cx Z p s m meth c "com/example/mthd/mthd/rules/MessageFieldTypedAsPinLaw" code 26 "law" ret := Cc
  obtain ⟨hx, hZ, hown, hby, hml, hnm, hret, hlk⟩ := id Cc
  have N0 := Fr.nil h0.size
  have K0 := Keep.refl h0 []
  refine own_go0 (show argsToLocals #[(.int p1), (.int p2), (.int p3), (.int p4)] 26 = (LA0 p1 p2 p3 p4) from by simp [argsToLocals, Value.category, Array.replicate, List.replicate]) ?_
  show Go p e s below _ _ _ _ s₁ (mkF m 0 (LA0 p1 p2 p3 p4) [])
  refine Go.of (fun _ hr => XS.iloadN X0.here hx rfl (hb hby at_0) rfl  hr) ?_
  show Go p e s below _ _ _ _ s₁ (mkF m 1 (LA0 p1 p2 p3 p4) [(.int p4)])
  refine Go.of (fun _ hr => XS.iconst X0.here hx rfl (hb hby at_1) hr) ?_
  show Go p e s below _ _ _ _ s₁ (mkF m 2 (LA0 p1 p2 p3 p4) [(.int (3 : Int32)), (.int p4)])
  refine Go.of (fun _ hr => XS.iand X0.here hx rfl (hb hby at_2) rfl hr) ?_
  show Go p e s below _ _ _ _ s₁ (mkF m 3 (LA0 p1 p2 p3 p4) [(.int (p4 &&& (3 : Int32)))])
  refine Go.of (fun _ hr => XS.iconst X0.here hx rfl (hb hby at_3) hr) ?_
  show Go p e s below _ _ _ _ s₁ (mkF m 4 (LA0 p1 p2 p3 p4) [(.int (3 : Int32)), (.int (p4 &&& (3 : Int32)))])
  refine Go.of (fun _ hr => iremM X0 hx rfl (hb hby at_4) rfl (by decide) hr) ?_
  show Go p e s below _ _ _ _ s₁ (mkF m 5 (LA0 p1 p2 p3 p4) [(.int ((p4 &&& (3 : Int32)) % (3 : Int32)))])
  have hr_lt := rem3 p4
  generalize ((p4 &&& (3 : Int32)) % (3 : Int32)) = lt at hr_lt ⊢
  show Go p e s below _ _ _ _ s₁ (mkF m 5 (LA0 p1 p2 p3 p4) [(.int lt)])
  refine Go.of (fun _ hr => XS.istore X0.here hx rfl (hb hby at_5) rfl (l' := (LA1 p1 p2 p3 p4 lt)) rfl hr) ?_
  show Go p e s below _ _ _ _ s₁ (mkF m 7 (LA1 p1 p2 p3 p4 lt) [])
  refine Go.of (fun _ hr => XS.iloadN X0.here hx rfl (hb hby at_7) rfl  hr) ?_
  show Go p e s below _ _ _ _ s₁ (mkF m 8 (LA1 p1 p2 p3 p4 lt) [(.int p1)])
  refine Go.of (fun _ hr => XS.sipush X0.here hx rfl (hb hby at_8) hr) ?_
  show Go p e s below _ _ _ _ s₁ (mkF m 11 (LA1 p1 p2 p3 p4 lt) [(.int (255 : Int32)), (.int p1)])
  refine Go.of (fun _ hr => XS.iand X0.here hx rfl (hb hby at_11) rfl hr) ?_
  show Go p e s below _ _ _ _ s₁ (mkF m 12 (LA1 p1 p2 p3 p4 lt) [(.int (p1 &&& (255 : Int32)))])
  refine Go.of (fun _ hr => XS.i2c X0.here hx rfl (hb hby at_12) rfl hr) ?_
  show Go p e s below _ _ _ _ s₁ (mkF m 13 (LA1 p1 p2 p3 p4 lt) [(.int ((p1 &&& (255 : Int32)).toUInt32.toUInt16.toUInt32.toInt32))])
  have hq_t0 := chr8 p1
  generalize ((p1 &&& (255 : Int32)).toUInt32.toUInt16.toUInt32.toInt32) = t0 at hq_t0 ⊢
  show Go p e s below _ _ _ _ s₁ (mkF m 13 (LA1 p1 p2 p3 p4 lt) [(.int t0)])
  refine Go.of (fun _ hr => XS.istore X0.here hx rfl (hb hby at_13) rfl (l' := (LA2 p1 p2 p3 p4 lt t0)) rfl hr) ?_
  show Go p e s below _ _ _ _ s₁ (mkF m 15 (LA2 p1 p2 p3 p4 lt t0) [])
  refine Go.of (fun _ hr => XS.iloadN X0.here hx rfl (hb hby at_15) rfl  hr) ?_
  show Go p e s below _ _ _ _ s₁ (mkF m 16 (LA2 p1 p2 p3 p4 lt t0) [(.int p1)])
  refine Go.of (fun _ hr => XS.bipush X0.here hx rfl (hb hby at_16) hr) ?_
  show Go p e s below _ _ _ _ s₁ (mkF m 18 (LA2 p1 p2 p3 p4 lt t0) [(.int (8 : Int32)), (.int p1)])
  refine Go.of (fun _ hr => XS.iushr X0.here hx rfl (hb hby at_18) rfl hr) ?_
  show Go p e s below _ _ _ _ s₁ (mkF m 19 (LA2 p1 p2 p3 p4 lt t0) [(.int ((p1.toUInt32 >>> ((8 : Int32) &&& 31).toUInt32).toInt32))])
  refine Go.of (fun _ hr => XS.sipush X0.here hx rfl (hb hby at_19) hr) ?_
  show Go p e s below _ _ _ _ s₁ (mkF m 22 (LA2 p1 p2 p3 p4 lt t0) [(.int (255 : Int32)), (.int ((p1.toUInt32 >>> ((8 : Int32) &&& 31).toUInt32).toInt32))])
  refine Go.of (fun _ hr => XS.iand X0.here hx rfl (hb hby at_22) rfl hr) ?_
  show Go p e s below _ _ _ _ s₁ (mkF m 23 (LA2 p1 p2 p3 p4 lt t0) [(.int (((p1.toUInt32 >>> ((8 : Int32) &&& 31).toUInt32).toInt32) &&& (255 : Int32)))])
  refine Go.of (fun _ hr => XS.i2c X0.here hx rfl (hb hby at_23) rfl hr) ?_
  show Go p e s below _ _ _ _ s₁ (mkF m 24 (LA2 p1 p2 p3 p4 lt t0) [(.int ((((p1.toUInt32 >>> ((8 : Int32) &&& 31).toUInt32).toInt32) &&& (255 : Int32)).toUInt32.toUInt16.toUInt32.toInt32))])
  have hq_t1 := chr8 ((p1.toUInt32 >>> ((8 : Int32) &&& 31).toUInt32).toInt32)
  generalize ((((p1.toUInt32 >>> ((8 : Int32) &&& 31).toUInt32).toInt32) &&& (255 : Int32)).toUInt32.toUInt16.toUInt32.toInt32) = t1 at hq_t1 ⊢
  show Go p e s below _ _ _ _ s₁ (mkF m 24 (LA2 p1 p2 p3 p4 lt t0) [(.int t1)])
  refine Go.of (fun _ hr => XS.istore X0.here hx rfl (hb hby at_24) rfl (l' := (LA3 p1 p2 p3 p4 lt t0 t1)) rfl hr) ?_
  show Go p e s below _ _ _ _ s₁ (mkF m 26 (LA3 p1 p2 p3 p4 lt t0 t1) [])
  refine Go.of (fun _ hr => XS.iloadN X0.here hx rfl (hb hby at_26) rfl  hr) ?_
  show Go p e s below _ _ _ _ s₁ (mkF m 27 (LA3 p1 p2 p3 p4 lt t0 t1) [(.int p4)])
  refine Go.of (fun _ hr => XS.iconst X0.here hx rfl (hb hby at_27) hr) ?_
  show Go p e s below _ _ _ _ s₁ (mkF m 28 (LA3 p1 p2 p3 p4 lt t0 t1) [(.int (2 : Int32)), (.int p4)])
  refine Go.of (fun _ hr => XS.iushr X0.here hx rfl (hb hby at_28) rfl hr) ?_
  show Go p e s below _ _ _ _ s₁ (mkF m 29 (LA3 p1 p2 p3 p4 lt t0 t1) [(.int ((p4.toUInt32 >>> ((2 : Int32) &&& 31).toUInt32).toInt32))])
  refine Go.of (fun _ hr => XS.iconst X0.here hx rfl (hb hby at_29) hr) ?_
  show Go p e s below _ _ _ _ s₁ (mkF m 30 (LA3 p1 p2 p3 p4 lt t0 t1) [(.int (3 : Int32)), (.int ((p4.toUInt32 >>> ((2 : Int32) &&& 31).toUInt32).toInt32))])
  refine Go.of (fun _ hr => XS.iand X0.here hx rfl (hb hby at_30) rfl hr) ?_
  show Go p e s below _ _ _ _ s₁ (mkF m 31 (LA3 p1 p2 p3 p4 lt t0 t1) [(.int (((p4.toUInt32 >>> ((2 : Int32) &&& 31).toUInt32).toInt32) &&& (3 : Int32)))])
  refine Go.join (α := Int32 × Int32 × Int32 × Int32) (fun x_ => (x_.2.1 = 0 ∨ x_.2.1 = 1 ∨ x_.2.1 = 2) ∧ (¬ x_.2.2.1 < 0 ∧ ¬ 255 < x_.2.2.1) ∧ (¬ x_.2.2.2 < 0 ∧ ¬ 255 < x_.2.2.2) ∧ x_.1 = x_.1) (fun x_ => (mkF m 89 #[.val (.int p1), .val (.int p2), .val (.int p3), .val (.int p4), .val (.int lt), .val (.int t0), .val (.int t1), .val (.int x_.1), .val (.int x_.2.1), .val (.int x_.2.2.1), .val (.int x_.2.2.2), .unset, .unset, .unset, .unset, .unset, .unset, .unset, .unset, .unset, .unset, .unset, .unset, .unset, .unset, .unset] [])) ?_ ?_
  · rintro ⟨sm, lf, f0, f1⟩ hj101
    replace hj101 : (lf = 0 ∨ lf = 1 ∨ lf = 2) ∧ (¬ f0 < 0 ∧ ¬ 255 < f0) ∧ (¬ f1 < 0 ∧ ¬ 255 < f1) ∧ sm = sm := hj101
    show Go p e s below _ _ _ _ s₁ (mkF m 89 (LA4 p1 p2 p3 p4 lt t0 t1 sm lf f0 f1) [])
    obtain ⟨hr_lf, hq_f0, hq_f1, -⟩ := hj101
    refine Go.of (fun _ hr => XS.iloadN X0.here hx rfl (hb hby at_89) rfl  hr) ?_
    show Go p e s below _ _ _ _ s₁ (mkF m 90 (LA4 p1 p2 p3 p4 lt t0 t1 sm lf f0 f1) [(.int p4)])
    refine Go.of (fun _ hr => XS.bipush X0.here hx rfl (hb hby at_90) hr) ?_
    show Go p e s below _ _ _ _ s₁ (mkF m 92 (LA4 p1 p2 p3 p4 lt t0 t1 sm lf f0 f1) [(.int (10 : Int32)), (.int p4)])
    refine Go.of (fun _ hr => XS.iushr X0.here hx rfl (hb hby at_92) rfl hr) ?_
    show Go p e s below _ _ _ _ s₁ (mkF m 93 (LA4 p1 p2 p3 p4 lt t0 t1 sm lf f0 f1) [(.int ((p4.toUInt32 >>> ((10 : Int32) &&& 31).toUInt32).toInt32))])
    refine Go.of (fun _ hr => XS.iconst X0.here hx rfl (hb hby at_93) hr) ?_
    show Go p e s below _ _ _ _ s₁ (mkF m 94 (LA4 p1 p2 p3 p4 lt t0 t1 sm lf f0 f1) [(.int (3 : Int32)), (.int ((p4.toUInt32 >>> ((10 : Int32) &&& 31).toUInt32).toInt32))])
    refine Go.of (fun _ hr => XS.iand X0.here hx rfl (hb hby at_94) rfl hr) ?_
    show Go p e s below _ _ _ _ s₁ (mkF m 95 (LA4 p1 p2 p3 p4 lt t0 t1 sm lf f0 f1) [(.int (((p4.toUInt32 >>> ((10 : Int32) &&& 31).toUInt32).toInt32) &&& (3 : Int32)))])
    refine Go.of (fun _ hr => XS.iconst X0.here hx rfl (hb hby at_95) hr) ?_
    show Go p e s below _ _ _ _ s₁ (mkF m 96 (LA4 p1 p2 p3 p4 lt t0 t1 sm lf f0 f1) [(.int (3 : Int32)), (.int (((p4.toUInt32 >>> ((10 : Int32) &&& 31).toUInt32).toInt32) &&& (3 : Int32)))])
    refine Go.of (fun _ hr => iremM X0 hx rfl (hb hby at_96) rfl (by decide) hr) ?_
    show Go p e s below _ _ _ _ s₁ (mkF m 97 (LA4 p1 p2 p3 p4 lt t0 t1 sm lf f0 f1) [(.int ((((p4.toUInt32 >>> ((10 : Int32) &&& 31).toUInt32).toInt32) &&& (3 : Int32)) % (3 : Int32)))])
    generalize ((((p4.toUInt32 >>> ((10 : Int32) &&& 31).toUInt32).toInt32) &&& (3 : Int32)) % (3 : Int32)) = ln
    show Go p e s below _ _ _ _ s₁ (mkF m 97 (LA4 p1 p2 p3 p4 lt t0 t1 sm lf f0 f1) [(.int ln)])
    refine Go.of (fun _ hr => XS.istore X0.here hx rfl (hb hby at_97) rfl (l' := (LA5 p1 p2 p3 p4 lt t0 t1 sm lf f0 f1 ln)) rfl hr) ?_
    show Go p e s below _ _ _ _ s₁ (mkF m 99 (LA5 p1 p2 p3 p4 lt t0 t1 sm lf f0 f1 ln) [])
    refine Go.of (fun _ hr => XS.iloadN X0.here hx rfl (hb hby at_99) rfl  hr) ?_
    show Go p e s below _ _ _ _ s₁ (mkF m 100 (LA5 p1 p2 p3 p4 lt t0 t1 sm lf f0 f1 ln) [(.int p3)])
    refine Go.of (fun _ hr => XS.sipush X0.here hx rfl (hb hby at_100) hr) ?_
    show Go p e s below _ _ _ _ s₁ (mkF m 103 (LA5 p1 p2 p3 p4 lt t0 t1 sm lf f0 f1 ln) [(.int (255 : Int32)), (.int p3)])
    refine Go.of (fun _ hr => XS.iand X0.here hx rfl (hb hby at_103) rfl hr) ?_
    show Go p e s below _ _ _ _ s₁ (mkF m 104 (LA5 p1 p2 p3 p4 lt t0 t1 sm lf f0 f1 ln) [(.int (p3 &&& (255 : Int32)))])
    refine Go.of (fun _ hr => XS.i2c X0.here hx rfl (hb hby at_104) rfl hr) ?_
    show Go p e s below _ _ _ _ s₁ (mkF m 105 (LA5 p1 p2 p3 p4 lt t0 t1 sm lf f0 f1 ln) [(.int ((p3 &&& (255 : Int32)).toUInt32.toUInt16.toUInt32.toInt32))])
    have hq_c0 := chr8 p3
    generalize ((p3 &&& (255 : Int32)).toUInt32.toUInt16.toUInt32.toInt32) = c0 at hq_c0 ⊢
    show Go p e s below _ _ _ _ s₁ (mkF m 105 (LA5 p1 p2 p3 p4 lt t0 t1 sm lf f0 f1 ln) [(.int c0)])
    refine Go.of (fun _ hr => XS.istore X0.here hx rfl (hb hby at_105) rfl (l' := (LA6 p1 p2 p3 p4 lt t0 t1 sm lf f0 f1 ln c0)) rfl hr) ?_
    show Go p e s below _ _ _ _ s₁ (mkF m 107 (LA6 p1 p2 p3 p4 lt t0 t1 sm lf f0 f1 ln c0) [])
    refine Go.of (fun _ hr => XS.iloadN X0.here hx rfl (hb hby at_107) rfl  hr) ?_
    show Go p e s below _ _ _ _ s₁ (mkF m 108 (LA6 p1 p2 p3 p4 lt t0 t1 sm lf f0 f1 ln c0) [(.int p3)])
    refine Go.of (fun _ hr => XS.bipush X0.here hx rfl (hb hby at_108) hr) ?_
    show Go p e s below _ _ _ _ s₁ (mkF m 110 (LA6 p1 p2 p3 p4 lt t0 t1 sm lf f0 f1 ln c0) [(.int (8 : Int32)), (.int p3)])
    refine Go.of (fun _ hr => XS.iushr X0.here hx rfl (hb hby at_110) rfl hr) ?_
    show Go p e s below _ _ _ _ s₁ (mkF m 111 (LA6 p1 p2 p3 p4 lt t0 t1 sm lf f0 f1 ln c0) [(.int ((p3.toUInt32 >>> ((8 : Int32) &&& 31).toUInt32).toInt32))])
    refine Go.of (fun _ hr => XS.sipush X0.here hx rfl (hb hby at_111) hr) ?_
    show Go p e s below _ _ _ _ s₁ (mkF m 114 (LA6 p1 p2 p3 p4 lt t0 t1 sm lf f0 f1 ln c0) [(.int (255 : Int32)), (.int ((p3.toUInt32 >>> ((8 : Int32) &&& 31).toUInt32).toInt32))])
    refine Go.of (fun _ hr => XS.iand X0.here hx rfl (hb hby at_114) rfl hr) ?_
    show Go p e s below _ _ _ _ s₁ (mkF m 115 (LA6 p1 p2 p3 p4 lt t0 t1 sm lf f0 f1 ln c0) [(.int (((p3.toUInt32 >>> ((8 : Int32) &&& 31).toUInt32).toInt32) &&& (255 : Int32)))])
    refine Go.of (fun _ hr => XS.i2c X0.here hx rfl (hb hby at_115) rfl hr) ?_
    show Go p e s below _ _ _ _ s₁ (mkF m 116 (LA6 p1 p2 p3 p4 lt t0 t1 sm lf f0 f1 ln c0) [(.int ((((p3.toUInt32 >>> ((8 : Int32) &&& 31).toUInt32).toInt32) &&& (255 : Int32)).toUInt32.toUInt16.toUInt32.toInt32))])
    have hq_c1 := chr8 ((p3.toUInt32 >>> ((8 : Int32) &&& 31).toUInt32).toInt32)
    generalize ((((p3.toUInt32 >>> ((8 : Int32) &&& 31).toUInt32).toInt32) &&& (255 : Int32)).toUInt32.toUInt16.toUInt32.toInt32) = c1 at hq_c1 ⊢
    show Go p e s below _ _ _ _ s₁ (mkF m 116 (LA6 p1 p2 p3 p4 lt t0 t1 sm lf f0 f1 ln c0) [(.int c1)])
    refine Go.of (fun _ hr => XS.istore X0.here hx rfl (hb hby at_116) rfl (l' := (LA7 p1 p2 p3 p4 lt t0 t1 sm lf f0 f1 ln c0 c1)) rfl hr) ?_
    show Go p e s below _ _ _ _ s₁ (mkF m 118 (LA7 p1 p2 p3 p4 lt t0 t1 sm lf f0 f1 ln c0 c1) [])
    refine Go.of (fun _ hr => XS.iloadN X0.here hx rfl (hb hby at_118) rfl  hr) ?_
    show Go p e s below _ _ _ _ s₁ (mkF m 119 (LA7 p1 p2 p3 p4 lt t0 t1 sm lf f0 f1 ln c0 c1) [(.int p4)])
    refine Go.of (fun _ hr => XS.bipush X0.here hx rfl (hb hby at_119) hr) ?_
    show Go p e s below _ _ _ _ s₁ (mkF m 121 (LA7 p1 p2 p3 p4 lt t0 t1 sm lf f0 f1 ln c0 c1) [(.int (12 : Int32)), (.int p4)])
    refine Go.of (fun _ hr => XS.iushr X0.here hx rfl (hb hby at_121) rfl hr) ?_
    show Go p e s below _ _ _ _ s₁ (mkF m 122 (LA7 p1 p2 p3 p4 lt t0 t1 sm lf f0 f1 ln c0 c1) [(.int ((p4.toUInt32 >>> ((12 : Int32) &&& 31).toUInt32).toInt32))])
    refine Go.of (fun _ hr => XS.iconst X0.here hx rfl (hb hby at_122) hr) ?_
    show Go p e s below _ _ _ _ s₁ (mkF m 123 (LA7 p1 p2 p3 p4 lt t0 t1 sm lf f0 f1 ln c0 c1) [(.int (3 : Int32)), (.int ((p4.toUInt32 >>> ((12 : Int32) &&& 31).toUInt32).toInt32))])
    refine Go.of (fun _ hr => XS.iand X0.here hx rfl (hb hby at_123) rfl hr) ?_
    show Go p e s below _ _ _ _ s₁ (mkF m 124 (LA7 p1 p2 p3 p4 lt t0 t1 sm lf f0 f1 ln c0 c1) [(.int (((p4.toUInt32 >>> ((12 : Int32) &&& 31).toUInt32).toInt32) &&& (3 : Int32)))])
    refine Go.of (fun _ hr => XS.iconst X0.here hx rfl (hb hby at_124) hr) ?_
    show Go p e s below _ _ _ _ s₁ (mkF m 125 (LA7 p1 p2 p3 p4 lt t0 t1 sm lf f0 f1 ln c0 c1) [(.int (3 : Int32)), (.int (((p4.toUInt32 >>> ((12 : Int32) &&& 31).toUInt32).toInt32) &&& (3 : Int32)))])
    refine Go.of (fun _ hr => iremM X0 hx rfl (hb hby at_125) rfl (by decide) hr) ?_
    show Go p e s below _ _ _ _ s₁ (mkF m 126 (LA7 p1 p2 p3 p4 lt t0 t1 sm lf f0 f1 ln c0 c1) [(.int ((((p4.toUInt32 >>> ((12 : Int32) &&& 31).toUInt32).toInt32) &&& (3 : Int32)) % (3 : Int32)))])
    generalize ((((p4.toUInt32 >>> ((12 : Int32) &&& 31).toUInt32).toInt32) &&& (3 : Int32)) % (3 : Int32)) = lm
    show Go p e s below _ _ _ _ s₁ (mkF m 126 (LA7 p1 p2 p3 p4 lt t0 t1 sm lf f0 f1 ln c0 c1) [(.int lm)])
    refine Go.of (fun _ hr => XS.istore X0.here hx rfl (hb hby at_126) rfl (l' := (LA8 p1 p2 p3 p4 lt t0 t1 sm lf f0 f1 ln c0 c1 lm)) rfl hr) ?_
    show Go p e s below _ _ _ _ s₁ (mkF m 128 (LA8 p1 p2 p3 p4 lt t0 t1 sm lf f0 f1 ln c0 c1 lm) [])
    refine Go.of (fun _ hr => XS.iloadN X0.here hx rfl (hb hby at_128) rfl  hr) ?_
    show Go p e s below _ _ _ _ s₁ (mkF m 129 (LA8 p1 p2 p3 p4 lt t0 t1 sm lf f0 f1 ln c0 c1 lm) [(.int p3)])
    refine Go.of (fun _ hr => XS.bipush X0.here hx rfl (hb hby at_129) hr) ?_
    show Go p e s below _ _ _ _ s₁ (mkF m 131 (LA8 p1 p2 p3 p4 lt t0 t1 sm lf f0 f1 ln c0 c1 lm) [(.int (16 : Int32)), (.int p3)])
    refine Go.of (fun _ hr => XS.iushr X0.here hx rfl (hb hby at_131) rfl hr) ?_
    show Go p e s below _ _ _ _ s₁ (mkF m 132 (LA8 p1 p2 p3 p4 lt t0 t1 sm lf f0 f1 ln c0 c1 lm) [(.int ((p3.toUInt32 >>> ((16 : Int32) &&& 31).toUInt32).toInt32))])
    refine Go.of (fun _ hr => XS.sipush X0.here hx rfl (hb hby at_132) hr) ?_
    show Go p e s below _ _ _ _ s₁ (mkF m 135 (LA8 p1 p2 p3 p4 lt t0 t1 sm lf f0 f1 ln c0 c1 lm) [(.int (255 : Int32)), (.int ((p3.toUInt32 >>> ((16 : Int32) &&& 31).toUInt32).toInt32))])
    refine Go.of (fun _ hr => XS.iand X0.here hx rfl (hb hby at_135) rfl hr) ?_
    show Go p e s below _ _ _ _ s₁ (mkF m 136 (LA8 p1 p2 p3 p4 lt t0 t1 sm lf f0 f1 ln c0 c1 lm) [(.int (((p3.toUInt32 >>> ((16 : Int32) &&& 31).toUInt32).toInt32) &&& (255 : Int32)))])
    refine Go.of (fun _ hr => XS.i2c X0.here hx rfl (hb hby at_136) rfl hr) ?_
    show Go p e s below _ _ _ _ s₁ (mkF m 137 (LA8 p1 p2 p3 p4 lt t0 t1 sm lf f0 f1 ln c0 c1 lm) [(.int ((((p3.toUInt32 >>> ((16 : Int32) &&& 31).toUInt32).toInt32) &&& (255 : Int32)).toUInt32.toUInt16.toUInt32.toInt32))])
    have hq_m0 := chr8 ((p3.toUInt32 >>> ((16 : Int32) &&& 31).toUInt32).toInt32)
    generalize ((((p3.toUInt32 >>> ((16 : Int32) &&& 31).toUInt32).toInt32) &&& (255 : Int32)).toUInt32.toUInt16.toUInt32.toInt32) = m0 at hq_m0 ⊢
    show Go p e s below _ _ _ _ s₁ (mkF m 137 (LA8 p1 p2 p3 p4 lt t0 t1 sm lf f0 f1 ln c0 c1 lm) [(.int m0)])
    refine Go.of (fun _ hr => XS.istore X0.here hx rfl (hb hby at_137) rfl (l' := (LA9 p1 p2 p3 p4 lt t0 t1 sm lf f0 f1 ln c0 c1 lm m0)) rfl hr) ?_
    show Go p e s below _ _ _ _ s₁ (mkF m 139 (LA9 p1 p2 p3 p4 lt t0 t1 sm lf f0 f1 ln c0 c1 lm m0) [])
    refine Go.of (fun _ hr => XS.iloadN X0.here hx rfl (hb hby at_139) rfl  hr) ?_
    show Go p e s below _ _ _ _ s₁ (mkF m 140 (LA9 p1 p2 p3 p4 lt t0 t1 sm lf f0 f1 ln c0 c1 lm m0) [(.int p3)])
    refine Go.of (fun _ hr => XS.bipush X0.here hx rfl (hb hby at_140) hr) ?_
    show Go p e s below _ _ _ _ s₁ (mkF m 142 (LA9 p1 p2 p3 p4 lt t0 t1 sm lf f0 f1 ln c0 c1 lm m0) [(.int (24 : Int32)), (.int p3)])
    refine Go.of (fun _ hr => XS.iushr X0.here hx rfl (hb hby at_142) rfl hr) ?_
    show Go p e s below _ _ _ _ s₁ (mkF m 143 (LA9 p1 p2 p3 p4 lt t0 t1 sm lf f0 f1 ln c0 c1 lm m0) [(.int ((p3.toUInt32 >>> ((24 : Int32) &&& 31).toUInt32).toInt32))])
    refine Go.of (fun _ hr => XS.sipush X0.here hx rfl (hb hby at_143) hr) ?_
    show Go p e s below _ _ _ _ s₁ (mkF m 146 (LA9 p1 p2 p3 p4 lt t0 t1 sm lf f0 f1 ln c0 c1 lm m0) [(.int (255 : Int32)), (.int ((p3.toUInt32 >>> ((24 : Int32) &&& 31).toUInt32).toInt32))])
    refine Go.of (fun _ hr => XS.iand X0.here hx rfl (hb hby at_146) rfl hr) ?_
    show Go p e s below _ _ _ _ s₁ (mkF m 147 (LA9 p1 p2 p3 p4 lt t0 t1 sm lf f0 f1 ln c0 c1 lm m0) [(.int (((p3.toUInt32 >>> ((24 : Int32) &&& 31).toUInt32).toInt32) &&& (255 : Int32)))])
    refine Go.of (fun _ hr => XS.i2c X0.here hx rfl (hb hby at_147) rfl hr) ?_
    show Go p e s below _ _ _ _ s₁ (mkF m 148 (LA9 p1 p2 p3 p4 lt t0 t1 sm lf f0 f1 ln c0 c1 lm m0) [(.int ((((p3.toUInt32 >>> ((24 : Int32) &&& 31).toUInt32).toInt32) &&& (255 : Int32)).toUInt32.toUInt16.toUInt32.toInt32))])
    have hq_m1 := chr8 ((p3.toUInt32 >>> ((24 : Int32) &&& 31).toUInt32).toInt32)
    generalize ((((p3.toUInt32 >>> ((24 : Int32) &&& 31).toUInt32).toInt32) &&& (255 : Int32)).toUInt32.toUInt16.toUInt32.toInt32) = m1 at hq_m1 ⊢
    show Go p e s below _ _ _ _ s₁ (mkF m 148 (LA9 p1 p2 p3 p4 lt t0 t1 sm lf f0 f1 ln c0 c1 lm m0) [(.int m1)])
    refine Go.of (fun _ hr => XS.istore X0.here hx rfl (hb hby at_148) rfl (l' := (LA10 p1 p2 p3 p4 lt t0 t1 sm lf f0 f1 ln c0 c1 lm m0 m1)) rfl hr) ?_
    show Go p e s below _ _ _ _ s₁ (mkF m 150 (LA10 p1 p2 p3 p4 lt t0 t1 sm lf f0 f1 ln c0 c1 lm m0 m1) [])
    refine Go.of (fun _ hr => XS.iload X0.here hx rfl (hb hby at_150) rfl  hr) ?_
    show Go p e s below _ _ _ _ s₁ (mkF m 152 (LA10 p1 p2 p3 p4 lt t0 t1 sm lf f0 f1 ln c0 c1 lm m0 m1) [(.int lt)])
    refine Go.of (fun _ hr => XS.iload X0.here hx rfl (hb hby at_152) rfl  hr) ?_
    show Go p e s below _ _ _ _ s₁ (mkF m 154 (LA10 p1 p2 p3 p4 lt t0 t1 sm lf f0 f1 ln c0 c1 lm m0 m1) [(.int t0), (.int lt)])
    refine Go.of (fun _ hr => XS.iload X0.here hx rfl (hb hby at_154) rfl  hr) ?_
    show Go p e s below _ _ _ _ s₁ (mkF m 156 (LA10 p1 p2 p3 p4 lt t0 t1 sm lf f0 f1 ln c0 c1 lm m0 m1) [(.int t1), (.int t0), (.int lt)])
    obtain ⟨_, b102, T102, h102, L102, e102, Cc102, X102, B102, J102, g102, hQ102, st102⟩ := own_callS Cc B0 J0 X0 (hw _ (List.mem_of_getElem? (i := 0) rfl)) (hw _ (List.mem_of_getElem? (i := 1) rfl)) (hw _ (List.mem_of_getElem? (i := 2) rfl)) (hw _ (List.mem_of_getElem? (i := 3) rfl)) (by decide) (rm1 l Z a0 hw [] lt t0 t1 zc _ h0 n0 O0 h0.size (own_ole O0) K0.1 hq_t0 hq_t1 S_C hzc) e0 (g := (mkF m 156 (LA10 p1 p2 p3 p4 lt t0 t1 sm lf f0 f1 ln c0 c1 lm m0 m1) [(.int t1), (.int t0), (.int lt)])) rfl (by rw [hml]; rfl) (argsL := [(.int lt), (.int t0), (.int t1)]) (rest := []) (lenOf pd12 rfl) rfl (W := 0) (by show 2 * 0 + _ ≤ _; exact Nat.le_of_eq rfl) (hb hby at_156) (by decide) (by decide) (by decide) (by decide)
    obtain ⟨r102, t102, kt102, rfl, Nq102, Eq102, R_r102, nt102, Er102, Fv102, Fc102, Vt102⟩ := hQ102
    have N102 := Fr.app N0 Nq102
    obtain ⟨hx, hZ, hown, hby, hml, hnm, hret, hlk⟩ := id Cc102
    have sz_r102 : h0.size ≤ r102 := Nat.le_trans K0.1 R_r102
    have fr_r102 : h0.size ≤ r102 := sz_r102
    have K102 := K0.ext Eq102
    have O102 := O0.ext Eq102
    refine Go.of st102 ?_
    show Go p e s below _ _ _ _ T102 (mkF m 159 (LA10 p1 p2 p3 p4 lt t0 t1 sm lf f0 f1 ln c0 c1 lm m0 m1) [(.ref r102)])
    refine Go.of (fun _ hr => XS.astore X102.here hx rfl (hb hby at_159) rfl rfl (l' := (LA11 p1 p2 p3 p4 lt t0 t1 sm lf f0 f1 ln c0 c1 lm m0 m1 r102)) rfl hr) ?_
    show Go p e s below _ _ _ _ T102 (mkF m 161 (LA11 p1 p2 p3 p4 lt t0 t1 sm lf f0 f1 ln c0 c1 lm m0 m1 r102) [])
    refine Go.of (fun _ hr => XS.iload X102.here hx rfl (hb hby at_161) rfl  hr) ?_
    show Go p e s below _ _ _ _ T102 (mkF m 163 (LA11 p1 p2 p3 p4 lt t0 t1 sm lf f0 f1 ln c0 c1 lm m0 m1 r102) [(.int lf)])
    refine Go.of (fun _ hr => XS.iload X102.here hx rfl (hb hby at_163) rfl  hr) ?_
    show Go p e s below _ _ _ _ T102 (mkF m 165 (LA11 p1 p2 p3 p4 lt t0 t1 sm lf f0 f1 ln c0 c1 lm m0 m1 r102) [(.int f0), (.int lf)])
    refine Go.of (fun _ hr => XS.iload X102.here hx rfl (hb hby at_165) rfl  hr) ?_
    show Go p e s below _ _ _ _ T102 (mkF m 167 (LA11 p1 p2 p3 p4 lt t0 t1 sm lf f0 f1 ln c0 c1 lm m0 m1 r102) [(.int f1), (.int f0), (.int lf)])
    obtain ⟨_, b103, T103, h103, L103, e103, Cc103, X103, B103, J103, g103, hQ103, st103⟩ := own_callS Cc102 B102 J102 X102 (hw _ (List.mem_of_getElem? (i := 0) rfl)) (hw _ (List.mem_of_getElem? (i := 1) rfl)) (hw _ (List.mem_of_getElem? (i := 2) rfl)) (hw _ (List.mem_of_getElem? (i := 3) rfl)) (by decide) (rm1 l Z a0 hw [] lf f0 f1 zc _ h102 n0 O102 h0.size (own_ole O0) K102.1 hq_f0 hq_f1 S_C hzc) e102 (g := (mkF m 167 (LA11 p1 p2 p3 p4 lt t0 t1 sm lf f0 f1 ln c0 c1 lm m0 m1 r102) [(.int f1), (.int f0), (.int lf)])) rfl (by rw [hml]; rfl) (argsL := [(.int lf), (.int f0), (.int f1)]) (rest := []) (lenOf pd12 rfl) rfl (W := 0) (by show 2 * 0 + _ ≤ _; exact Nat.le_of_eq rfl) (hb hby at_167) (by decide) (by decide) (by decide) (by decide)
    obtain ⟨r103, t103, kt103, rfl, Nq103, Eq103, R_r103, nt103, Er103, Fv103, Fc103, Vt103⟩ := hQ103
    have N103 := Fr.app N102 Nq103
    obtain ⟨hx, hZ, hown, hby, hml, hnm, hret, hlk⟩ := id Cc103
    have sz_r103 : h0.size ≤ r103 := Nat.le_trans K102.1 R_r103
    have fr_r103 : h0.size ≤ r103 := sz_r103
    have ne_r102_r103 : r102 ≠ r103 := Nat.ne_of_lt (Nat.lt_of_lt_of_le Er102.lt R_r103)
    have ne_t102_r103 : t102 ≠ r103 := Nat.ne_of_lt (Nat.lt_of_lt_of_le Vt102.lt R_r103)
    have K103 := K102.ext Eq103
    have O103 := O102.ext Eq103
    refine Go.of st103 ?_
    show Go p e s below _ _ _ _ T103 (mkF m 170 (LA11 p1 p2 p3 p4 lt t0 t1 sm lf f0 f1 ln c0 c1 lm m0 m1 r102) [(.ref r103)])
    refine Go.of (fun _ hr => XS.astore X103.here hx rfl (hb hby at_170) rfl rfl (l' := (LA12 p1 p2 p3 p4 lt t0 t1 sm lf f0 f1 ln c0 c1 lm m0 m1 r102 r103)) rfl hr) ?_
    show Go p e s below _ _ _ _ T103 (mkF m 172 (LA12 p1 p2 p3 p4 lt t0 t1 sm lf f0 f1 ln c0 c1 lm m0 m1 r102 r103) [])
    refine Go.of (fun _ hr => XS.iloadN X103.here hx rfl (hb hby at_172) rfl  hr) ?_
    show Go p e s below _ _ _ _ T103 (mkF m 173 (LA12 p1 p2 p3 p4 lt t0 t1 sm lf f0 f1 ln c0 c1 lm m0 m1 r102 r103) [(.int p4)])
    refine Go.of (fun _ hr => XS.bipush X103.here hx rfl (hb hby at_173) hr) ?_
    show Go p e s below _ _ _ _ T103 (mkF m 175 (LA12 p1 p2 p3 p4 lt t0 t1 sm lf f0 f1 ln c0 c1 lm m0 m1 r102 r103) [(.int (6 : Int32)), (.int p4)])
    refine Go.of (fun _ hr => XS.iushr X103.here hx rfl (hb hby at_175) rfl hr) ?_
    show Go p e s below _ _ _ _ T103 (mkF m 176 (LA12 p1 p2 p3 p4 lt t0 t1 sm lf f0 f1 ln c0 c1 lm m0 m1 r102 r103) [(.int ((p4.toUInt32 >>> ((6 : Int32) &&& 31).toUInt32).toInt32))])
    refine Go.of (fun _ hr => XS.iconst X103.here hx rfl (hb hby at_176) hr) ?_
    show Go p e s below _ _ _ _ T103 (mkF m 177 (LA12 p1 p2 p3 p4 lt t0 t1 sm lf f0 f1 ln c0 c1 lm m0 m1 r102 r103) [(.int (1 : Int32)), (.int ((p4.toUInt32 >>> ((6 : Int32) &&& 31).toUInt32).toInt32))])
    refine Go.of (fun _ hr => XS.iand X103.here hx rfl (hb hby at_177) rfl hr) ?_
    show Go p e s below _ _ _ _ T103 (mkF m 178 (LA12 p1 p2 p3 p4 lt t0 t1 sm lf f0 f1 ln c0 c1 lm m0 m1 r102 r103) [(.int (((p4.toUInt32 >>> ((6 : Int32) &&& 31).toUInt32).toInt32) &&& (1 : Int32)))])
    by_cases hb178_104 : (((p4.toUInt32 >>> ((6 : Int32) &&& 31).toUInt32).toInt32) &&& (1 : Int32)) = (0 : Int32)
    · refine Go.of (fun _ hr => XS.ifYes X103.here hx rfl (pc0 := 178) (pc' := 195) rfl (hb hby at_178) rfl ((if0 _ _).trans (teq hb178_104).1) (by decide) (by decide) hr) ?_
      show Go p e s below _ _ _ _ T103 (mkF m 195 (LA12 p1 p2 p3 p4 lt t0 t1 sm lf f0 f1 ln c0 c1 lm m0 m1 r102 r103) [])
      refine Go.of (fun _ hr => XS.iload X103.here hx rfl (hb hby at_195) rfl  hr) ?_
      show Go p e s below _ _ _ _ T103 (mkF m 197 (LA12 p1 p2 p3 p4 lt t0 t1 sm lf f0 f1 ln c0 c1 lm m0 m1 r102 r103) [(.int ln)])
      refine Go.of (fun _ hr => XS.iload X103.here hx rfl (hb hby at_197) rfl  hr) ?_
      show Go p e s below _ _ _ _ T103 (mkF m 199 (LA12 p1 p2 p3 p4 lt t0 t1 sm lf f0 f1 ln c0 c1 lm m0 m1 r102 r103) [(.int c0), (.int ln)])
      refine Go.of (fun _ hr => XS.iload X103.here hx rfl (hb hby at_199) rfl  hr) ?_
      show Go p e s below _ _ _ _ T103 (mkF m 201 (LA12 p1 p2 p3 p4 lt t0 t1 sm lf f0 f1 ln c0 c1 lm m0 m1 r102 r103) [(.int c1), (.int c0), (.int ln)])
      obtain ⟨_, b105, T105, h105, L105, e105, Cc105, X105, B105, J105, g105, hQ105, st105⟩ := own_callS Cc103 B103 J103 X103 (hw _ (List.mem_of_getElem? (i := 0) rfl)) (hw _ (List.mem_of_getElem? (i := 1) rfl)) (hw _ (List.mem_of_getElem? (i := 2) rfl)) (hw _ (List.mem_of_getElem? (i := 3) rfl)) (by decide) (rm1 l Z a0 hw [] ln c0 c1 zc _ h103 n0 O103 h0.size (own_ole O0) K103.1 hq_c0 hq_c1 S_C hzc) e103 (g := (mkF m 201 (LA12 p1 p2 p3 p4 lt t0 t1 sm lf f0 f1 ln c0 c1 lm m0 m1 r102 r103) [(.int c1), (.int c0), (.int ln)])) rfl (by rw [hml]; rfl) (argsL := [(.int ln), (.int c0), (.int c1)]) (rest := []) (lenOf pd12 rfl) rfl (W := 0) (by show 2 * 0 + _ ≤ _; exact Nat.le_of_eq rfl) (hb hby at_201) (by decide) (by decide) (by decide) (by decide)
      have f106 := (Er102.ext Eq103)
      have f107 := (Vt102.ext Eq103)
      obtain ⟨r105, t105, kt105, rfl, Nq105, Eq105, R_r105, nt105, Er105, Fv105, Fc105, Vt105⟩ := hQ105
      have N105 := Fr.app N103 Nq105
      obtain ⟨hx, hZ, hown, hby, hml, hnm, hret, hlk⟩ := id Cc105
      have sz_r105 : h0.size ≤ r105 := Nat.le_trans K103.1 R_r105
      have fr_r105 : h0.size ≤ r105 := sz_r105
      have ne_r102_r105 : r102 ≠ r105 := Nat.ne_of_lt (Nat.lt_of_lt_of_le f106.lt R_r105)
      have ne_t102_r105 : t102 ≠ r105 := Nat.ne_of_lt (Nat.lt_of_lt_of_le f107.lt R_r105)
      have ne_r103_r105 : r103 ≠ r105 := Nat.ne_of_lt (Nat.lt_of_lt_of_le Er103.lt R_r105)
      have ne_t103_r105 : t103 ≠ r105 := Nat.ne_of_lt (Nat.lt_of_lt_of_le Vt103.lt R_r105)
      have K105 := K103.ext Eq105
      have O105 := O103.ext Eq105
      refine Go.of st105 ?_
      show Go p e s below _ _ _ _ T105 (mkF m 204 (LA12 p1 p2 p3 p4 lt t0 t1 sm lf f0 f1 ln c0 c1 lm m0 m1 r102 r103) [(.ref r105)])
      refine Go.of (fun _ hr => XS.astore X105.here hx rfl (hb hby at_204) rfl rfl (l' := (LA13 p1 p2 p3 p4 lt t0 t1 sm lf f0 f1 ln c0 c1 lm m0 m1 r102 r103 r105)) rfl hr) ?_
      show Go p e s below _ _ _ _ T105 (mkF m 206 (LA13 p1 p2 p3 p4 lt t0 t1 sm lf f0 f1 ln c0 c1 lm m0 m1 r102 r103 r105) [])
      refine Go.of (fun _ hr => XS.iloadN X105.here hx rfl (hb hby at_206) rfl  hr) ?_
      show Go p e s below _ _ _ _ T105 (mkF m 207 (LA13 p1 p2 p3 p4 lt t0 t1 sm lf f0 f1 ln c0 c1 lm m0 m1 r102 r103 r105) [(.int p4)])
      refine Go.of (fun _ hr => XS.bipush X105.here hx rfl (hb hby at_207) hr) ?_
      show Go p e s below _ _ _ _ T105 (mkF m 209 (LA13 p1 p2 p3 p4 lt t0 t1 sm lf f0 f1 ln c0 c1 lm m0 m1 r102 r103 r105) [(.int (7 : Int32)), (.int p4)])
      refine Go.of (fun _ hr => XS.iushr X105.here hx rfl (hb hby at_209) rfl hr) ?_
      show Go p e s below _ _ _ _ T105 (mkF m 210 (LA13 p1 p2 p3 p4 lt t0 t1 sm lf f0 f1 ln c0 c1 lm m0 m1 r102 r103 r105) [(.int ((p4.toUInt32 >>> ((7 : Int32) &&& 31).toUInt32).toInt32))])
      refine Go.of (fun _ hr => XS.iconst X105.here hx rfl (hb hby at_210) hr) ?_
      show Go p e s below _ _ _ _ T105 (mkF m 211 (LA13 p1 p2 p3 p4 lt t0 t1 sm lf f0 f1 ln c0 c1 lm m0 m1 r102 r103 r105) [(.int (1 : Int32)), (.int ((p4.toUInt32 >>> ((7 : Int32) &&& 31).toUInt32).toInt32))])
      refine Go.of (fun _ hr => XS.iand X105.here hx rfl (hb hby at_211) rfl hr) ?_
      show Go p e s below _ _ _ _ T105 (mkF m 212 (LA13 p1 p2 p3 p4 lt t0 t1 sm lf f0 f1 ln c0 c1 lm m0 m1 r102 r103 r105) [(.int (((p4.toUInt32 >>> ((7 : Int32) &&& 31).toUInt32).toInt32) &&& (1 : Int32)))])
      by_cases hb212_108 : (((p4.toUInt32 >>> ((7 : Int32) &&& 31).toUInt32).toInt32) &&& (1 : Int32)) = (0 : Int32)
      · refine Go.of (fun _ hr => XS.ifYes X105.here hx rfl (pc0 := 212) (pc' := 229) rfl (hb hby at_212) rfl ((if0 _ _).trans (teq hb212_108).1) (by decide) (by decide) hr) ?_
        show Go p e s below _ _ _ _ T105 (mkF m 229 (LA13 p1 p2 p3 p4 lt t0 t1 sm lf f0 f1 ln c0 c1 lm m0 m1 r102 r103 r105) [])
        refine Go.of (fun _ hr => XS.iload X105.here hx rfl (hb hby at_229) rfl  hr) ?_
        show Go p e s below _ _ _ _ T105 (mkF m 231 (LA13 p1 p2 p3 p4 lt t0 t1 sm lf f0 f1 ln c0 c1 lm m0 m1 r102 r103 r105) [(.int lm)])
        refine Go.of (fun _ hr => XS.iload X105.here hx rfl (hb hby at_231) rfl  hr) ?_
        show Go p e s below _ _ _ _ T105 (mkF m 233 (LA13 p1 p2 p3 p4 lt t0 t1 sm lf f0 f1 ln c0 c1 lm m0 m1 r102 r103 r105) [(.int m0), (.int lm)])
        refine Go.of (fun _ hr => XS.iload X105.here hx rfl (hb hby at_233) rfl  hr) ?_
        show Go p e s below _ _ _ _ T105 (mkF m 235 (LA13 p1 p2 p3 p4 lt t0 t1 sm lf f0 f1 ln c0 c1 lm m0 m1 r102 r103 r105) [(.int m1), (.int m0), (.int lm)])
        obtain ⟨_, b109, T109, h109, L109, e109, Cc109, X109, B109, J109, g109, hQ109, st109⟩ := own_callS Cc105 B105 J105 X105 (hw _ (List.mem_of_getElem? (i := 0) rfl)) (hw _ (List.mem_of_getElem? (i := 1) rfl)) (hw _ (List.mem_of_getElem? (i := 2) rfl)) (hw _ (List.mem_of_getElem? (i := 3) rfl)) (by decide) (rm1 l Z a0 hw [] lm m0 m1 zc _ h105 n0 O105 h0.size (own_ole O0) K105.1 hq_m0 hq_m1 S_C hzc) e105 (g := (mkF m 235 (LA13 p1 p2 p3 p4 lt t0 t1 sm lf f0 f1 ln c0 c1 lm m0 m1 r102 r103 r105) [(.int m1), (.int m0), (.int lm)])) rfl (by rw [hml]; rfl) (argsL := [(.int lm), (.int m0), (.int m1)]) (rest := []) (lenOf pd12 rfl) rfl (W := 0) (by show 2 * 0 + _ ≤ _; exact Nat.le_of_eq rfl) (hb hby at_235) (by decide) (by decide) (by decide) (by decide)
        have f110 := (f106.ext Eq105)
        have f111 := (f107.ext Eq105)
        have f112 := (Er103.ext Eq105)
        have f113 := (Vt103.ext Eq105)
        obtain ⟨r109, t109, kt109, rfl, Nq109, Eq109, R_r109, nt109, Er109, Fv109, Fc109, Vt109⟩ := hQ109
        have N109 := Fr.app N105 Nq109
        obtain ⟨hx, hZ, hown, hby, hml, hnm, hret, hlk⟩ := id Cc109
        have sz_r109 : h0.size ≤ r109 := Nat.le_trans K105.1 R_r109
        have fr_r109 : h0.size ≤ r109 := sz_r109
        have ne_r102_r109 : r102 ≠ r109 := Nat.ne_of_lt (Nat.lt_of_lt_of_le f110.lt R_r109)
        have ne_t102_r109 : t102 ≠ r109 := Nat.ne_of_lt (Nat.lt_of_lt_of_le f111.lt R_r109)
        have ne_r103_r109 : r103 ≠ r109 := Nat.ne_of_lt (Nat.lt_of_lt_of_le f112.lt R_r109)
        have ne_t103_r109 : t103 ≠ r109 := Nat.ne_of_lt (Nat.lt_of_lt_of_le f113.lt R_r109)
        have ne_r105_r109 : r105 ≠ r109 := Nat.ne_of_lt (Nat.lt_of_lt_of_le Er105.lt R_r109)
        have ne_t105_r109 : t105 ≠ r109 := Nat.ne_of_lt (Nat.lt_of_lt_of_le Vt105.lt R_r109)
        have K109 := K105.ext Eq109
        have O109 := O105.ext Eq109
        refine Go.of st109 ?_
        show Go p e s below _ _ _ _ T109 (mkF m 238 (LA13 p1 p2 p3 p4 lt t0 t1 sm lf f0 f1 ln c0 c1 lm m0 m1 r102 r103 r105) [(.ref r109)])
        refine Go.of (fun _ hr => XS.astore X109.here hx rfl (hb hby at_238) rfl rfl (l' := #[.val (.int p1), .val (.int p2), .val (.int p3), .val (.int p4), .val (.int lt), .val (.int t0), .val (.int t1), .val (.int sm), .val (.int lf), .val (.int f0), .val (.int f1), .val (.int ln), .val (.int c0), .val (.int c1), .val (.int lm), .val (.int m0), .val (.int m1), .val (.ref r102), .val (.ref r103), .val (.ref r105), .val (.ref r109), .unset, .unset, .unset, .unset, .unset]) rfl hr) ?_
        show Go p e s below _ _ _ _ T109 (mkF m 240 #[.val (.int p1), .val (.int p2), .val (.int p3), .val (.int p4), .val (.int lt), .val (.int t0), .val (.int t1), .val (.int sm), .val (.int lf), .val (.int f0), .val (.int f1), .val (.int ln), .val (.int c0), .val (.int c1), .val (.int lm), .val (.int m0), .val (.int m1), .val (.ref r102), .val (.ref r103), .val (.ref r105), .val (.ref r109), .unset, .unset, .unset, .unset, .unset] [])
        have f114 := (f110.ext Eq109)
        have f115 := (((Fv102.ext Eq103).ext Eq105).ext Eq109)
        have f116 := (((Fc102.ext Eq103).ext Eq105).ext Eq109)
        have f117 := (f111.ext Eq109)
        have f118 := (f112.ext Eq109)
        have f119 := ((Fv103.ext Eq105).ext Eq109)
        have f120 := ((Fc103.ext Eq105).ext Eq109)
        have f121 := (f113.ext Eq109)
        exact law_tail l Z a0 hw p1 p2 p3 p4 lt t0 t1 sm lf f0 f1 ln c0 c1 lm m0 m1 r102 r103 r105 r109 t102 t103 _ _ zc h109 n0 O109 nb hb0 (Nat.le_trans hnb K109.1) hr_lt hr_lf hq_t0 hq_t1 hq_f0 hq_f1 (Ne.symm ne_r102_r103) f114 f115 f116 f117 f118 f119 f120 f121 S_C hzc Cc109 X109 e109 (fun y hy => Nat.le_trans hnb (N109 y hy)) J109 B109
      · refine Go.of (fun _ hr => XS.ifNo X105.here hx rfl (hb hby at_212) rfl ((if0 _ _).trans (feq hb212_108).1) hr) ?_
        show Go p e s below _ _ _ _ T105 (mkF m 215 (LA13 p1 p2 p3 p4 lt t0 t1 sm lf f0 f1 ln c0 c1 lm m0 m1 r102 r103 r105) [])
        refine Go.of (fun _ hr => XS.iload X105.here hx rfl (hb hby at_215) rfl  hr) ?_
        show Go p e s below _ _ _ _ T105 (mkF m 217 (LA13 p1 p2 p3 p4 lt t0 t1 sm lf f0 f1 ln c0 c1 lm m0 m1 r102 r103 r105) [(.int lt)])
        refine Go.of (fun _ hr => XS.iload X105.here hx rfl (hb hby at_217) rfl  hr) ?_
        show Go p e s below _ _ _ _ T105 (mkF m 219 (LA13 p1 p2 p3 p4 lt t0 t1 sm lf f0 f1 ln c0 c1 lm m0 m1 r102 r103 r105) [(.int t0), (.int lt)])
        refine Go.of (fun _ hr => XS.iload X105.here hx rfl (hb hby at_219) rfl  hr) ?_
        show Go p e s below _ _ _ _ T105 (mkF m 221 (LA13 p1 p2 p3 p4 lt t0 t1 sm lf f0 f1 ln c0 c1 lm m0 m1 r102 r103 r105) [(.int t1), (.int t0), (.int lt)])
        obtain ⟨_, b122, T122, h122, L122, e122, Cc122, X122, B122, J122, g122, hQ122, st122⟩ := own_callS Cc105 B105 J105 X105 (hw _ (List.mem_of_getElem? (i := 0) rfl)) (hw _ (List.mem_of_getElem? (i := 1) rfl)) (hw _ (List.mem_of_getElem? (i := 2) rfl)) (hw _ (List.mem_of_getElem? (i := 3) rfl)) (by decide) (rm1 l Z a0 hw [] lt t0 t1 zc _ h105 n0 O105 h0.size (own_ole O0) K105.1 hq_t0 hq_t1 S_C hzc) e105 (g := (mkF m 221 (LA13 p1 p2 p3 p4 lt t0 t1 sm lf f0 f1 ln c0 c1 lm m0 m1 r102 r103 r105) [(.int t1), (.int t0), (.int lt)])) rfl (by rw [hml]; rfl) (argsL := [(.int lt), (.int t0), (.int t1)]) (rest := []) (lenOf pd12 rfl) rfl (W := 0) (by show 2 * 0 + _ ≤ _; exact Nat.le_of_eq rfl) (hb hby at_221) (by decide) (by decide) (by decide) (by decide)
        have f123 := (f106.ext Eq105)
        have f124 := (f107.ext Eq105)
        have f125 := (Er103.ext Eq105)
        have f126 := (Vt103.ext Eq105)
        obtain ⟨r122, t122, kt122, rfl, Nq122, Eq122, R_r122, nt122, Er122, Fv122, Fc122, Vt122⟩ := hQ122
        have N122 := Fr.app N105 Nq122
        obtain ⟨hx, hZ, hown, hby, hml, hnm, hret, hlk⟩ := id Cc122
        have sz_r122 : h0.size ≤ r122 := Nat.le_trans K105.1 R_r122
        have fr_r122 : h0.size ≤ r122 := sz_r122
        have ne_r102_r122 : r102 ≠ r122 := Nat.ne_of_lt (Nat.lt_of_lt_of_le f123.lt R_r122)
        have ne_t102_r122 : t102 ≠ r122 := Nat.ne_of_lt (Nat.lt_of_lt_of_le f124.lt R_r122)
        have ne_r103_r122 : r103 ≠ r122 := Nat.ne_of_lt (Nat.lt_of_lt_of_le f125.lt R_r122)
        have ne_t103_r122 : t103 ≠ r122 := Nat.ne_of_lt (Nat.lt_of_lt_of_le f126.lt R_r122)
        have ne_r105_r122 : r105 ≠ r122 := Nat.ne_of_lt (Nat.lt_of_lt_of_le Er105.lt R_r122)
        have ne_t105_r122 : t105 ≠ r122 := Nat.ne_of_lt (Nat.lt_of_lt_of_le Vt105.lt R_r122)
        have K122 := K105.ext Eq122
        have O122 := O105.ext Eq122
        refine Go.of st122 ?_
        show Go p e s below _ _ _ _ T122 (mkF m 224 (LA13 p1 p2 p3 p4 lt t0 t1 sm lf f0 f1 ln c0 c1 lm m0 m1 r102 r103 r105) [(.ref r122)])
        refine Go.of (fun _ hr => XS.astore X122.here hx rfl (hb hby at_224) rfl rfl (l' := #[.val (.int p1), .val (.int p2), .val (.int p3), .val (.int p4), .val (.int lt), .val (.int t0), .val (.int t1), .val (.int sm), .val (.int lf), .val (.int f0), .val (.int f1), .val (.int ln), .val (.int c0), .val (.int c1), .val (.int lm), .val (.int m0), .val (.int m1), .val (.ref r102), .val (.ref r103), .val (.ref r105), .val (.ref r122), .unset, .unset, .unset, .unset, .unset]) rfl hr) ?_
        show Go p e s below _ _ _ _ T122 (mkF m 226 #[.val (.int p1), .val (.int p2), .val (.int p3), .val (.int p4), .val (.int lt), .val (.int t0), .val (.int t1), .val (.int sm), .val (.int lf), .val (.int f0), .val (.int f1), .val (.int ln), .val (.int c0), .val (.int c1), .val (.int lm), .val (.int m0), .val (.int m1), .val (.ref r102), .val (.ref r103), .val (.ref r105), .val (.ref r122), .unset, .unset, .unset, .unset, .unset] [])
        refine Go.of (fun _ hr => XS.goto X122.here hx rfl (pc0 := 226) (pc' := 240) rfl (hb hby at_226) (by decide) (by decide) hr) ?_
        show Go p e s below _ _ _ _ T122 (mkF m 240 #[.val (.int p1), .val (.int p2), .val (.int p3), .val (.int p4), .val (.int lt), .val (.int t0), .val (.int t1), .val (.int sm), .val (.int lf), .val (.int f0), .val (.int f1), .val (.int ln), .val (.int c0), .val (.int c1), .val (.int lm), .val (.int m0), .val (.int m1), .val (.ref r102), .val (.ref r103), .val (.ref r105), .val (.ref r122), .unset, .unset, .unset, .unset, .unset] [])
        have f127 := (f123.ext Eq122)
        have f128 := (((Fv102.ext Eq103).ext Eq105).ext Eq122)
        have f129 := (((Fc102.ext Eq103).ext Eq105).ext Eq122)
        have f130 := (f124.ext Eq122)
        have f131 := (f125.ext Eq122)
        have f132 := ((Fv103.ext Eq105).ext Eq122)
        have f133 := ((Fc103.ext Eq105).ext Eq122)
        have f134 := (f126.ext Eq122)
        exact law_tail l Z a0 hw p1 p2 p3 p4 lt t0 t1 sm lf f0 f1 ln c0 c1 lm m0 m1 r102 r103 r105 r122 t102 t103 _ _ zc h122 n0 O122 nb hb0 (Nat.le_trans hnb K122.1) hr_lt hr_lf hq_t0 hq_t1 hq_f0 hq_f1 (Ne.symm ne_r102_r103) f127 f128 f129 f130 f131 f132 f133 f134 S_C hzc Cc122 X122 e122 (fun y hy => Nat.le_trans hnb (N122 y hy)) J122 B122
    · refine Go.of (fun _ hr => XS.ifNo X103.here hx rfl (hb hby at_178) rfl ((if0 _ _).trans (feq hb178_104).1) hr) ?_
      show Go p e s below _ _ _ _ T103 (mkF m 181 (LA12 p1 p2 p3 p4 lt t0 t1 sm lf f0 f1 ln c0 c1 lm m0 m1 r102 r103) [])
      refine Go.of (fun _ hr => XS.iload X103.here hx rfl (hb hby at_181) rfl  hr) ?_
      show Go p e s below _ _ _ _ T103 (mkF m 183 (LA12 p1 p2 p3 p4 lt t0 t1 sm lf f0 f1 ln c0 c1 lm m0 m1 r102 r103) [(.int lf)])
      refine Go.of (fun _ hr => XS.iload X103.here hx rfl (hb hby at_183) rfl  hr) ?_
      show Go p e s below _ _ _ _ T103 (mkF m 185 (LA12 p1 p2 p3 p4 lt t0 t1 sm lf f0 f1 ln c0 c1 lm m0 m1 r102 r103) [(.int f0), (.int lf)])
      refine Go.of (fun _ hr => XS.iload X103.here hx rfl (hb hby at_185) rfl  hr) ?_
      show Go p e s below _ _ _ _ T103 (mkF m 187 (LA12 p1 p2 p3 p4 lt t0 t1 sm lf f0 f1 ln c0 c1 lm m0 m1 r102 r103) [(.int f1), (.int f0), (.int lf)])
      obtain ⟨_, b135, T135, h135, L135, e135, Cc135, X135, B135, J135, g135, hQ135, st135⟩ := own_callS Cc103 B103 J103 X103 (hw _ (List.mem_of_getElem? (i := 0) rfl)) (hw _ (List.mem_of_getElem? (i := 1) rfl)) (hw _ (List.mem_of_getElem? (i := 2) rfl)) (hw _ (List.mem_of_getElem? (i := 3) rfl)) (by decide) (rm1 l Z a0 hw [] lf f0 f1 zc _ h103 n0 O103 h0.size (own_ole O0) K103.1 hq_f0 hq_f1 S_C hzc) e103 (g := (mkF m 187 (LA12 p1 p2 p3 p4 lt t0 t1 sm lf f0 f1 ln c0 c1 lm m0 m1 r102 r103) [(.int f1), (.int f0), (.int lf)])) rfl (by rw [hml]; rfl) (argsL := [(.int lf), (.int f0), (.int f1)]) (rest := []) (lenOf pd12 rfl) rfl (W := 0) (by show 2 * 0 + _ ≤ _; exact Nat.le_of_eq rfl) (hb hby at_187) (by decide) (by decide) (by decide) (by decide)
      have f136 := (Er102.ext Eq103)
      have f137 := (Vt102.ext Eq103)
      obtain ⟨r135, t135, kt135, rfl, Nq135, Eq135, R_r135, nt135, Er135, Fv135, Fc135, Vt135⟩ := hQ135
      have N135 := Fr.app N103 Nq135
      obtain ⟨hx, hZ, hown, hby, hml, hnm, hret, hlk⟩ := id Cc135
      have sz_r135 : h0.size ≤ r135 := Nat.le_trans K103.1 R_r135
      have fr_r135 : h0.size ≤ r135 := sz_r135
      have ne_r102_r135 : r102 ≠ r135 := Nat.ne_of_lt (Nat.lt_of_lt_of_le f136.lt R_r135)
      have ne_t102_r135 : t102 ≠ r135 := Nat.ne_of_lt (Nat.lt_of_lt_of_le f137.lt R_r135)
      have ne_r103_r135 : r103 ≠ r135 := Nat.ne_of_lt (Nat.lt_of_lt_of_le Er103.lt R_r135)
      have ne_t103_r135 : t103 ≠ r135 := Nat.ne_of_lt (Nat.lt_of_lt_of_le Vt103.lt R_r135)
      have K135 := K103.ext Eq135
      have O135 := O103.ext Eq135
      refine Go.of st135 ?_
      show Go p e s below _ _ _ _ T135 (mkF m 190 (LA12 p1 p2 p3 p4 lt t0 t1 sm lf f0 f1 ln c0 c1 lm m0 m1 r102 r103) [(.ref r135)])
      refine Go.of (fun _ hr => XS.astore X135.here hx rfl (hb hby at_190) rfl rfl (l' := (LA14 p1 p2 p3 p4 lt t0 t1 sm lf f0 f1 ln c0 c1 lm m0 m1 r102 r103 r135)) rfl hr) ?_
      show Go p e s below _ _ _ _ T135 (mkF m 192 (LA14 p1 p2 p3 p4 lt t0 t1 sm lf f0 f1 ln c0 c1 lm m0 m1 r102 r103 r135) [])
      refine Go.of (fun _ hr => XS.goto X135.here hx rfl (pc0 := 192) (pc' := 206) rfl (hb hby at_192) (by decide) (by decide) hr) ?_
      show Go p e s below _ _ _ _ T135 (mkF m 206 (LA14 p1 p2 p3 p4 lt t0 t1 sm lf f0 f1 ln c0 c1 lm m0 m1 r102 r103 r135) [])
      refine Go.of (fun _ hr => XS.iloadN X135.here hx rfl (hb hby at_206) rfl  hr) ?_
      show Go p e s below _ _ _ _ T135 (mkF m 207 (LA14 p1 p2 p3 p4 lt t0 t1 sm lf f0 f1 ln c0 c1 lm m0 m1 r102 r103 r135) [(.int p4)])
      refine Go.of (fun _ hr => XS.bipush X135.here hx rfl (hb hby at_207) hr) ?_
      show Go p e s below _ _ _ _ T135 (mkF m 209 (LA14 p1 p2 p3 p4 lt t0 t1 sm lf f0 f1 ln c0 c1 lm m0 m1 r102 r103 r135) [(.int (7 : Int32)), (.int p4)])
      refine Go.of (fun _ hr => XS.iushr X135.here hx rfl (hb hby at_209) rfl hr) ?_
      show Go p e s below _ _ _ _ T135 (mkF m 210 (LA14 p1 p2 p3 p4 lt t0 t1 sm lf f0 f1 ln c0 c1 lm m0 m1 r102 r103 r135) [(.int ((p4.toUInt32 >>> ((7 : Int32) &&& 31).toUInt32).toInt32))])
      refine Go.of (fun _ hr => XS.iconst X135.here hx rfl (hb hby at_210) hr) ?_
      show Go p e s below _ _ _ _ T135 (mkF m 211 (LA14 p1 p2 p3 p4 lt t0 t1 sm lf f0 f1 ln c0 c1 lm m0 m1 r102 r103 r135) [(.int (1 : Int32)), (.int ((p4.toUInt32 >>> ((7 : Int32) &&& 31).toUInt32).toInt32))])
      refine Go.of (fun _ hr => XS.iand X135.here hx rfl (hb hby at_211) rfl hr) ?_
      show Go p e s below _ _ _ _ T135 (mkF m 212 (LA14 p1 p2 p3 p4 lt t0 t1 sm lf f0 f1 ln c0 c1 lm m0 m1 r102 r103 r135) [(.int (((p4.toUInt32 >>> ((7 : Int32) &&& 31).toUInt32).toInt32) &&& (1 : Int32)))])
      by_cases hb212_138 : (((p4.toUInt32 >>> ((7 : Int32) &&& 31).toUInt32).toInt32) &&& (1 : Int32)) = (0 : Int32)
      · refine Go.of (fun _ hr => XS.ifYes X135.here hx rfl (pc0 := 212) (pc' := 229) rfl (hb hby at_212) rfl ((if0 _ _).trans (teq hb212_138).1) (by decide) (by decide) hr) ?_
        show Go p e s below _ _ _ _ T135 (mkF m 229 (LA14 p1 p2 p3 p4 lt t0 t1 sm lf f0 f1 ln c0 c1 lm m0 m1 r102 r103 r135) [])
        refine Go.of (fun _ hr => XS.iload X135.here hx rfl (hb hby at_229) rfl  hr) ?_
        show Go p e s below _ _ _ _ T135 (mkF m 231 (LA14 p1 p2 p3 p4 lt t0 t1 sm lf f0 f1 ln c0 c1 lm m0 m1 r102 r103 r135) [(.int lm)])
        refine Go.of (fun _ hr => XS.iload X135.here hx rfl (hb hby at_231) rfl  hr) ?_
        show Go p e s below _ _ _ _ T135 (mkF m 233 (LA14 p1 p2 p3 p4 lt t0 t1 sm lf f0 f1 ln c0 c1 lm m0 m1 r102 r103 r135) [(.int m0), (.int lm)])
        refine Go.of (fun _ hr => XS.iload X135.here hx rfl (hb hby at_233) rfl  hr) ?_
        show Go p e s below _ _ _ _ T135 (mkF m 235 (LA14 p1 p2 p3 p4 lt t0 t1 sm lf f0 f1 ln c0 c1 lm m0 m1 r102 r103 r135) [(.int m1), (.int m0), (.int lm)])
        obtain ⟨_, b139, T139, h139, L139, e139, Cc139, X139, B139, J139, g139, hQ139, st139⟩ := own_callS Cc135 B135 J135 X135 (hw _ (List.mem_of_getElem? (i := 0) rfl)) (hw _ (List.mem_of_getElem? (i := 1) rfl)) (hw _ (List.mem_of_getElem? (i := 2) rfl)) (hw _ (List.mem_of_getElem? (i := 3) rfl)) (by decide) (rm1 l Z a0 hw [] lm m0 m1 zc _ h135 n0 O135 h0.size (own_ole O0) K135.1 hq_m0 hq_m1 S_C hzc) e135 (g := (mkF m 235 (LA14 p1 p2 p3 p4 lt t0 t1 sm lf f0 f1 ln c0 c1 lm m0 m1 r102 r103 r135) [(.int m1), (.int m0), (.int lm)])) rfl (by rw [hml]; rfl) (argsL := [(.int lm), (.int m0), (.int m1)]) (rest := []) (lenOf pd12 rfl) rfl (W := 0) (by show 2 * 0 + _ ≤ _; exact Nat.le_of_eq rfl) (hb hby at_235) (by decide) (by decide) (by decide) (by decide)
        have f140 := (f136.ext Eq135)
        have f141 := (f137.ext Eq135)
        have f142 := (Er103.ext Eq135)
        have f143 := (Vt103.ext Eq135)
        obtain ⟨r139, t139, kt139, rfl, Nq139, Eq139, R_r139, nt139, Er139, Fv139, Fc139, Vt139⟩ := hQ139
        have N139 := Fr.app N135 Nq139
        obtain ⟨hx, hZ, hown, hby, hml, hnm, hret, hlk⟩ := id Cc139
        have sz_r139 : h0.size ≤ r139 := Nat.le_trans K135.1 R_r139
        have fr_r139 : h0.size ≤ r139 := sz_r139
        have ne_r102_r139 : r102 ≠ r139 := Nat.ne_of_lt (Nat.lt_of_lt_of_le f140.lt R_r139)
        have ne_t102_r139 : t102 ≠ r139 := Nat.ne_of_lt (Nat.lt_of_lt_of_le f141.lt R_r139)
        have ne_r103_r139 : r103 ≠ r139 := Nat.ne_of_lt (Nat.lt_of_lt_of_le f142.lt R_r139)
        have ne_t103_r139 : t103 ≠ r139 := Nat.ne_of_lt (Nat.lt_of_lt_of_le f143.lt R_r139)
        have ne_r135_r139 : r135 ≠ r139 := Nat.ne_of_lt (Nat.lt_of_lt_of_le Er135.lt R_r139)
        have ne_t135_r139 : t135 ≠ r139 := Nat.ne_of_lt (Nat.lt_of_lt_of_le Vt135.lt R_r139)
        have K139 := K135.ext Eq139
        have O139 := O135.ext Eq139
        refine Go.of st139 ?_
        show Go p e s below _ _ _ _ T139 (mkF m 238 (LA14 p1 p2 p3 p4 lt t0 t1 sm lf f0 f1 ln c0 c1 lm m0 m1 r102 r103 r135) [(.ref r139)])
        refine Go.of (fun _ hr => XS.astore X139.here hx rfl (hb hby at_238) rfl rfl (l' := #[.val (.int p1), .val (.int p2), .val (.int p3), .val (.int p4), .val (.int lt), .val (.int t0), .val (.int t1), .val (.int sm), .val (.int lf), .val (.int f0), .val (.int f1), .val (.int ln), .val (.int c0), .val (.int c1), .val (.int lm), .val (.int m0), .val (.int m1), .val (.ref r102), .val (.ref r103), .val (.ref r135), .val (.ref r139), .unset, .unset, .unset, .unset, .unset]) rfl hr) ?_
        show Go p e s below _ _ _ _ T139 (mkF m 240 #[.val (.int p1), .val (.int p2), .val (.int p3), .val (.int p4), .val (.int lt), .val (.int t0), .val (.int t1), .val (.int sm), .val (.int lf), .val (.int f0), .val (.int f1), .val (.int ln), .val (.int c0), .val (.int c1), .val (.int lm), .val (.int m0), .val (.int m1), .val (.ref r102), .val (.ref r103), .val (.ref r135), .val (.ref r139), .unset, .unset, .unset, .unset, .unset] [])
        have f144 := (f140.ext Eq139)
        have f145 := (((Fv102.ext Eq103).ext Eq135).ext Eq139)
        have f146 := (((Fc102.ext Eq103).ext Eq135).ext Eq139)
        have f147 := (f141.ext Eq139)
        have f148 := (f142.ext Eq139)
        have f149 := ((Fv103.ext Eq135).ext Eq139)
        have f150 := ((Fc103.ext Eq135).ext Eq139)
        have f151 := (f143.ext Eq139)
        exact law_tail l Z a0 hw p1 p2 p3 p4 lt t0 t1 sm lf f0 f1 ln c0 c1 lm m0 m1 r102 r103 r135 r139 t102 t103 _ _ zc h139 n0 O139 nb hb0 (Nat.le_trans hnb K139.1) hr_lt hr_lf hq_t0 hq_t1 hq_f0 hq_f1 (Ne.symm ne_r102_r103) f144 f145 f146 f147 f148 f149 f150 f151 S_C hzc Cc139 X139 e139 (fun y hy => Nat.le_trans hnb (N139 y hy)) J139 B139
      · refine Go.of (fun _ hr => XS.ifNo X135.here hx rfl (hb hby at_212) rfl ((if0 _ _).trans (feq hb212_138).1) hr) ?_
        show Go p e s below _ _ _ _ T135 (mkF m 215 (LA14 p1 p2 p3 p4 lt t0 t1 sm lf f0 f1 ln c0 c1 lm m0 m1 r102 r103 r135) [])
        refine Go.of (fun _ hr => XS.iload X135.here hx rfl (hb hby at_215) rfl  hr) ?_
        show Go p e s below _ _ _ _ T135 (mkF m 217 (LA14 p1 p2 p3 p4 lt t0 t1 sm lf f0 f1 ln c0 c1 lm m0 m1 r102 r103 r135) [(.int lt)])
        refine Go.of (fun _ hr => XS.iload X135.here hx rfl (hb hby at_217) rfl  hr) ?_
        show Go p e s below _ _ _ _ T135 (mkF m 219 (LA14 p1 p2 p3 p4 lt t0 t1 sm lf f0 f1 ln c0 c1 lm m0 m1 r102 r103 r135) [(.int t0), (.int lt)])
        refine Go.of (fun _ hr => XS.iload X135.here hx rfl (hb hby at_219) rfl  hr) ?_
        show Go p e s below _ _ _ _ T135 (mkF m 221 (LA14 p1 p2 p3 p4 lt t0 t1 sm lf f0 f1 ln c0 c1 lm m0 m1 r102 r103 r135) [(.int t1), (.int t0), (.int lt)])
        obtain ⟨_, b152, T152, h152, L152, e152, Cc152, X152, B152, J152, g152, hQ152, st152⟩ := own_callS Cc135 B135 J135 X135 (hw _ (List.mem_of_getElem? (i := 0) rfl)) (hw _ (List.mem_of_getElem? (i := 1) rfl)) (hw _ (List.mem_of_getElem? (i := 2) rfl)) (hw _ (List.mem_of_getElem? (i := 3) rfl)) (by decide) (rm1 l Z a0 hw [] lt t0 t1 zc _ h135 n0 O135 h0.size (own_ole O0) K135.1 hq_t0 hq_t1 S_C hzc) e135 (g := (mkF m 221 (LA14 p1 p2 p3 p4 lt t0 t1 sm lf f0 f1 ln c0 c1 lm m0 m1 r102 r103 r135) [(.int t1), (.int t0), (.int lt)])) rfl (by rw [hml]; rfl) (argsL := [(.int lt), (.int t0), (.int t1)]) (rest := []) (lenOf pd12 rfl) rfl (W := 0) (by show 2 * 0 + _ ≤ _; exact Nat.le_of_eq rfl) (hb hby at_221) (by decide) (by decide) (by decide) (by decide)
        have f153 := (f136.ext Eq135)
        have f154 := (f137.ext Eq135)
        have f155 := (Er103.ext Eq135)
        have f156 := (Vt103.ext Eq135)
        obtain ⟨r152, t152, kt152, rfl, Nq152, Eq152, R_r152, nt152, Er152, Fv152, Fc152, Vt152⟩ := hQ152
        have N152 := Fr.app N135 Nq152
        obtain ⟨hx, hZ, hown, hby, hml, hnm, hret, hlk⟩ := id Cc152
        have sz_r152 : h0.size ≤ r152 := Nat.le_trans K135.1 R_r152
        have fr_r152 : h0.size ≤ r152 := sz_r152
        have ne_r102_r152 : r102 ≠ r152 := Nat.ne_of_lt (Nat.lt_of_lt_of_le f153.lt R_r152)
        have ne_t102_r152 : t102 ≠ r152 := Nat.ne_of_lt (Nat.lt_of_lt_of_le f154.lt R_r152)
        have ne_r103_r152 : r103 ≠ r152 := Nat.ne_of_lt (Nat.lt_of_lt_of_le f155.lt R_r152)
        have ne_t103_r152 : t103 ≠ r152 := Nat.ne_of_lt (Nat.lt_of_lt_of_le f156.lt R_r152)
        have ne_r135_r152 : r135 ≠ r152 := Nat.ne_of_lt (Nat.lt_of_lt_of_le Er135.lt R_r152)
        have ne_t135_r152 : t135 ≠ r152 := Nat.ne_of_lt (Nat.lt_of_lt_of_le Vt135.lt R_r152)
        have K152 := K135.ext Eq152
        have O152 := O135.ext Eq152
        refine Go.of st152 ?_
        show Go p e s below _ _ _ _ T152 (mkF m 224 (LA14 p1 p2 p3 p4 lt t0 t1 sm lf f0 f1 ln c0 c1 lm m0 m1 r102 r103 r135) [(.ref r152)])
        refine Go.of (fun _ hr => XS.astore X152.here hx rfl (hb hby at_224) rfl rfl (l' := #[.val (.int p1), .val (.int p2), .val (.int p3), .val (.int p4), .val (.int lt), .val (.int t0), .val (.int t1), .val (.int sm), .val (.int lf), .val (.int f0), .val (.int f1), .val (.int ln), .val (.int c0), .val (.int c1), .val (.int lm), .val (.int m0), .val (.int m1), .val (.ref r102), .val (.ref r103), .val (.ref r135), .val (.ref r152), .unset, .unset, .unset, .unset, .unset]) rfl hr) ?_
        show Go p e s below _ _ _ _ T152 (mkF m 226 #[.val (.int p1), .val (.int p2), .val (.int p3), .val (.int p4), .val (.int lt), .val (.int t0), .val (.int t1), .val (.int sm), .val (.int lf), .val (.int f0), .val (.int f1), .val (.int ln), .val (.int c0), .val (.int c1), .val (.int lm), .val (.int m0), .val (.int m1), .val (.ref r102), .val (.ref r103), .val (.ref r135), .val (.ref r152), .unset, .unset, .unset, .unset, .unset] [])
        refine Go.of (fun _ hr => XS.goto X152.here hx rfl (pc0 := 226) (pc' := 240) rfl (hb hby at_226) (by decide) (by decide) hr) ?_
        show Go p e s below _ _ _ _ T152 (mkF m 240 #[.val (.int p1), .val (.int p2), .val (.int p3), .val (.int p4), .val (.int lt), .val (.int t0), .val (.int t1), .val (.int sm), .val (.int lf), .val (.int f0), .val (.int f1), .val (.int ln), .val (.int c0), .val (.int c1), .val (.int lm), .val (.int m0), .val (.int m1), .val (.ref r102), .val (.ref r103), .val (.ref r135), .val (.ref r152), .unset, .unset, .unset, .unset, .unset] [])
        have f157 := (f153.ext Eq152)
        have f158 := (((Fv102.ext Eq103).ext Eq135).ext Eq152)
        have f159 := (((Fc102.ext Eq103).ext Eq135).ext Eq152)
        have f160 := (f154.ext Eq152)
        have f161 := (f155.ext Eq152)
        have f162 := ((Fv103.ext Eq135).ext Eq152)
        have f163 := ((Fc103.ext Eq135).ext Eq152)
        have f164 := (f156.ext Eq152)
        exact law_tail l Z a0 hw p1 p2 p3 p4 lt t0 t1 sm lf f0 f1 ln c0 c1 lm m0 m1 r102 r103 r135 r152 t102 t103 _ _ zc h152 n0 O152 nb hb0 (Nat.le_trans hnb K152.1) hr_lt hr_lf hq_t0 hq_t1 hq_f0 hq_f1 (Ne.symm ne_r102_r103) f157 f158 f159 f160 f161 f162 f163 f164 S_C hzc Cc152 X152 e152 (fun y hy => Nat.le_trans hnb (N152 y hy)) J152 B152
  intro jn101
  show Go p e s below _ _ _ _ s₁ (mkF m 31 (LA3 p1 p2 p3 p4 lt t0 t1) [(.int (((p4.toUInt32 >>> ((2 : Int32) &&& 31).toUInt32).toInt32) &&& (3 : Int32)))])
  by_cases hb31_165 : (((p4.toUInt32 >>> ((2 : Int32) &&& 31).toUInt32).toInt32) &&& (3 : Int32)) = (0 : Int32)
  · refine Go.of (fun _ hr => XS.ifNo X0.here hx rfl (hb hby at_31) rfl ((if0 _ _).trans (teq hb31_165).2) hr) ?_
    show Go p e s below _ _ _ _ s₁ (mkF m 34 (LA3 p1 p2 p3 p4 lt t0 t1) [])
    refine Go.of (fun _ hr => XS.iconst X0.here hx rfl (hb hby at_34) hr) ?_
    show Go p e s below _ _ _ _ s₁ (mkF m 35 (LA3 p1 p2 p3 p4 lt t0 t1) [(.int (1 : Int32))])
    refine Go.of (fun _ hr => XS.goto X0.here hx rfl (pc0 := 35) (pc' := 39) rfl (hb hby at_35) (by decide) (by decide) hr) ?_
    show Go p e s below _ _ _ _ s₁ (mkF m 39 (LA3 p1 p2 p3 p4 lt t0 t1) [(.int (1 : Int32))])
    refine Go.of (fun _ hr => XS.istore X0.here hx rfl (hb hby at_39) rfl (l' := (LA15 p1 p2 p3 p4 lt t0 t1)) rfl hr) ?_
    show Go p e s below _ _ _ _ s₁ (mkF m 41 (LA15 p1 p2 p3 p4 lt t0 t1) [])
    refine Go.of (fun _ hr => XS.iload X0.here hx rfl (hb hby at_41) rfl  hr) ?_
    show Go p e s below _ _ _ _ s₁ (mkF m 43 (LA15 p1 p2 p3 p4 lt t0 t1) [(.int (1 : Int32))])
    refine Go.of (fun _ hr => XS.ifNo X0.here hx rfl (hb hby at_43) rfl ((if0 _ _).trans (feq (by decide : ¬ ((1 : Int32) = (0 : Int32)))).1) hr) ?_
    show Go p e s below _ _ _ _ s₁ (mkF m 46 (LA15 p1 p2 p3 p4 lt t0 t1) [])
    refine Go.of (fun _ hr => XS.iload X0.here hx rfl (hb hby at_46) rfl  hr) ?_
    show Go p e s below _ _ _ _ s₁ (mkF m 48 (LA15 p1 p2 p3 p4 lt t0 t1) [(.int lt)])
    refine Go.of (fun _ hr => XS.istore X0.here hx rfl (hb hby at_48) rfl (l' := #[.val (.int p1), .val (.int p2), .val (.int p3), .val (.int p4), .val (.int lt), .val (.int t0), .val (.int t1), .val (.int (1 : Int32)), .val (.int lt), .unset, .unset, .unset, .unset, .unset, .unset, .unset, .unset, .unset, .unset, .unset, .unset, .unset, .unset, .unset, .unset, .unset]) rfl hr) ?_
    show Go p e s below _ _ _ _ s₁ (mkF m 50 #[.val (.int p1), .val (.int p2), .val (.int p3), .val (.int p4), .val (.int lt), .val (.int t0), .val (.int t1), .val (.int (1 : Int32)), .val (.int lt), .unset, .unset, .unset, .unset, .unset, .unset, .unset, .unset, .unset, .unset, .unset, .unset, .unset, .unset, .unset, .unset, .unset] [])
    refine Go.of (fun _ hr => XS.iload X0.here hx rfl (hb hby at_50) rfl  hr) ?_
    show Go p e s below _ _ _ _ s₁ (mkF m 52 #[.val (.int p1), .val (.int p2), .val (.int p3), .val (.int p4), .val (.int lt), .val (.int t0), .val (.int t1), .val (.int (1 : Int32)), .val (.int lt), .unset, .unset, .unset, .unset, .unset, .unset, .unset, .unset, .unset, .unset, .unset, .unset, .unset, .unset, .unset, .unset, .unset] [(.int t0)])
    refine Go.of (fun _ hr => XS.istore X0.here hx rfl (hb hby at_52) rfl (l' := #[.val (.int p1), .val (.int p2), .val (.int p3), .val (.int p4), .val (.int lt), .val (.int t0), .val (.int t1), .val (.int (1 : Int32)), .val (.int lt), .val (.int t0), .unset, .unset, .unset, .unset, .unset, .unset, .unset, .unset, .unset, .unset, .unset, .unset, .unset, .unset, .unset, .unset]) rfl hr) ?_
    show Go p e s below _ _ _ _ s₁ (mkF m 54 #[.val (.int p1), .val (.int p2), .val (.int p3), .val (.int p4), .val (.int lt), .val (.int t0), .val (.int t1), .val (.int (1 : Int32)), .val (.int lt), .val (.int t0), .unset, .unset, .unset, .unset, .unset, .unset, .unset, .unset, .unset, .unset, .unset, .unset, .unset, .unset, .unset, .unset] [])
    refine Go.of (fun _ hr => XS.iload X0.here hx rfl (hb hby at_54) rfl  hr) ?_
    show Go p e s below _ _ _ _ s₁ (mkF m 56 #[.val (.int p1), .val (.int p2), .val (.int p3), .val (.int p4), .val (.int lt), .val (.int t0), .val (.int t1), .val (.int (1 : Int32)), .val (.int lt), .val (.int t0), .unset, .unset, .unset, .unset, .unset, .unset, .unset, .unset, .unset, .unset, .unset, .unset, .unset, .unset, .unset, .unset] [(.int t1)])
    refine Go.of (fun _ hr => XS.istore X0.here hx rfl (hb hby at_56) rfl (l' := #[.val (.int p1), .val (.int p2), .val (.int p3), .val (.int p4), .val (.int lt), .val (.int t0), .val (.int t1), .val (.int (1 : Int32)), .val (.int lt), .val (.int t0), .val (.int t1), .unset, .unset, .unset, .unset, .unset, .unset, .unset, .unset, .unset, .unset, .unset, .unset, .unset, .unset, .unset]) rfl hr) ?_
    show Go p e s below _ _ _ _ s₁ (mkF m 58 #[.val (.int p1), .val (.int p2), .val (.int p3), .val (.int p4), .val (.int lt), .val (.int t0), .val (.int t1), .val (.int (1 : Int32)), .val (.int lt), .val (.int t0), .val (.int t1), .unset, .unset, .unset, .unset, .unset, .unset, .unset, .unset, .unset, .unset, .unset, .unset, .unset, .unset, .unset] [])
    refine Go.of (fun _ hr => XS.goto X0.here hx rfl (pc0 := 58) (pc' := 89) rfl (hb hby at_58) (by decide) (by decide) hr) ?_
    show Go p e s below _ _ _ _ s₁ (mkF m 89 #[.val (.int p1), .val (.int p2), .val (.int p3), .val (.int p4), .val (.int lt), .val (.int t0), .val (.int t1), .val (.int (1 : Int32)), .val (.int lt), .val (.int t0), .val (.int t1), .unset, .unset, .unset, .unset, .unset, .unset, .unset, .unset, .unset, .unset, .unset, .unset, .unset, .unset, .unset] [])
    exact jn101 ((1 : Int32), lt, t0, t1) ⟨hr_lt, hq_t0, hq_t1, rfl⟩
  · refine Go.of (fun _ hr => XS.ifYes X0.here hx rfl (pc0 := 31) (pc' := 38) rfl (hb hby at_31) rfl ((if0 _ _).trans (feq hb31_165).2) (by decide) (by decide) hr) ?_
    show Go p e s below _ _ _ _ s₁ (mkF m 38 (LA3 p1 p2 p3 p4 lt t0 t1) [])
    refine Go.of (fun _ hr => XS.iconst X0.here hx rfl (hb hby at_38) hr) ?_
    show Go p e s below _ _ _ _ s₁ (mkF m 39 (LA3 p1 p2 p3 p4 lt t0 t1) [(.int (0 : Int32))])
    refine Go.of (fun _ hr => XS.istore X0.here hx rfl (hb hby at_39) rfl (l' := (LA16 p1 p2 p3 p4 lt t0 t1)) rfl hr) ?_
    show Go p e s below _ _ _ _ s₁ (mkF m 41 (LA16 p1 p2 p3 p4 lt t0 t1) [])
    refine Go.of (fun _ hr => XS.iload X0.here hx rfl (hb hby at_41) rfl  hr) ?_
    show Go p e s below _ _ _ _ s₁ (mkF m 43 (LA16 p1 p2 p3 p4 lt t0 t1) [(.int (0 : Int32))])
    refine Go.of (fun _ hr => XS.ifYes X0.here hx rfl (pc0 := 43) (pc' := 61) rfl (hb hby at_43) rfl ((if0 _ _).trans (teq (by decide : ((0 : Int32) = (0 : Int32)))).1) (by decide) (by decide) hr) ?_
    show Go p e s below _ _ _ _ s₁ (mkF m 61 (LA16 p1 p2 p3 p4 lt t0 t1) [])
    refine Go.of (fun _ hr => XS.iloadN X0.here hx rfl (hb hby at_61) rfl  hr) ?_
    show Go p e s below _ _ _ _ s₁ (mkF m 62 (LA16 p1 p2 p3 p4 lt t0 t1) [(.int p4)])
    refine Go.of (fun _ hr => XS.iconst X0.here hx rfl (hb hby at_62) hr) ?_
    show Go p e s below _ _ _ _ s₁ (mkF m 63 (LA16 p1 p2 p3 p4 lt t0 t1) [(.int (4 : Int32)), (.int p4)])
    refine Go.of (fun _ hr => XS.iushr X0.here hx rfl (hb hby at_63) rfl hr) ?_
    show Go p e s below _ _ _ _ s₁ (mkF m 64 (LA16 p1 p2 p3 p4 lt t0 t1) [(.int ((p4.toUInt32 >>> ((4 : Int32) &&& 31).toUInt32).toInt32))])
    refine Go.of (fun _ hr => XS.iconst X0.here hx rfl (hb hby at_64) hr) ?_
    show Go p e s below _ _ _ _ s₁ (mkF m 65 (LA16 p1 p2 p3 p4 lt t0 t1) [(.int (3 : Int32)), (.int ((p4.toUInt32 >>> ((4 : Int32) &&& 31).toUInt32).toInt32))])
    refine Go.of (fun _ hr => XS.iand X0.here hx rfl (hb hby at_65) rfl hr) ?_
    show Go p e s below _ _ _ _ s₁ (mkF m 66 (LA16 p1 p2 p3 p4 lt t0 t1) [(.int (((p4.toUInt32 >>> ((4 : Int32) &&& 31).toUInt32).toInt32) &&& (3 : Int32)))])
    refine Go.of (fun _ hr => XS.iconst X0.here hx rfl (hb hby at_66) hr) ?_
    show Go p e s below _ _ _ _ s₁ (mkF m 67 (LA16 p1 p2 p3 p4 lt t0 t1) [(.int (3 : Int32)), (.int (((p4.toUInt32 >>> ((4 : Int32) &&& 31).toUInt32).toInt32) &&& (3 : Int32)))])
    refine Go.of (fun _ hr => iremM X0 hx rfl (hb hby at_67) rfl (by decide) hr) ?_
    show Go p e s below _ _ _ _ s₁ (mkF m 68 (LA16 p1 p2 p3 p4 lt t0 t1) [(.int ((((p4.toUInt32 >>> ((4 : Int32) &&& 31).toUInt32).toInt32) &&& (3 : Int32)) % (3 : Int32)))])
    refine Go.of (fun _ hr => XS.istore X0.here hx rfl (hb hby at_68) rfl (l' := (LA17 p1 p2 p3 p4 lt t0 t1)) rfl hr) ?_
    show Go p e s below _ _ _ _ s₁ (mkF m 70 (LA17 p1 p2 p3 p4 lt t0 t1) [])
    refine Go.of (fun _ hr => XS.iloadN X0.here hx rfl (hb hby at_70) rfl  hr) ?_
    show Go p e s below _ _ _ _ s₁ (mkF m 71 (LA17 p1 p2 p3 p4 lt t0 t1) [(.int p2)])
    refine Go.of (fun _ hr => XS.sipush X0.here hx rfl (hb hby at_71) hr) ?_
    show Go p e s below _ _ _ _ s₁ (mkF m 74 (LA17 p1 p2 p3 p4 lt t0 t1) [(.int (255 : Int32)), (.int p2)])
    refine Go.of (fun _ hr => XS.iand X0.here hx rfl (hb hby at_74) rfl hr) ?_
    show Go p e s below _ _ _ _ s₁ (mkF m 75 (LA17 p1 p2 p3 p4 lt t0 t1) [(.int (p2 &&& (255 : Int32)))])
    refine Go.of (fun _ hr => XS.i2c X0.here hx rfl (hb hby at_75) rfl hr) ?_
    show Go p e s below _ _ _ _ s₁ (mkF m 76 (LA17 p1 p2 p3 p4 lt t0 t1) [(.int ((p2 &&& (255 : Int32)).toUInt32.toUInt16.toUInt32.toInt32))])
    refine Go.of (fun _ hr => XS.istore X0.here hx rfl (hb hby at_76) rfl (l' := (LA18 p1 p2 p3 p4 lt t0 t1)) rfl hr) ?_
    show Go p e s below _ _ _ _ s₁ (mkF m 78 (LA18 p1 p2 p3 p4 lt t0 t1) [])
    refine Go.of (fun _ hr => XS.iloadN X0.here hx rfl (hb hby at_78) rfl  hr) ?_
    show Go p e s below _ _ _ _ s₁ (mkF m 79 (LA18 p1 p2 p3 p4 lt t0 t1) [(.int p2)])
    refine Go.of (fun _ hr => XS.bipush X0.here hx rfl (hb hby at_79) hr) ?_
    show Go p e s below _ _ _ _ s₁ (mkF m 81 (LA18 p1 p2 p3 p4 lt t0 t1) [(.int (8 : Int32)), (.int p2)])
    refine Go.of (fun _ hr => XS.iushr X0.here hx rfl (hb hby at_81) rfl hr) ?_
    show Go p e s below _ _ _ _ s₁ (mkF m 82 (LA18 p1 p2 p3 p4 lt t0 t1) [(.int ((p2.toUInt32 >>> ((8 : Int32) &&& 31).toUInt32).toInt32))])
    refine Go.of (fun _ hr => XS.sipush X0.here hx rfl (hb hby at_82) hr) ?_
    show Go p e s below _ _ _ _ s₁ (mkF m 85 (LA18 p1 p2 p3 p4 lt t0 t1) [(.int (255 : Int32)), (.int ((p2.toUInt32 >>> ((8 : Int32) &&& 31).toUInt32).toInt32))])
    refine Go.of (fun _ hr => XS.iand X0.here hx rfl (hb hby at_85) rfl hr) ?_
    show Go p e s below _ _ _ _ s₁ (mkF m 86 (LA18 p1 p2 p3 p4 lt t0 t1) [(.int (((p2.toUInt32 >>> ((8 : Int32) &&& 31).toUInt32).toInt32) &&& (255 : Int32)))])
    refine Go.of (fun _ hr => XS.i2c X0.here hx rfl (hb hby at_86) rfl hr) ?_
    show Go p e s below _ _ _ _ s₁ (mkF m 87 (LA18 p1 p2 p3 p4 lt t0 t1) [(.int ((((p2.toUInt32 >>> ((8 : Int32) &&& 31).toUInt32).toInt32) &&& (255 : Int32)).toUInt32.toUInt16.toUInt32.toInt32))])
    refine Go.of (fun _ hr => XS.istore X0.here hx rfl (hb hby at_87) rfl (l' := #[.val (.int p1), .val (.int p2), .val (.int p3), .val (.int p4), .val (.int lt), .val (.int t0), .val (.int t1), .val (.int (0 : Int32)), .val (.int ((((p4.toUInt32 >>> ((4 : Int32) &&& 31).toUInt32).toInt32) &&& (3 : Int32)) % (3 : Int32))), .val (.int ((p2 &&& (255 : Int32)).toUInt32.toUInt16.toUInt32.toInt32)), .val (.int ((((p2.toUInt32 >>> ((8 : Int32) &&& 31).toUInt32).toInt32) &&& (255 : Int32)).toUInt32.toUInt16.toUInt32.toInt32)), .unset, .unset, .unset, .unset, .unset, .unset, .unset, .unset, .unset, .unset, .unset, .unset, .unset, .unset, .unset]) rfl hr) ?_
    show Go p e s below _ _ _ _ s₁ (mkF m 89 #[.val (.int p1), .val (.int p2), .val (.int p3), .val (.int p4), .val (.int lt), .val (.int t0), .val (.int t1), .val (.int (0 : Int32)), .val (.int ((((p4.toUInt32 >>> ((4 : Int32) &&& 31).toUInt32).toInt32) &&& (3 : Int32)) % (3 : Int32))), .val (.int ((p2 &&& (255 : Int32)).toUInt32.toUInt16.toUInt32.toInt32)), .val (.int ((((p2.toUInt32 >>> ((8 : Int32) &&& 31).toUInt32).toInt32) &&& (255 : Int32)).toUInt32.toUInt16.toUInt32.toInt32)), .unset, .unset, .unset, .unset, .unset, .unset, .unset, .unset, .unset, .unset, .unset, .unset, .unset, .unset, .unset] [])
    exact jn101 ((0 : Int32), ((((p4.toUInt32 >>> ((4 : Int32) &&& 31).toUInt32).toInt32) &&& (3 : Int32)) % (3 : Int32)), ((p2 &&& (255 : Int32)).toUInt32.toUInt16.toUInt32.toInt32), ((((p2.toUInt32 >>> ((8 : Int32) &&& 31).toUInt32).toInt32) &&& (255 : Int32)).toUInt32.toUInt16.toUInt32.toInt32)) ⟨rem3 ((p4.toUInt32 >>> ((4 : Int32) &&& 31).toUInt32).toInt32), chr8 p2, chr8 ((p2.toUInt32 >>> ((8 : Int32) &&& 31).toUInt32).toInt32), rfl⟩

set_option maxRecDepth 65536 in
set_option maxHeartbeats 40000000 in
theorem comes_1 {Post : Tables → Env → Array Value → State → Outcome → State → Prop} (hpost : ∀ tb e args s v u, (limb_1_1.after args s (.returned v) u = true ∧ limb_1_2.after args s (.returned v) u = true ∧ True) → ReturnedEndW s (.returned v) u (Jvm.fieldLocs frame_1_writes args s ++ Jvm.arrayLocs frame_1_arrays args s ++ Jvm.staticLocs frame_1_statics s) 40 1216 → Post tb e args s (.returned v) u) :
    ArmFor flags0 classFile x code maxLocals ret World_1 tables_1 room_1 Calls_1 rest_1 Pre_1 Post := by
  intro l hfl _ _ p e ha hc hk s m args below hf hA hF happ hP
  obtain ⟨hcalls, hrest, hpre⟩ := hP
  obtain ⟨-, -, -, hnamed, -, -, -, hat⟩ := (Spec.applies_iff hf).mp happ
  obtain ⟨hg, hn⟩ := and_e (Cond.before_iff.mp (show (Jvm.Cond.and given_1 narrow_1).before args s = true from hpre))
  have hw := fun d (hd : d ∈ tables_1) => atoms_spec (ws := Jvm.Cond.code x code maxLocals ret :: tables_1) hat d (List.mem_cons_of_mem _ hd)
  obtain ⟨hsets, hown0⟩ := atoms_of _ (rest_1_c_eq ▸ (show rest_1_c.before _ s = true from hrest))
  have hfit : Fit s := fun {y c} hc i hi => by
    obtain ⟨ha, rfl⟩ := Array.getElem?_eq_some_iff.mp hc
    have q := List.all_eq_true.mp ((Array.all_eq_true_iff_forall_mem.mp hF) _ (Array.getElem_mem ha)) i (List.mem_range.mpr hi)
    simpa [Array.getElem?_eq_getElem hi] using q
  obtain ⟨hg0, hg⟩ := and_e hg
  obtain ⟨hg1, hg⟩ := and_e hg
  obtain ⟨hg2, hg⟩ := and_e hg
  obtain ⟨hg3, hg⟩ := and_e hg
  obtain ⟨w0, w1, w2, w3, rfl⟩ : ∃ w0 w1 w2 w3 : Value, args = #[w0, w1, w2, w3] := by
    have hs : args.size = 4 := by simpa [Cond.value] using hg0
    obtain ⟨L⟩ := args
    match L, hs with
    | [w0, w1, w2, w3], _ => exact ⟨w0, w1, w2, w3, rfl⟩
  obtain ⟨i0, ev0⟩ := is_v hg1
  obtain rfl : w0 = (.int i0) := Option.some.inj ev0
  obtain ⟨i1, ev1⟩ := is_v hg2
  obtain rfl : w1 = (.int i1) := Option.some.inj ev1
  obtain ⟨i2, ev2⟩ := is_v hg3
  obtain rfl : w2 = (.int i2) := Option.some.inj ev2
  obtain ⟨i3, ev3⟩ := is_v hg
  obtain rfl : w3 = (.int i3) := Option.some.inj ev3
  obtain ⟨zc, evC⟩ := is_v (Cond.before_iff.mp (hsets _ (List.mem_of_getElem? (i := 1) rfl)))
  have S_C : Sta s s.heap "java/lang/String" "COMPACT_STRINGS" "Z" (.int zc) := Sta.start evC (Or.inl (hsets _ (List.mem_of_getElem? (i := 0) rfl)))
  have hzc : ¬ (zc = (0 : Int32)) := gotF (Cond.eq_ints evC (Term.int_eval (0))) (not_v (Cond.before_iff.mp (hsets _ (List.mem_of_getElem? (i := 2) rfl))))
  have hcm : ∀ q ∈ litCs, (q.1, q.2.1) ∈ consts_1 := by decide +kernel
  have hJ : Hd s [] s.vm s.heap := Hd.start ⟨fun q hq => hcalls.1 _ (hcm q hq), fun a0 => own_compact (hsets _ (List.mem_of_getElem? (i := 2) rfl))⟩
  obtain ⟨n, o, h1, h2, h3, _, L, rfl, ⟨rfl, N⟩, -, hq⟩ := rm0 l s _ hw tables_1 i0 i1 i2 i3 zc [] s.heap s.heap.size (Old.start s) s.heap.size (Nat.le_refl _) (Nat.le_refl _) S_C hzc p e ha hc hk s m _ below hf ((Spec.applies_iff_loose hf).mp happ).1 ⟨rfl, State.Warmed39.refl s, rfl, hJ⟩ trivial
  refine ⟨n, _, h1, h2, h3, hpost _ _ _ _ _ _ ⟨Cond.after_iff.mpr rfl, Cond.after_iff.mpr (eq_i res_at (Term.int_eval (1)) rfl), trivial⟩ ⟨hq.1, hq.2.1, hq.2.2.1, (hq.2.2.2.sift fun y hy => Or.inr (N y hy)).mono (by decide) (by decide)⟩⟩
theorem main_1_1 : Claimed_1_1 := comes_1 fun _ _ _ _ _ _ h hF => ⟨h.1, hF⟩
theorem main_1_2 : Claimed_1_2 := comes_1 fun _ _ _ _ _ _ h hF => ⟨h.2.1, hF⟩

end Jvm.Pilot.@@N@@
namespace Jvm.Pilot.@@N@@
open Jvm Jvm.ClassFile Sem Op Lib Jvm.Free Jvm.Stand Jvm.Pilot.@@N@@.Jvm.D
/-! MADE BY PROGRAM (witnessworld.py) out of the Statement's table words and the real class files: 20 classes; the members and pool entries that the words name. The judged class is class 1, her method 1. -/
namespace start1
open Jvm.ClassFile
def u (s : String) : CpInfo := .utf8 (stringToUtf16 s)
/-- a pool by its gaps: so many unusable entries, then the entry; so many at the end -/
def gap : Nat → List CpInfo → List CpInfo
  | 0, r => r
  | n + 1, r => .unusable :: gap n r
def poolList (es : List (Nat × CpInfo)) (last : Nat) : List CpInfo := es.foldr (fun e r => gap e.1 (e.2 :: r)) (gap last [])
def pool (es : List (Nat × CpInfo)) (last : Nat) : Array CpInfo := ⟨poolList es last⟩
def fileOf (pool : Array CpInfo) (this : Nat) (attrs : Array Attribute := #[]) (ms : Array MethodInfo := #[]) (fl : Nat := 33) (sup : Nat := 0) (ifs : Array Nat := #[]) (fds : Array FieldInfo := #[]) : ClassFile where
  minorVersion := 0
  majorVersion := 65
  constantPool := pool
  accessFlags := fl
  thisClass := this
  superClass := sup
  interfaces := ifs
  fields := fds
  methods := ms
  attributes := attrs
def plain (name : String) (sup : Option ClassId) : Class where
  name := name
  kind := .ordinary
  loader := none
  accessFlags := 33
  super := sup
  interfaces := #[]
  cf := none
  fields := #[]
  methods := #[]
  instanceTypes := #[]
  staticTypes := #[]
  resolved := #[]
  callSites := []
  init := .initialized
  statics := none
  mirror := none

def pool0 : Array CpInfo := pool [(5, u "<init>"), (0, u "()V"), (1, .class_ 10), (1, u "java/lang/Object")] 113

def k0c0 : Code := { maxStack := 0, maxLocals := 1, code := object_method_1_code, exceptionTable := #[], attributes := #[] }
def k0m0 : Method := { name := "<init>", desc := "()V", sig := { parameters := [], returnType := none }, accessFlags := 1, code := some k0c0 }
/-- java/lang/Object -/
def k0 : Class := { plain "java/lang/Object" none with
  accessFlags := 33
  interfaces := #[]
  cf := some (fileOf pool0 8 #[] #[{ accessFlags := 1, nameIndex := 5, descriptorIndex := 6, attributes := #[] }] 33 0 #[] #[])
  fields := #[]
  methods := #[k0m0]
  instanceTypes := #[]
  staticTypes := #[]
  resolved := Array.replicate 124 none
  statics := none }

def pool1 : Array CpInfo := pool [(2, .class_ 4), (1, u "java/lang/Object"), (0, u "<init>"), (0, u "()V"), (0, .methodref 8 9), (0, .class_ 10), (0, .nameAndType 11 12), (0, u "com/example/mthd/mthd/rules/MessageFieldTypedAsPinLaw"), (0, u "mk"), (0, u "(ICC)Ljava/lang/String;"), (0, .class_ 14), (0, u "com/example/mthd/mthd/rules/MessageField"), (0, .methodref 13 16), (0, .nameAndType 5 17), (0, u "(Ljava/lang/String;Ljava/lang/String;)V"), (0, .class_ 19), (0, u "com/example/mthd/mthd/model/ApiMessage$Field"), (0, .methodref 18 21), (0, .nameAndType 5 22), (0, u "(Ljava/lang/String;Ljava/lang/String;ZZLjava/util/Optional;Ljava/util/Optional;)V"), (0, .methodref 13 24), (0, .nameAndType 25 26), (0, u "typedAs"), (0, u "(Lcom/example/mthd/mthd/model/ApiMessage$Field;)Z"), (0, .class_ 28), (0, u "java/lang/String"), (0, .methodref 27 30), (0, .nameAndType 5 31), (0, u "([C)V"), (2, u "law"), (0, u "(IIII)Z")] 7

def k1m0 : Method := { name := "<init>", desc := "()V", sig := { parameters := [], returnType := none }, accessFlags := 1, code := none }
def k1c1 : Code := { maxStack := 8, maxLocals := 26, code := code, exceptionTable := #[], attributes := #[] }
def k1m1 : Method := { name := "law", desc := "(IIII)Z", sig := { parameters := [.int, .int, .int, .int], returnType := some .boolean }, accessFlags := 9, code := some k1c1 }
def k1c2 : Code := { maxStack := 6, maxLocals := 3, code := method_3_code, exceptionTable := #[], attributes := #[] }
def k1m2 : Method := { name := "mk", desc := "(ICC)Ljava/lang/String;", sig := { parameters := [.int, .char, .char], returnType := some (.object "java/lang/String") }, accessFlags := 10, code := some k1c2 }
/-- com/example/mthd/mthd/rules/MessageFieldTypedAsPinLaw -/
def k1 : Class := { plain "com/example/mthd/mthd/rules/MessageFieldTypedAsPinLaw" (some 0) with
  accessFlags := 49
  interfaces := #[]
  cf := some (fileOf pool1 8 #[] #[{ accessFlags := 1, nameIndex := 5, descriptorIndex := 6, attributes := #[] }, { accessFlags := 9, nameIndex := 34, descriptorIndex := 35, attributes := #[] }, { accessFlags := 10, nameIndex := 11, descriptorIndex := 12, attributes := #[] }] 49 2 #[] #[])
  fields := #[]
  methods := #[k1m0, k1m1, k1m2]
  instanceTypes := #[]
  staticTypes := #[]
  resolved := Array.replicate 43 none
  statics := none }

def pool2 : Array CpInfo := pool [(1, .class_ 2), (0, u "java/io/Serializable"), (0, .class_ 4), (0, u "java/lang/Object")] 2

/-- java/io/Serializable -/
def k2 : Class := { plain "java/io/Serializable" (some 0) with
  accessFlags := 1537
  interfaces := #[]
  cf := some (fileOf pool2 1 #[] #[] 1537 3 #[] #[])
  fields := #[]
  methods := #[]
  instanceTypes := #[]
  staticTypes := #[]
  resolved := Array.replicate 7 none
  statics := none }

def pool3 : Array CpInfo := pool [(1, .class_ 2), (0, u "java/lang/Comparable"), (0, .class_ 4), (0, u "java/lang/Object")] 7

/-- java/lang/Comparable -/
def k3 : Class := { plain "java/lang/Comparable" (some 0) with
  accessFlags := 1537
  interfaces := #[]
  cf := some (fileOf pool3 1 #[] #[] 1537 3 #[] #[])
  fields := #[]
  methods := #[]
  instanceTypes := #[]
  staticTypes := #[]
  resolved := Array.replicate 12 none
  statics := none }

def pool4 : Array CpInfo := pool [(2, .class_ 4), (1, u "java/lang/CharSequence"), (42, .class_ 48), (0, u "java/lang/CharSequence$1CodePointIterator"), (10, .class_ 60), (0, u "java/lang/CharSequence$1CharIterator"), (5, .class_ 67), (0, u "java/lang/Object")] 63

/-- java/lang/CharSequence -/
def k4 : Class := { plain "java/lang/CharSequence" (some 0) with
  accessFlags := 1537
  interfaces := #[]
  cf := some (fileOf pool4 2 #[.nestMembers #[47, 59]] #[] 1537 66 #[] #[])
  fields := #[]
  methods := #[]
  instanceTypes := #[]
  staticTypes := #[]
  resolved := Array.replicate 131 none
  statics := none }

def pool5 : Array CpInfo := pool [(1, .class_ 2), (0, u "java/lang/constant/Constable"), (0, .class_ 4), (0, u "java/lang/Object")] 6

/-- java/lang/constant/Constable -/
def k5 : Class := { plain "java/lang/constant/Constable" (some 0) with
  accessFlags := 1537
  interfaces := #[]
  cf := some (fileOf pool5 1 #[] #[] 1537 3 #[] #[])
  fields := #[]
  methods := #[]
  instanceTypes := #[]
  staticTypes := #[]
  resolved := Array.replicate 11 none
  statics := none }

def pool6 : Array CpInfo := pool [(1, .class_ 2), (0, u "java/lang/constant/ConstantDesc"), (0, .class_ 4), (0, u "java/lang/Object")] 32

/-- java/lang/constant/ConstantDesc -/
def k6 : Class := { plain "java/lang/constant/ConstantDesc" (some 0) with
  accessFlags := 1537
  interfaces := #[]
  cf := some (fileOf pool6 1 #[] #[] 1537 3 #[] #[])
  fields := #[]
  methods := #[]
  instanceTypes := #[]
  staticTypes := #[]
  resolved := Array.replicate 37 none
  statics := none }

def pool7 : Array CpInfo := pool [(1, .methodref 2 3), (0, .class_ 4), (0, .nameAndType 5 6), (0, u "java/lang/Object"), (0, u "<init>"), (0, u "()V"), (0, .string 8), (0, u ""), (0, .fieldref 10 11), (0, .class_ 12), (0, .nameAndType 13 14), (0, u "java/lang/String"), (0, u "value"), (0, u "[B"), (0, .fieldref 10 16), (0, .nameAndType 17 18), (0, u "coder"), (0, u "B"), (2, u "hash"), (0, u "I"), (2, u "hashIsZero"), (0, u "Z"), (0, .methodref 10 28), (0, .nameAndType 5 29), (0, u "([CIILjava/lang/Void;)V"), (8, .fieldref 10 39), (0, .nameAndType 40 26), (0, u "COMPACT_STRINGS"), (1, .class_ 44), (1, u "java/lang/StringUTF16"), (0, u "compress"), (1, .methodref 42 48), (0, .nameAndType 49 50), (0, u "coderFromArrayLen"), (0, u "([BI)B"), (56, .class_ 109), (1, u "java/lang/StringLatin1"), (67, .methodref 42 178), (0, .nameAndType 45 179), (0, u "([CII)[B"), (361, .methodref 107 542), (0, .nameAndType 543 544), (0, u "equals"), (0, u "([B[B)Z"), (28, u "(Ljava/lang/Object;)Z"), (1, .class_ 576), (0, u "java/lang/CharSequence"), (22, u "CASE_INSENSITIVE_ORDER"), (0, u "Ljava/util/Comparator;"), (409, u "([C)V"), (90, u "serialPersistentFields"), (0, u "[Ljava/io/ObjectStreamField;"), (0, .class_ 1104), (0, u "java/lang/String$CaseInsensitiveComparator"), (1, .class_ 1107), (0, u "java/io/Serializable"), (0, .class_ 1109), (0, u "java/lang/Comparable"), (0, .class_ 1111), (0, u "java/lang/constant/Constable"), (0, .class_ 1113), (0, u "java/lang/constant/ConstantDesc"), (2, u "serialVersionUID"), (0, u "J"), (3, u "REPL"), (0, u "C"), (2, u "LATIN1"), (1, u "UTF16")] 323

def k7m0 : Method := { name := "<init>", desc := "()V", sig := { parameters := [], returnType := none }, accessFlags := 1, code := none }
def k7c1 : Code := { maxStack := 5, maxLocals := 2, code := jdk_42_method_3_code, exceptionTable := #[], attributes := #[] }
def k7m1 : Method := { name := "<init>", desc := "([C)V", sig := { parameters := [(.array .char)], returnType := none }, accessFlags := 1, code := some k7c1 }
def k7c2 : Code := { maxStack := 2, maxLocals := 3, code := jdk_42_method_66_code, exceptionTable := #[], attributes := #[] }
def k7m2 : Method := { name := "equals", desc := "(Ljava/lang/Object;)Z", sig := { parameters := [(.object "java/lang/Object")], returnType := some .boolean }, accessFlags := 1, code := some k7c2 }
def k7c3 : Code := { maxStack := 4, maxLocals := 6, code := jdk_42_method_149_code, exceptionTable := #[], attributes := #[] }
def k7m3 : Method := { name := "<init>", desc := "([CIILjava/lang/Void;)V", sig := { parameters := [(.array .char), .int, .int, (.object "java/lang/Void")], returnType := none }, accessFlags := 2, code := some k7c3 }
/-- java/lang/String -/
def k7 : Class := { plain "java/lang/String" (some 0) with
  accessFlags := 49
  interfaces := #[2, 3, 4, 5, 6]
  cf := some (fileOf pool7 10 #[.nestMembers #[1103]] #[{ accessFlags := 1, nameIndex := 5, descriptorIndex := 6, attributes := #[] }, { accessFlags := 1, nameIndex := 5, descriptorIndex := 1010, attributes := #[] }, { accessFlags := 1, nameIndex := 543, descriptorIndex := 573, attributes := #[] }, { accessFlags := 2, nameIndex := 5, descriptorIndex := 29, attributes := #[] }] 49 2 #[1106, 1108, 575, 1110, 1112] #[{ accessFlags := 18, nameIndex := 13, descriptorIndex := 14, attributes := #[] }, { accessFlags := 18, nameIndex := 17, descriptorIndex := 18, attributes := #[] }, { accessFlags := 2, nameIndex := 21, descriptorIndex := 22, attributes := #[] }, { accessFlags := 2, nameIndex := 25, descriptorIndex := 26, attributes := #[] }, { accessFlags := 26, nameIndex := 1116, descriptorIndex := 1117, attributes := #[] }, { accessFlags := 24, nameIndex := 40, descriptorIndex := 26, attributes := #[] }, { accessFlags := 26, nameIndex := 1101, descriptorIndex := 1102, attributes := #[] }, { accessFlags := 26, nameIndex := 1121, descriptorIndex := 1122, attributes := #[] }, { accessFlags := 25, nameIndex := 599, descriptorIndex := 600, attributes := #[] }, { accessFlags := 24, nameIndex := 1125, descriptorIndex := 18, attributes := #[] }, { accessFlags := 24, nameIndex := 1127, descriptorIndex := 18, attributes := #[] }])
  fields := #[{ name := "value", type := (.array .byte), accessFlags := 18, slot := 0, constantValue := 0 }, { name := "coder", type := .byte, accessFlags := 18, slot := 1, constantValue := 0 }, { name := "hash", type := .int, accessFlags := 2, slot := 2, constantValue := 0 }, { name := "hashIsZero", type := .boolean, accessFlags := 2, slot := 3, constantValue := 0 }, { name := "serialVersionUID", type := .long, accessFlags := 26, slot := 0, constantValue := 0 }, { name := "COMPACT_STRINGS", type := .boolean, accessFlags := 24, slot := 1, constantValue := 0 }, { name := "serialPersistentFields", type := (.array (.object "java/io/ObjectStreamField")), accessFlags := 26, slot := 2, constantValue := 0 }, { name := "REPL", type := .char, accessFlags := 26, slot := 3, constantValue := 0 }, { name := "CASE_INSENSITIVE_ORDER", type := (.object "java/util/Comparator"), accessFlags := 25, slot := 4, constantValue := 0 }, { name := "LATIN1", type := .byte, accessFlags := 24, slot := 5, constantValue := 0 }, { name := "UTF16", type := .byte, accessFlags := 24, slot := 6, constantValue := 0 }]
  methods := #[k7m0, k7m1, k7m2, k7m3]
  instanceTypes := #[(.array .byte), .byte, .int, .boolean]
  staticTypes := #[.long, .boolean, (.array (.object "java/io/ObjectStreamField")), .char, (.object "java/util/Comparator"), .byte, .byte]
  resolved := Array.replicate 1451 none
  statics := some 0 }

def pool8 : Array CpInfo := pool [(6, .class_ 8), (1, u "java/lang/Object"), (0, u "<init>"), (0, u "()V"), (1, .class_ 14), (1, u "java/lang/StringUTF16"), (31, u "$assertionsDisabled"), (0, u "Z"), (13, u "HI_BYTE_SHIFT"), (0, u "I"), (2, u "LO_BYTE_SHIFT"), (49, .methodref 12 116), (0, .nameAndType 117 118), (0, u "compress"), (0, u "([CI[BII)I"), (3, u "([CII)[B"), (138, u "coderFromArrayLen"), (0, u "([BI)B"), (106, .class_ 371), (1, u "java/lang/StringUTF16$LinesSpliterator"), (58, u "MAX_LENGTH"), (196, .class_ 628), (0, u "java/lang/StringUTF16$CodePointsSpliterator"), (0, .class_ 630), (0, u "java/lang/StringUTF16$CharsSpliterator")] 4

def k8m0 : Method := { name := "<init>", desc := "()V", sig := { parameters := [], returnType := none }, accessFlags := 0, code := none }
def k8c1 : Code := { maxStack := 2, maxLocals := 2, code := jdk_52_method_15_code, exceptionTable := #[], attributes := #[] }
def k8m1 : Method := { name := "coderFromArrayLen", desc := "([BI)B", sig := { parameters := [(.array .byte), .int], returnType := some .byte }, accessFlags := 8, code := some k8c1 }
def k8c2 : Code := { maxStack := 5, maxLocals := 6, code := jdk_52_method_16_code, exceptionTable := #[], attributes := #[] }
def k8m2 : Method := { name := "compress", desc := "([CII)[B", sig := { parameters := [(.array .char), .int, .int], returnType := some (.array .byte) }, accessFlags := 9, code := some k8c2 }
def k8c3 : Code := { maxStack := 3, maxLocals := 7, code := jdk_52_method_21_code, exceptionTable := #[], attributes := #[] }
def k8m3 : Method := { name := "compress", desc := "([CI[BII)I", sig := { parameters := [(.array .char), .int, (.array .byte), .int, .int], returnType := some .int }, accessFlags := 9, code := some k8c3 }
/-- java/lang/StringUTF16 -/
def k8 : Class := { plain "java/lang/StringUTF16" (some 0) with
  accessFlags := 48
  interfaces := #[]
  cf := some (fileOf pool8 12 #[.nestMembers #[627, 629, 369]] #[{ accessFlags := 0, nameIndex := 9, descriptorIndex := 10, attributes := #[] }, { accessFlags := 8, nameIndex := 261, descriptorIndex := 262, attributes := #[] }, { accessFlags := 9, nameIndex := 117, descriptorIndex := 122, attributes := #[] }, { accessFlags := 9, nameIndex := 117, descriptorIndex := 118, attributes := #[] }] 48 6 #[] #[{ accessFlags := 26, nameIndex := 61, descriptorIndex := 62, attributes := #[] }, { accessFlags := 26, nameIndex := 65, descriptorIndex := 62, attributes := #[] }, { accessFlags := 24, nameIndex := 430, descriptorIndex := 62, attributes := #[] }, { accessFlags := 4120, nameIndex := 46, descriptorIndex := 47, attributes := #[] }])
  fields := #[{ name := "HI_BYTE_SHIFT", type := .int, accessFlags := 26, slot := 0, constantValue := 0 }, { name := "LO_BYTE_SHIFT", type := .int, accessFlags := 26, slot := 1, constantValue := 0 }, { name := "MAX_LENGTH", type := .int, accessFlags := 24, slot := 2, constantValue := 0 }, { name := "$assertionsDisabled", type := .boolean, accessFlags := 4120, slot := 3, constantValue := 0 }]
  methods := #[k8m0, k8m1, k8m2, k8m3]
  instanceTypes := #[]
  staticTypes := #[.int, .int, .int, .boolean]
  resolved := Array.replicate 635 none
  statics := none }

def pool9 : Array CpInfo := pool [(1, .methodref 2 3), (0, .class_ 4), (0, .nameAndType 5 6), (0, u "java/lang/Object"), (0, u "<init>"), (0, u "()V"), (0, .class_ 8), (0, u "java/lang/Record")] 13

def k9c0 : Code := { maxStack := 1, maxLocals := 1, code := jdk_30_method_1_code, exceptionTable := #[], attributes := #[] }
def k9m0 : Method := { name := "<init>", desc := "()V", sig := { parameters := [], returnType := none }, accessFlags := 4, code := some k9c0 }
/-- java/lang/Record -/
def k9 : Class := { plain "java/lang/Record" (some 0) with
  accessFlags := 1057
  interfaces := #[]
  cf := some (fileOf pool9 7 #[] #[{ accessFlags := 4, nameIndex := 5, descriptorIndex := 6, attributes := #[] }] 1057 2 #[] #[])
  fields := #[]
  methods := #[k9m0]
  instanceTypes := #[]
  staticTypes := #[]
  resolved := Array.replicate 22 none
  statics := none }

def pool10 : Array CpInfo := pool [(1, .methodref 2 3), (0, .class_ 4), (0, .nameAndType 5 6), (0, u "java/lang/Record"), (0, u "<init>"), (0, u "()V"), (0, .fieldref 8 9), (0, .class_ 10), (0, .nameAndType 11 12), (0, u "com/example/mthd/mthd/rules/MessageField"), (0, u "name"), (0, u "Ljava/lang/String;"), (0, .fieldref 8 14), (0, .nameAndType 15 12), (0, u "type"), (29, .class_ 46), (0, u "com/example/mthd/mthd/model/ApiMessage$Field"), (2, u "typedAs"), (0, u "(Lcom/example/mthd/mthd/model/ApiMessage$Field;)Z"), (8, .methodref 45 60), (0, .nameAndType 15 61), (0, u "()Ljava/lang/String;"), (0, .methodref 63 64), (0, .class_ 65), (0, .nameAndType 66 67), (0, u "java/lang/String"), (0, u "equals"), (0, u "(Ljava/lang/Object;)Z"), (27, u "(Ljava/lang/String;Ljava/lang/String;)V")] 42

def k10c0 : Code := { maxStack := 2, maxLocals := 3, code := prog_42_method_1_code, exceptionTable := #[], attributes := #[] }
def k10m0 : Method := { name := "<init>", desc := "(Ljava/lang/String;Ljava/lang/String;)V", sig := { parameters := [(.object "java/lang/String"), (.object "java/lang/String")], returnType := none }, accessFlags := 0, code := some k10c0 }
def k10c1 : Code := { maxStack := 2, maxLocals := 2, code := prog_42_method_3_code, exceptionTable := #[], attributes := #[] }
def k10m1 : Method := { name := "typedAs", desc := "(Lcom/example/mthd/mthd/model/ApiMessage$Field;)Z", sig := { parameters := [(.object "com/example/mthd/mthd/model/ApiMessage$Field")], returnType := some .boolean }, accessFlags := 0, code := some k10c1 }
/-- com/example/mthd/mthd/rules/MessageField -/
def k10 : Class := { plain "com/example/mthd/mthd/rules/MessageField" (some 9) with
  accessFlags := 48
  interfaces := #[]
  cf := some (fileOf pool10 8 #[] #[{ accessFlags := 0, nameIndex := 5, descriptorIndex := 95, attributes := #[] }, { accessFlags := 0, nameIndex := 49, descriptorIndex := 50, attributes := #[] }] 48 2 #[] #[{ accessFlags := 18, nameIndex := 11, descriptorIndex := 12, attributes := #[] }, { accessFlags := 18, nameIndex := 15, descriptorIndex := 12, attributes := #[] }])
  fields := #[{ name := "name", type := (.object "java/lang/String"), accessFlags := 18, slot := 0, constantValue := 0 }, { name := "type", type := (.object "java/lang/String"), accessFlags := 18, slot := 1, constantValue := 0 }]
  methods := #[k10m0, k10m1]
  instanceTypes := #[(.object "java/lang/String"), (.object "java/lang/String")]
  staticTypes := #[]
  resolved := Array.replicate 138 none
  statics := none }

def pool11 : Array CpInfo := pool [(1, .methodref 2 3), (0, .class_ 4), (0, .nameAndType 5 6), (0, u "java/lang/Record"), (0, u "<init>"), (0, u "()V"), (0, .fieldref 8 9), (0, .class_ 10), (0, .nameAndType 11 12), (0, u "com/example/mthd/mthd/model/ApiMessage$Field"), (0, u "name"), (0, u "Ljava/lang/String;"), (0, .fieldref 8 14), (0, .nameAndType 15 12), (0, u "type"), (0, .fieldref 8 17), (0, .nameAndType 18 19), (0, u "repeated"), (0, u "Z"), (0, .fieldref 8 21), (0, .nameAndType 22 19), (0, u "map"), (0, .fieldref 8 24), (0, .nameAndType 25 26), (0, u "message"), (0, u "Ljava/util/Optional;"), (0, .fieldref 8 28), (0, .nameAndType 29 26), (0, u "resource"), (24, u "(Ljava/lang/String;Ljava/lang/String;ZZLjava/util/Optional;Ljava/util/Optional;)V"), (9, u "()Ljava/lang/String;"), (7, .class_ 73), (0, u "com/example/mthd/mthd/model/ApiMessage")] 24

def k11c0 : Code := { maxStack := 2, maxLocals := 7, code := prog_19_method_1_code, exceptionTable := #[], attributes := #[] }
def k11m0 : Method := { name := "<init>", desc := "(Ljava/lang/String;Ljava/lang/String;ZZLjava/util/Optional;Ljava/util/Optional;)V", sig := { parameters := [(.object "java/lang/String"), (.object "java/lang/String"), .boolean, .boolean, (.object "java/util/Optional"), (.object "java/util/Optional")], returnType := none }, accessFlags := 1, code := some k11c0 }
def k11c1 : Code := { maxStack := 1, maxLocals := 1, code := prog_19_method_7_code, exceptionTable := #[], attributes := #[] }
def k11m1 : Method := { name := "type", desc := "()Ljava/lang/String;", sig := { parameters := [], returnType := some (.object "java/lang/String") }, accessFlags := 1, code := some k11c1 }
/-- com/example/mthd/mthd/model/ApiMessage$Field -/
def k11 : Class := { plain "com/example/mthd/mthd/model/ApiMessage$Field" (some 9) with
  accessFlags := 49
  interfaces := #[]
  cf := some (fileOf pool11 8 #[.nestHost 72] #[{ accessFlags := 1, nameIndex := 5, descriptorIndex := 54, attributes := #[] }, { accessFlags := 1, nameIndex := 15, descriptorIndex := 64, attributes := #[] }] 49 2 #[] #[{ accessFlags := 18, nameIndex := 11, descriptorIndex := 12, attributes := #[] }, { accessFlags := 18, nameIndex := 15, descriptorIndex := 12, attributes := #[] }, { accessFlags := 18, nameIndex := 18, descriptorIndex := 19, attributes := #[] }, { accessFlags := 18, nameIndex := 22, descriptorIndex := 19, attributes := #[] }, { accessFlags := 18, nameIndex := 25, descriptorIndex := 26, attributes := #[] }, { accessFlags := 18, nameIndex := 29, descriptorIndex := 26, attributes := #[] }])
  fields := #[{ name := "name", type := (.object "java/lang/String"), accessFlags := 18, slot := 0, constantValue := 0 }, { name := "type", type := (.object "java/lang/String"), accessFlags := 18, slot := 1, constantValue := 0 }, { name := "repeated", type := .boolean, accessFlags := 18, slot := 2, constantValue := 0 }, { name := "map", type := .boolean, accessFlags := 18, slot := 3, constantValue := 0 }, { name := "message", type := (.object "java/util/Optional"), accessFlags := 18, slot := 4, constantValue := 0 }, { name := "resource", type := (.object "java/util/Optional"), accessFlags := 18, slot := 5, constantValue := 0 }]
  methods := #[k11m0, k11m1]
  instanceTypes := #[(.object "java/lang/String"), (.object "java/lang/String"), .boolean, .boolean, (.object "java/util/Optional"), (.object "java/util/Optional")]
  staticTypes := #[]
  resolved := Array.replicate 98 none
  statics := none }

def pool12 : Array CpInfo := pool [(4, .class_ 6), (1, u "java/lang/Object"), (0, u "<init>"), (0, u "()V"), (5, .class_ 16), (1, u "java/lang/StringLatin1"), (104, u "$assertionsDisabled"), (0, u "Z"), (98, .class_ 223), (1, u "java/lang/StringLatin1$LinesSpliterator"), (57, u "equals"), (0, u "([B[B)Z"), (107, .class_ 391), (0, u "java/lang/StringLatin1$CharsSpliterator")] 3

def k12m0 : Method := { name := "<init>", desc := "()V", sig := { parameters := [], returnType := none }, accessFlags := 0, code := none }
def k12c1 : Code := { maxStack := 3, maxLocals := 3, code := jdk_43_method_13_code, exceptionTable := #[], attributes := #[] }
def k12m1 : Method := { name := "equals", desc := "([B[B)Z", sig := { parameters := [(.array .byte), (.array .byte)], returnType := some .boolean }, accessFlags := 9, code := some k12c1 }
/-- java/lang/StringLatin1 -/
def k12 : Class := { plain "java/lang/StringLatin1" (some 0) with
  accessFlags := 48
  interfaces := #[]
  cf := some (fileOf pool12 14 #[.nestMembers #[390, 221]] #[{ accessFlags := 0, nameIndex := 7, descriptorIndex := 8, attributes := #[] }, { accessFlags := 9, nameIndex := 281, descriptorIndex := 282, attributes := #[] }] 48 4 #[] #[{ accessFlags := 4120, nameIndex := 121, descriptorIndex := 122, attributes := #[] }])
  fields := #[{ name := "$assertionsDisabled", type := .boolean, accessFlags := 4120, slot := 0, constantValue := 0 }]
  methods := #[k12m0, k12m1]
  instanceTypes := #[]
  staticTypes := #[.boolean]
  resolved := Array.replicate 395 none
  statics := none }

def pool13 : Array CpInfo := pool [(2, .class_ 4), (1, u "java/lang/Object"), (0, u "<init>"), (0, u "()V"), (17, .class_ 26), (1, u "jdk/internal/util/Preconditions"), (28, .class_ 56), (0, u "jdk/internal/util/Preconditions$4"), (57, .class_ 115), (0, u "jdk/internal/util/Preconditions$1"), (7, u "SIOOBE_FORMATTER"), (0, u "Ljava/util/function/BiFunction;"), (0, .class_ 126), (0, u "jdk/internal/util/Preconditions$2"), (3, u "AIOOBE_FORMATTER"), (0, .class_ 132), (0, u "jdk/internal/util/Preconditions$3"), (3, u "IOOBE_FORMATTER")] 57

def k13m0 : Method := { name := "<init>", desc := "()V", sig := { parameters := [], returnType := none }, accessFlags := 1, code := none }
/-- jdk/internal/util/Preconditions -/
def k13 : Class := { plain "jdk/internal/util/Preconditions" (some 0) with
  accessFlags := 33
  interfaces := #[]
  cf := some (fileOf pool13 24 #[.nestMembers #[55, 131, 125, 114]] #[{ accessFlags := 1, nameIndex := 5, descriptorIndex := 6, attributes := #[] }] 33 2 #[] #[{ accessFlags := 25, nameIndex := 123, descriptorIndex := 124, attributes := #[] }, { accessFlags := 25, nameIndex := 130, descriptorIndex := 124, attributes := #[] }, { accessFlags := 25, nameIndex := 136, descriptorIndex := 124, attributes := #[] }])
  fields := #[{ name := "SIOOBE_FORMATTER", type := (.object "java/util/function/BiFunction"), accessFlags := 25, slot := 0, constantValue := 0 }, { name := "AIOOBE_FORMATTER", type := (.object "java/util/function/BiFunction"), accessFlags := 25, slot := 1, constantValue := 0 }, { name := "IOOBE_FORMATTER", type := (.object "java/util/function/BiFunction"), accessFlags := 25, slot := 2, constantValue := 0 }]
  methods := #[k13m0]
  instanceTypes := #[]
  staticTypes := #[(.object "java/util/function/BiFunction"), (.object "java/util/function/BiFunction"), (.object "java/util/function/BiFunction")]
  resolved := Array.replicate 194 none
  statics := some 1 }

def pool14 : Array CpInfo := pool [(9, u "<init>"), (6, .class_ 18), (1, u "java/lang/Object"), (0, u "()V"), (1, .class_ 23), (1, u "jdk/internal/util/ArraysSupport"), (0, u "LOG2_ARRAY_LONG_INDEX_SCALE"), (0, u "I"), (2, u "U"), (0, u "Ljdk/internal/misc/Unsafe;"), (8, u "BIG_ENDIAN"), (0, u "Z"), (8, u "LOG2_BYTE_BIT_SIZE"), (4, u "LOG2_ARRAY_INT_INDEX_SCALE"), (54, u "JLA"), (0, u "Ljdk/internal/access/JavaLangAccess;"), (11, u "LOG2_ARRAY_BOOLEAN_INDEX_SCALE"), (9, u "LOG2_ARRAY_BYTE_INDEX_SCALE"), (5, u "LOG2_ARRAY_CHAR_INDEX_SCALE"), (5, u "LOG2_ARRAY_SHORT_INDEX_SCALE"), (18, u "LOG2_ARRAY_FLOAT_INDEX_SCALE"), (24, u "LOG2_ARRAY_DOUBLE_INDEX_SCALE"), (89, u "T_BOOLEAN"), (2, u "T_CHAR"), (1, u "T_FLOAT"), (1, u "T_DOUBLE"), (1, u "T_BYTE"), (1, u "T_SHORT"), (1, u "T_INT"), (1, u "T_LONG"), (1, u "SOFT_MAX_ARRAY_LENGTH")] 83

def k14m0 : Method := { name := "<init>", desc := "()V", sig := { parameters := [], returnType := none }, accessFlags := 2, code := none }
/-- jdk/internal/util/ArraysSupport -/
def k14 : Class := { plain "jdk/internal/util/ArraysSupport" (some 0) with
  accessFlags := 33
  interfaces := #[]
  cf := some (fileOf pool14 21 #[] #[{ accessFlags := 2, nameIndex := 9, descriptorIndex := 19, attributes := #[] }] 33 16 #[] #[{ accessFlags := 24, nameIndex := 28, descriptorIndex := 29, attributes := #[] }, { accessFlags := 26, nameIndex := 38, descriptorIndex := 39, attributes := #[] }, { accessFlags := 25, nameIndex := 121, descriptorIndex := 25, attributes := #[] }, { accessFlags := 25, nameIndex := 131, descriptorIndex := 25, attributes := #[] }, { accessFlags := 25, nameIndex := 137, descriptorIndex := 25, attributes := #[] }, { accessFlags := 25, nameIndex := 143, descriptorIndex := 25, attributes := #[] }, { accessFlags := 25, nameIndex := 53, descriptorIndex := 25, attributes := #[] }, { accessFlags := 25, nameIndex := 24, descriptorIndex := 25, attributes := #[] }, { accessFlags := 25, nameIndex := 162, descriptorIndex := 25, attributes := #[] }, { accessFlags := 25, nameIndex := 187, descriptorIndex := 25, attributes := #[] }, { accessFlags := 26, nameIndex := 48, descriptorIndex := 25, attributes := #[] }, { accessFlags := 25, nameIndex := 277, descriptorIndex := 25, attributes := #[] }, { accessFlags := 25, nameIndex := 280, descriptorIndex := 25, attributes := #[] }, { accessFlags := 25, nameIndex := 282, descriptorIndex := 25, attributes := #[] }, { accessFlags := 25, nameIndex := 284, descriptorIndex := 25, attributes := #[] }, { accessFlags := 25, nameIndex := 286, descriptorIndex := 25, attributes := #[] }, { accessFlags := 25, nameIndex := 288, descriptorIndex := 25, attributes := #[] }, { accessFlags := 25, nameIndex := 290, descriptorIndex := 25, attributes := #[] }, { accessFlags := 25, nameIndex := 292, descriptorIndex := 25, attributes := #[] }, { accessFlags := 26, nameIndex := 108, descriptorIndex := 109, attributes := #[] }, { accessFlags := 25, nameIndex := 294, descriptorIndex := 25, attributes := #[] }])
  fields := #[{ name := "U", type := (.object "jdk/internal/misc/Unsafe"), accessFlags := 24, slot := 0, constantValue := 0 }, { name := "BIG_ENDIAN", type := .boolean, accessFlags := 26, slot := 1, constantValue := 0 }, { name := "LOG2_ARRAY_BOOLEAN_INDEX_SCALE", type := .int, accessFlags := 25, slot := 2, constantValue := 0 }, { name := "LOG2_ARRAY_BYTE_INDEX_SCALE", type := .int, accessFlags := 25, slot := 3, constantValue := 0 }, { name := "LOG2_ARRAY_CHAR_INDEX_SCALE", type := .int, accessFlags := 25, slot := 4, constantValue := 0 }, { name := "LOG2_ARRAY_SHORT_INDEX_SCALE", type := .int, accessFlags := 25, slot := 5, constantValue := 0 }, { name := "LOG2_ARRAY_INT_INDEX_SCALE", type := .int, accessFlags := 25, slot := 6, constantValue := 0 }, { name := "LOG2_ARRAY_LONG_INDEX_SCALE", type := .int, accessFlags := 25, slot := 7, constantValue := 0 }, { name := "LOG2_ARRAY_FLOAT_INDEX_SCALE", type := .int, accessFlags := 25, slot := 8, constantValue := 0 }, { name := "LOG2_ARRAY_DOUBLE_INDEX_SCALE", type := .int, accessFlags := 25, slot := 9, constantValue := 0 }, { name := "LOG2_BYTE_BIT_SIZE", type := .int, accessFlags := 26, slot := 10, constantValue := 0 }, { name := "T_BOOLEAN", type := .int, accessFlags := 25, slot := 11, constantValue := 0 }, { name := "T_CHAR", type := .int, accessFlags := 25, slot := 12, constantValue := 0 }, { name := "T_FLOAT", type := .int, accessFlags := 25, slot := 13, constantValue := 0 }, { name := "T_DOUBLE", type := .int, accessFlags := 25, slot := 14, constantValue := 0 }, { name := "T_BYTE", type := .int, accessFlags := 25, slot := 15, constantValue := 0 }, { name := "T_SHORT", type := .int, accessFlags := 25, slot := 16, constantValue := 0 }, { name := "T_INT", type := .int, accessFlags := 25, slot := 17, constantValue := 0 }, { name := "T_LONG", type := .int, accessFlags := 25, slot := 18, constantValue := 0 }, { name := "JLA", type := (.object "jdk/internal/access/JavaLangAccess"), accessFlags := 26, slot := 19, constantValue := 0 }, { name := "SOFT_MAX_ARRAY_LENGTH", type := .int, accessFlags := 25, slot := 20, constantValue := 0 }]
  methods := #[k14m0]
  instanceTypes := #[]
  staticTypes := #[(.object "jdk/internal/misc/Unsafe"), .boolean, .int, .int, .int, .int, .int, .int, .int, .int, .int, .int, .int, .int, .int, .int, .int, .int, .int, (.object "jdk/internal/access/JavaLangAccess"), .int]
  resolved := Array.replicate 378 none
  statics := none }

def pool15 : Array CpInfo := pool [(1, u "java/lang/Cloneable"), (0, .class_ 1), (0, u "java/lang/Object"), (0, .class_ 3)] 3

/-- java/lang/Cloneable -/
def k15 : Class := { plain "java/lang/Cloneable" (some 0) with
  accessFlags := 1537
  interfaces := #[]
  cf := some (fileOf pool15 2 #[] #[] 1537 4 #[] #[])
  fields := #[]
  methods := #[]
  instanceTypes := #[]
  staticTypes := #[]
  resolved := Array.replicate 8 none
  statics := none }

/-- the primitive byte -/
def k16 : Class := { plain "byte" none with kind := .primitive 'B', accessFlags := 0x411 }
/-- [B -/
def k17 : Class := { plain "[B" (some 0) with kind := .array 16 .byte, interfaces := #[15, 2], accessFlags := 1041 }

/-- the primitive char -/
def k18 : Class := { plain "char" none with kind := .primitive 'C', accessFlags := 0x411 }
/-- [C -/
def k19 : Class := { plain "[C" (some 0) with kind := .array 18 .char, interfaces := #[15, 2], accessFlags := 1041 }

def heap : Heap := #[{ cls := 7, slots := #[.long 0, .int 1, .null, .int 0, .null, .int 0, .int 0], vm := .statics 7 },
  { cls := 13, slots := #[.null, .null, .null], vm := .statics 13 },
  { cls := 14, slots := #[], vm := .none }]
def classes : Array Class := #[k0, k1, k2, k3, k4, k5, k6, k7, k8, k9, k10, k11, k12, k13, k14, k15, k16, k17, k18, k19]
def interned : List (Array UInt16 × Addr) := []
def slotsUsed : Nat := 10
def theMethod : MethodId := ⟨1, 1⟩
def args0 : Array Value := #[.int 5, .int 6, .int 7, .int 8]
def aboutOver (below : List Frame) : State where
  vm := { classes := classes, interned := interned.toArray }
  heap := heap
  slotsUsed := slotsUsed
  threads := #[{ frames := .invoking theMethod args0 :: below }]
def below0 : List Frame := [.native { method := ⟨0, 0⟩, args := #[] }]
def about1 : State := aboutOver below0
def p0 : Program := .bare "" "" ""
def e0 : Env := launch0.env 0 0 0
theorem w_frames : about1.frames = Frame.invoking theMethod args0 :: below0 := rfl
set_option maxRecDepth 65536 in
theorem w_args : argsFit about1.vm theMethod args0 = true := by decide +kernel
set_option maxRecDepth 65536 in
theorem w_heap : heapFits about1 = true := by decide +kernel
set_option maxRecDepth 65536 in
theorem w_runnable : about1.curStatus? = some .runnable := by decide +kernel
set_option maxRecDepth 65536 in
theorem w_alone : about1.alone = true := by decide +kernel
set_option maxRecDepth 65536 in
theorem w_named : about1.methodNamed? x = some theMethod := by decide +kernel
set_option maxRecDepth 65536 in
theorem w_hears : about1.hears theMethod below0 = true := by decide +kernel
set_option maxRecDepth 65536 in
theorem w_ripe : about1.ripe theMethod args0 below0 = true := by decide +kernel
theorem w_running : about1.status = .running := rfl
set_option maxRecDepth 65536 in
theorem w_room : about1.hasRoom e0.platform room_1 = true :=
  launch0.hasRoom_least _ room_1 (by decide +kernel) (by decide +kernel) (by decide +kernel) (by decide +kernel) (by decide +kernel) (by decide +kernel)
theorem allAtoms_all (ts : List Jvm.Cond) (a : Array Jvm.Value) (st : Jvm.State) : (allAtoms ts).before a st = ts.all (fun c => c.before a st) := by
  induction ts with
  | nil => rfl
  | cons c t ih =>
    show (Jvm.Cond.and c (allAtoms t)).before a st = _
    rw [Jvm.Cond.before_and, ih, List.all_cons]
def words1 : List Jvm.Cond := Jvm.Cond.code x code maxLocals ret :: tables_1
/-- a 'code' word, met by the world's own term for the bytes: nothing is compared byte by byte -/
theorem code_word {y : MethodName} {bytes : ByteArray} {mx : Nat} {rt : Option FieldType} {a : Array Value} {s : State} {m : MethodId} {meth : Method} {c : Code} (h1 : s.methodNamed? y = some m) (h2 : s.vm.method? m = some meth) (h3 : meth.code = some c) (h4 : c.code = bytes)
    (h5 : (c.maxLocals == mx && c.exceptionTable.isEmpty && decide (c.maxStack ≤ mostOperands) && decide (meth.sig.returnType = rt) && !meth.locks && decide (parseMethodDescriptor y.desc = some meth.sig)) = true) : (Jvm.Cond.code y bytes mx rt).before a s = true := by
  simp only [Bool.and_eq_true, beq_iff_eq, Bool.not_eq_true', decide_eq_true_eq] at h5
  obtain ⟨⟨⟨⟨⟨g1, g2⟩, g3⟩, g4⟩, g5⟩, g6⟩ := h5
  simp [Cond.before, Cond.holds, Cond.value, h1, h2, h3, h4, g1, g2, g3, g4, g5, g6]
def isCode : Jvm.Cond → Bool
  | .code _ _ _ _ => true
  | _ => false
theorem all_split {L : List Jvm.Cond} {P : Jvm.Cond → Bool} (h1 : L.all (fun c => isCode c || P c) = true) (h2 : ∀ c ∈ L.filter isCode, P c = true) : L.all P = true := by
  refine List.all_eq_true.mpr fun c hc => ?_
  have h := List.all_eq_true.mp h1 c hc
  rcases Bool.eq_false_or_eq_true (isCode c) with hi | hi
  · exact h2 c (List.mem_filter.mpr ⟨hc, hi⟩)
  · simpa [hi] using h
set_option maxRecDepth 65536 in
theorem w_c0 : (Jvm.Cond.code x code maxLocals ret).before args0 about1 = true := code_word (m := ⟨1, 1⟩) (meth := k1m1) (c := k1c1) (by decide +kernel) rfl rfl rfl (by decide +kernel)
set_option maxRecDepth 65536 in
theorem w_c1 : (Jvm.Cond.code ({ cls := "com/example/mthd/mthd/rules/MessageFieldTypedAsPinLaw", name := "mk", desc := "(ICC)Ljava/lang/String;" } : Jvm.MethodName) method_3_code (3 : Nat) (Option.some (Jvm.ClassFile.FieldType.object "java/lang/String"))).before args0 about1 = true := code_word (m := ⟨1, 2⟩) (meth := k1m2) (c := k1c2) (by decide +kernel) rfl rfl rfl (by decide +kernel)
set_option maxRecDepth 65536 in
theorem w_c2 : (Jvm.Cond.code ({ cls := "java/lang/String", name := "<init>", desc := "([C)V" } : Jvm.MethodName) jdk_42_method_3_code (2 : Nat) (Option.none : Option Jvm.ClassFile.FieldType)).before args0 about1 = true := code_word (m := ⟨7, 1⟩) (meth := k7m1) (c := k7c1) (by decide +kernel) rfl rfl rfl (by decide +kernel)
set_option maxRecDepth 65536 in
theorem w_c3 : (Jvm.Cond.code ({ cls := "java/lang/String", name := "<init>", desc := "([CIILjava/lang/Void;)V" } : Jvm.MethodName) jdk_42_method_149_code (6 : Nat) (Option.none : Option Jvm.ClassFile.FieldType)).before args0 about1 = true := code_word (m := ⟨7, 3⟩) (meth := k7m3) (c := k7c3) (by decide +kernel) rfl rfl rfl (by decide +kernel)
set_option maxRecDepth 65536 in
theorem w_c4 : (Jvm.Cond.code ({ cls := "java/lang/Object", name := "<init>", desc := "()V" } : Jvm.MethodName) object_method_1_code (1 : Nat) (Option.none : Option Jvm.ClassFile.FieldType)).before args0 about1 = true := code_word (m := ⟨0, 0⟩) (meth := k0m0) (c := k0c0) (by decide +kernel) rfl rfl rfl (by decide +kernel)
set_option maxRecDepth 65536 in
theorem w_c5 : (Jvm.Cond.code ({ cls := "java/lang/StringUTF16", name := "compress", desc := "([CII)[B" } : Jvm.MethodName) jdk_52_method_16_code (6 : Nat) (Option.some (Jvm.ClassFile.FieldType.array Jvm.ClassFile.FieldType.byte))).before args0 about1 = true := code_word (m := ⟨8, 2⟩) (meth := k8m2) (c := k8c2) (by decide +kernel) rfl rfl rfl (by decide +kernel)
set_option maxRecDepth 65536 in
theorem w_c6 : (Jvm.Cond.code ({ cls := "java/lang/StringUTF16", name := "compress", desc := "([CI[BII)I" } : Jvm.MethodName) jdk_52_method_21_code (7 : Nat) (Option.some Jvm.ClassFile.FieldType.int)).before args0 about1 = true := code_word (m := ⟨8, 3⟩) (meth := k8m3) (c := k8c3) (by decide +kernel) rfl rfl rfl (by decide +kernel)
set_option maxRecDepth 65536 in
theorem w_c7 : (Jvm.Cond.code ({ cls := "java/lang/StringUTF16", name := "coderFromArrayLen", desc := "([BI)B" } : Jvm.MethodName) jdk_52_method_15_code (2 : Nat) (Option.some Jvm.ClassFile.FieldType.byte)).before args0 about1 = true := code_word (m := ⟨8, 1⟩) (meth := k8m1) (c := k8c1) (by decide +kernel) rfl rfl rfl (by decide +kernel)
set_option maxRecDepth 65536 in
theorem w_c8 : (Jvm.Cond.code ({ cls := "com/example/mthd/mthd/rules/MessageField", name := "<init>", desc := "(Ljava/lang/String;Ljava/lang/String;)V" } : Jvm.MethodName) prog_42_method_1_code (3 : Nat) (Option.none : Option Jvm.ClassFile.FieldType)).before args0 about1 = true := code_word (m := ⟨10, 0⟩) (meth := k10m0) (c := k10c0) (by decide +kernel) rfl rfl rfl (by decide +kernel)
set_option maxRecDepth 65536 in
theorem w_c9 : (Jvm.Cond.code ({ cls := "java/lang/Record", name := "<init>", desc := "()V" } : Jvm.MethodName) jdk_30_method_1_code (1 : Nat) (Option.none : Option Jvm.ClassFile.FieldType)).before args0 about1 = true := code_word (m := ⟨9, 0⟩) (meth := k9m0) (c := k9c0) (by decide +kernel) rfl rfl rfl (by decide +kernel)
set_option maxRecDepth 65536 in
theorem w_c10 : (Jvm.Cond.code ({ cls := "com/example/mthd/mthd/model/ApiMessage$Field", name := "<init>", desc := "(Ljava/lang/String;Ljava/lang/String;ZZLjava/util/Optional;Ljava/util/Optional;)V" } : Jvm.MethodName) prog_19_method_1_code (7 : Nat) (Option.none : Option Jvm.ClassFile.FieldType)).before args0 about1 = true := code_word (m := ⟨11, 0⟩) (meth := k11m0) (c := k11c0) (by decide +kernel) rfl rfl rfl (by decide +kernel)
set_option maxRecDepth 65536 in
theorem w_c11 : (Jvm.Cond.code ({ cls := "com/example/mthd/mthd/rules/MessageField", name := "typedAs", desc := "(Lcom/example/mthd/mthd/model/ApiMessage$Field;)Z" } : Jvm.MethodName) prog_42_method_3_code (2 : Nat) (Option.some Jvm.ClassFile.FieldType.boolean)).before args0 about1 = true := code_word (m := ⟨10, 1⟩) (meth := k10m1) (c := k10c1) (by decide +kernel) rfl rfl rfl (by decide +kernel)
set_option maxRecDepth 65536 in
theorem w_c12 : (Jvm.Cond.code ({ cls := "com/example/mthd/mthd/model/ApiMessage$Field", name := "type", desc := "()Ljava/lang/String;" } : Jvm.MethodName) prog_19_method_7_code (1 : Nat) (Option.some (Jvm.ClassFile.FieldType.object "java/lang/String"))).before args0 about1 = true := code_word (m := ⟨11, 1⟩) (meth := k11m1) (c := k11c1) (by decide +kernel) rfl rfl rfl (by decide +kernel)
set_option maxRecDepth 65536 in
theorem w_c13 : (Jvm.Cond.code ({ cls := "java/lang/String", name := "equals", desc := "(Ljava/lang/Object;)Z" } : Jvm.MethodName) jdk_42_method_66_code (3 : Nat) (Option.some Jvm.ClassFile.FieldType.boolean)).before args0 about1 = true := code_word (m := ⟨7, 2⟩) (meth := k7m2) (c := k7c2) (by decide +kernel) rfl rfl rfl (by decide +kernel)
set_option maxRecDepth 65536 in
theorem w_c14 : (Jvm.Cond.code ({ cls := "java/lang/StringLatin1", name := "equals", desc := "([B[B)Z" } : Jvm.MethodName) jdk_43_method_13_code (3 : Nat) (Option.some Jvm.ClassFile.FieldType.boolean)).before args0 about1 = true := code_word (m := ⟨12, 1⟩) (meth := k12m1) (c := k12c1) (by decide +kernel) rfl rfl rfl (by decide +kernel)
def codes1 : List Jvm.Cond := [Jvm.Cond.code x code maxLocals ret, Jvm.Cond.code ({ cls := "com/example/mthd/mthd/rules/MessageFieldTypedAsPinLaw", name := "mk", desc := "(ICC)Ljava/lang/String;" } : Jvm.MethodName) method_3_code (3 : Nat) (Option.some (Jvm.ClassFile.FieldType.object "java/lang/String")), Jvm.Cond.code ({ cls := "java/lang/String", name := "<init>", desc := "([C)V" } : Jvm.MethodName) jdk_42_method_3_code (2 : Nat) (Option.none : Option Jvm.ClassFile.FieldType), Jvm.Cond.code ({ cls := "java/lang/String", name := "<init>", desc := "([CIILjava/lang/Void;)V" } : Jvm.MethodName) jdk_42_method_149_code (6 : Nat) (Option.none : Option Jvm.ClassFile.FieldType), Jvm.Cond.code ({ cls := "java/lang/Object", name := "<init>", desc := "()V" } : Jvm.MethodName) object_method_1_code (1 : Nat) (Option.none : Option Jvm.ClassFile.FieldType), Jvm.Cond.code ({ cls := "java/lang/StringUTF16", name := "compress", desc := "([CII)[B" } : Jvm.MethodName) jdk_52_method_16_code (6 : Nat) (Option.some (Jvm.ClassFile.FieldType.array Jvm.ClassFile.FieldType.byte)), Jvm.Cond.code ({ cls := "java/lang/StringUTF16", name := "compress", desc := "([CI[BII)I" } : Jvm.MethodName) jdk_52_method_21_code (7 : Nat) (Option.some Jvm.ClassFile.FieldType.int), Jvm.Cond.code ({ cls := "java/lang/StringUTF16", name := "coderFromArrayLen", desc := "([BI)B" } : Jvm.MethodName) jdk_52_method_15_code (2 : Nat) (Option.some Jvm.ClassFile.FieldType.byte), Jvm.Cond.code ({ cls := "com/example/mthd/mthd/rules/MessageField", name := "<init>", desc := "(Ljava/lang/String;Ljava/lang/String;)V" } : Jvm.MethodName) prog_42_method_1_code (3 : Nat) (Option.none : Option Jvm.ClassFile.FieldType), Jvm.Cond.code ({ cls := "java/lang/Record", name := "<init>", desc := "()V" } : Jvm.MethodName) jdk_30_method_1_code (1 : Nat) (Option.none : Option Jvm.ClassFile.FieldType), Jvm.Cond.code ({ cls := "com/example/mthd/mthd/model/ApiMessage$Field", name := "<init>", desc := "(Ljava/lang/String;Ljava/lang/String;ZZLjava/util/Optional;Ljava/util/Optional;)V" } : Jvm.MethodName) prog_19_method_1_code (7 : Nat) (Option.none : Option Jvm.ClassFile.FieldType), Jvm.Cond.code ({ cls := "com/example/mthd/mthd/rules/MessageField", name := "typedAs", desc := "(Lcom/example/mthd/mthd/model/ApiMessage$Field;)Z" } : Jvm.MethodName) prog_42_method_3_code (2 : Nat) (Option.some Jvm.ClassFile.FieldType.boolean), Jvm.Cond.code ({ cls := "com/example/mthd/mthd/model/ApiMessage$Field", name := "type", desc := "()Ljava/lang/String;" } : Jvm.MethodName) prog_19_method_7_code (1 : Nat) (Option.some (Jvm.ClassFile.FieldType.object "java/lang/String")), Jvm.Cond.code ({ cls := "java/lang/String", name := "equals", desc := "(Ljava/lang/Object;)Z" } : Jvm.MethodName) jdk_42_method_66_code (3 : Nat) (Option.some Jvm.ClassFile.FieldType.boolean), Jvm.Cond.code ({ cls := "java/lang/StringLatin1", name := "equals", desc := "([B[B)Z" } : Jvm.MethodName) jdk_43_method_13_code (3 : Nat) (Option.some Jvm.ClassFile.FieldType.boolean)]
set_option maxRecDepth 65536 in
theorem codes_eq : words1.filter isCode = codes1 := rfl
theorem w_codes : ∀ c ∈ words1.filter isCode, c.before args0 about1 = true := by
  rw [codes_eq]
  intro c hc
  simp only [codes1, List.mem_cons, List.not_mem_nil, or_false] at hc
  rcases hc with rfl | rfl | rfl | rfl | rfl | rfl | rfl | rfl | rfl | rfl | rfl | rfl | rfl | rfl | rfl
  · exact w_c0
  · exact w_c1
  · exact w_c2
  · exact w_c3
  · exact w_c4
  · exact w_c5
  · exact w_c6
  · exact w_c7
  · exact w_c8
  · exact w_c9
  · exact w_c10
  · exact w_c11
  · exact w_c12
  · exact w_c13
  · exact w_c14
set_option maxRecDepth 65536 in
theorem w_t1 : (words1.take 24).all (fun c => isCode c || c.before args0 about1) = true := by decide +kernel
set_option maxRecDepth 65536 in
theorem w_t2 : ((words1.drop 24).take 24).all (fun c => isCode c || c.before args0 about1) = true := by decide +kernel
set_option maxRecDepth 65536 in
theorem w_t3 : (((words1.drop 24).drop 24).take 24).all (fun c => isCode c || c.before args0 about1) = true := by decide +kernel
set_option maxRecDepth 65536 in
theorem w_t4 : (((words1.drop 24).drop 24).drop 24).all (fun c => isCode c || c.before args0 about1) = true := by decide +kernel
theorem w_tables : (allAtoms (Jvm.Cond.code x code maxLocals ret :: tables_1)).before args0 about1 = true := by
  rw [allAtoms_all]
  show words1.all (fun c => c.before args0 about1) = true
  refine all_split ?_ w_codes
  rw [← List.take_append_drop 24 words1, List.all_append, w_t1, ← List.take_append_drop 24 (words1.drop 24), List.all_append, w_t2, ← List.take_append_drop 24 ((words1.drop 24).drop 24), List.all_append, w_t3, w_t4]
  rfl
set_option maxRecDepth 65536 in
theorem w_rest : rest_1_c.before args0 about1 = true := by decide +kernel
set_option maxRecDepth 65536 in
theorem w_case : (Jvm.Cond.and given_1 narrow_1).before args0 about1 = true := by decide +kernel
set_option maxRecDepth 65536 in
theorem w_consts : constsHeld consts_1 about1 := Jvm.Lit.constsHeldB_iff.mp (by decide +kernel)
theorem w_applies : (headSpec (Jvm.Cond.code x code maxLocals ret :: tables_1) room_1).applies x e0.platform about1 = true :=
  (Spec.applies_iff w_frames).mpr ⟨w_running, w_runnable, w_alone, w_named, w_hears, w_ripe, w_room, w_tables⟩
theorem atStart : AtStart classFile x code maxLocals ret World_1 tables_1 room_1 Calls_1 rest_1 Pre_1 launch0 p0 e0 about1 theMethod args0 below0 :=
  ⟨lists_1, trivial, launch0.admits_env _ _ _, launch0.least_env, fairChoices_fair.cas, fairChoices_fair.clock, w_frames, w_args, w_heap, w_applies, ⟨w_consts, trivial⟩, w_rest, w_case⟩
end start1
theorem witness_1 : WitnessClaimed_1 := ⟨start1.p0, start1.e0, start1.about1, start1.theMethod, start1.args0, start1.below0, start1.atStart⟩
end Jvm.Pilot.@@N@@
