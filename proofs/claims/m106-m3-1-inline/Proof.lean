import JvmDerived
import JvmDerived.Pilot.@@N@@Statement
import JvmDerived.Pilot.@@N@@Code
set_option linter.unusedVariables false
set_option linter.unusedSimpArgs false

namespace Jvm.Pilot.@@N@@
open Jvm Jvm.ClassFile Sem Op Lib Jvm.Free Jvm.Stand Jvm.LawKit Jvm.RoadKit Bundle Jvm.Pilot.@@N@@.Jvm.D

theorem own_onn {i : Nat} (h : i < 2147483648) : ¬ Int32.ofNat i < 0 := by
  rw [Int32.lt_iff_toInt_lt, Int32.toInt_ofNat_small h, Int32.toInt_zero]; omega
theorem own_oi {i : Nat} (h : i < 2147483648) : (Int32.ofNat i).toNatClampNeg = i := by
  have q := nat_of (own_onn h)
  rw [Int32.toInt_ofNat_small h] at q; omega

def litCs : List (String × Nat × String) := [("com/example/dispatcher/dispatcher/web/FieldErrorToStringPinLaw", 7, ""), ("com/example/dispatcher/dispatcher/web/FieldError", 33, ": ")]
theorem lit0_in : ("com/example/dispatcher/dispatcher/web/FieldErrorToStringPinLaw", 7, "") ∈ litCs := List.mem_of_getElem? (i := 0) rfl
theorem lit0_one : ∀ q ∈ litCs, q.2.2 = "" → q = ("com/example/dispatcher/dispatcher/web/FieldErrorToStringPinLaw", 7, "") := by decide +kernel
theorem lit0_lat : ∀ c ∈ "".toList, c.toNat < 256 := by decide +kernel
theorem lit0_len : "".toList.length < 2147483648 := by decide +kernel
theorem lit0_sz : 4 * "".toList.length ≤ 0 := by decide +kernel
theorem lit1_in : ("com/example/dispatcher/dispatcher/web/FieldError", 33, ": ") ∈ litCs := List.mem_of_getElem? (i := 1) rfl
theorem lit1_one : ∀ q ∈ litCs, q.2.2 = ": " → q = ("com/example/dispatcher/dispatcher/web/FieldError", 33, ": ") := by decide +kernel
theorem lit1_lat : ∀ c ∈ ": ".toList, c.toNat < 256 := by decide +kernel
theorem lit1_len : ": ".toList.length < 2147483648 := by decide +kernel
theorem lit1_sz : 4 * ": ".toList.length ≤ 8 := by decide +kernel

section OwnLit
/-- the bytes of a literal's text -/
def litI (text : String) : List Int32 := text.toList.map fun c => Jvm.Lit.byteI c.toNat.toUInt16
def litB (text : String) : List Value := (litI text).map Value.int
theorem litI_len (text : String) : (litI text).length = text.toList.length := List.length_map ..
theorem litB_eq (text : String) : litB text = text.toList.map fun c => Value.int (Jvm.Lit.byteI c.toNat.toUInt16) := List.map_map ..
/-- the String at a says the text, her bytes lie at t -/
def Says (Z : State) (h : Heap) (a t : Addr) (k : ClassId) (text : String) : Prop :=
  Exa Z h a "java/lang/String" ∧ Fld Z h a "java/lang/String" "coder" "B" (.int 0) ∧ Fld Z h a "java/lang/String" "value" "[B" (.ref t) ∧ Arv Z h t k .byte (Int32.ofNat (litI text).length) ((litI text).map Value.int) (.int 0)
theorem Says.ext {Z : State} {h h' : Heap} {a t : Addr} {k : ClassId} {text : String} (S : Says Z h a t k text) (E : Ext h h') : Says Z h' a t k text := ⟨S.1.ext E, S.2.1.ext E, S.2.2.1.ext E, S.2.2.2.ext E⟩
theorem Says.other {Z : State} {h h' : Heap} {a t x : Addr} {k : ClassId} {text : String} {sl : Nat} {v : Value} (S : Says Z h a t k text) (W : Wr h h' x sl v) (q1 : a ≠ x) (q2 : t ≠ x) : Says Z h' a t k text := ⟨S.1.wr W, S.2.1.other W (Or.inl q1), S.2.2.1.other W (Or.inl q1), S.2.2.2.other W q2⟩
theorem Says.keep {Z : State} {h h' : Heap} {a t : Addr} {ws : List Addr} {k : ClassId} {text : String} (S : Says Z h a t k text) (K : Keep h h' ws) (q1 : a ∉ ws) (q2 : t ∉ ws) : Says Z h' a t k text := ⟨S.1.keep K, S.2.1.keep K q1, S.2.2.1.keep K q1, S.2.2.2.keep K q2⟩
/-- what the case assumes of the literals: whatever the JVM holds already says its text; compact strings are on -/
def LH (Z : State) : Prop := (∀ q ∈ litCs, Jvm.Lit.constHeld Z q.1 q.2.1) ∧ ∀ a0, Jvm.Lit.compactW.before a0 Z = true
/-- what holds of the literals all along: those loaded since the start are booked, say their texts, and lie apart from ms, the objects that are still written -/
def Hd (Z : State) (ms : List Addr) (vm : Vm) (h : Heap) : Prop :=
  LH Z ∧ Ext Z.heap h ∧ (∀ x ∈ ms, Z.heap.size ≤ x ∧ x < h.size) ∧ ∃ Ts, IB Z vm Ts ∧ ∀ q ∈ litCs, q.2.2 ∉ Ts ∨ ∃ a t k, Lit (Z.setVm vm) q.1 q.2.1 a ∧ Says Z h a t k q.2.2 ∧ a ∉ ms ∧ t ∉ ms
theorem Hd.start {Z : State} (A : LH Z) : Hd Z [] Z.vm Z.heap := ⟨A, ⟨Nat.le_refl _, fun _ _ q => q⟩, fun x hx => (nomatch hx), [], IB.start, fun q hq => Or.inl (fun z => (nomatch z))⟩
variable {Z b : State} {ms ms' ws : List Addr} {h h' : Heap} {vm vm' : Vm} {x : Addr} {sl : Nat} {v : Value}
theorem Hd.warm (J : Hd Z ms b.vm h) (q : b.WarmedH vm') : Hd Z ms vm' h := by
  obtain ⟨A, E, M, Ts, ⟨more, e, hm⟩, L⟩ := J
  refine ⟨A, E, M, Ts, ⟨more, q.interned_eq.trans e, hm⟩, fun c hc => (L c hc).imp id fun ⟨a, t, k, l, r⟩ => ⟨a, t, k, ?_, r⟩⟩
  exact State.resolvedAt?_warmed39 (s := b) q.wide l
theorem Hd.ext (J : Hd Z ms vm h) (E' : Ext h h') : Hd Z ms vm h' := by
  obtain ⟨A, E, M, Ts, I, L⟩ := J
  exact ⟨A, ⟨Nat.le_trans E.1 E'.1, fun a c q => E'.2 a c (E.2 a c q)⟩, fun y hy => ⟨(M y hy).1, Nat.lt_of_lt_of_le (M y hy).2 E'.1⟩, Ts, I, fun c hc => (L c hc).imp id fun ⟨a, t, k, l, s, r⟩ => ⟨a, t, k, l, s.ext E', r⟩⟩
theorem Hd.add (J : Hd Z ms vm h) (E' : Ext h h') (q : x = h.size) (q' : x < h'.size) : Hd Z (x :: ms) vm h' := by
  obtain ⟨A, E, M, Ts, I, L⟩ := J
  refine ⟨A, ⟨Nat.le_trans E.1 E'.1, fun a c r => E'.2 a c (E.2 a c r)⟩, fun y hy => ?_, Ts, I, fun c hc => (L c hc).imp id fun ⟨a, t, k, l, s, r1, r2⟩ => ⟨a, t, k, l, s.ext E', ?_, ?_⟩⟩
  · rcases List.mem_cons.mp hy with rfl | hy
    · exact ⟨q ▸ E.1, q'⟩
    · exact ⟨(M y hy).1, Nat.lt_of_lt_of_le (M y hy).2 E'.1⟩
  · exact ninS (fun z => absurd s.1.lt (by rw [z, q]; exact Nat.lt_irrefl _)) r1
  · exact ninS (fun z => absurd s.2.2.2.lt (by rw [z, q]; exact Nat.lt_irrefl _)) r2
theorem Hd.keep (J : Hd Z ms vm h) (K : Keep h h' ws) (q : ∀ x ∈ ws, x ∈ ms) : Hd Z ms vm h' := by
  obtain ⟨A, E, M, Ts, I, L⟩ := J
  refine ⟨A, ⟨Nat.le_trans E.1 K.1, fun a c r => K.2.1 a c (E.2 a c r) fun z => ?_⟩, fun y hy => ⟨(M y hy).1, Nat.lt_of_lt_of_le (M y hy).2 K.1⟩, Ts, I, fun c hc => (L c hc).imp id fun ⟨a, t, k, l, s, r1, r2⟩ => ⟨a, t, k, l, s.keep K (fun z => r1 (q _ z)) (fun z => r2 (q _ z)), r1, r2⟩⟩
  exact absurd (Array.getElem?_eq_some_iff.mp r).1 (Nat.not_lt.mpr (M _ (q _ z)).1)
theorem Hd.wr (J : Hd Z ms vm h) (W : Wr h h' x sl v) (q : x ∈ ms) : Hd Z ms vm h' := J.keep (Keep.of_wr W) (fun y hy => by cases List.mem_singleton.mp hy; exact q)
theorem Hd.sub (J : Hd Z ms vm h) (q : ∀ x ∈ ms', x ∈ ms) : Hd Z ms' vm h := by
  obtain ⟨A, E, M, Ts, I, L⟩ := J
  exact ⟨A, E, fun y hy => M y (q y hy), Ts, I, fun c hc => (L c hc).imp id fun ⟨a, t, k, l, s, r1, r2⟩ => ⟨a, t, k, l, s, fun z => r1 (q _ z), fun z => r2 (q _ z)⟩⟩
theorem Hd.nms {t : Addr} (J : Hd Z ms vm h) (q : h.size ≤ t) : t ∉ ms := fun z => absurd (J.2.2.1 t z).2 (Nat.not_lt.mpr q)
/-- what the law of the cold load hands out, said of the start's tables -/
theorem slin_says {T' : State} {lo hi : Nat} {a : Addr} {units : Array UInt16} {text : String} (hal : Z.vm.Alike T'.vm) (hin : SlIn lo hi T' a units) (htext : utf16ToString? units = some text) (hl : ∀ c ∈ text.toList, c.toNat < 256) (hsz : text.toList.length < 2147483648) :
    ∃ t k, Says Z T'.heap a t k text ∧ ((a < lo ∧ t < lo) ∨ (hi ≤ a ∧ hi ≤ t)) := by
  obtain ⟨q, cS, rfl, ⟨⟨s1, s2, s3, ⟨cv, kv, iv, s4, s4'⟩, ⟨cc, kc, ic, s5, s5'⟩, s6, s7, s8, s9, s10, ⟨t1, t2, t3, t4, t5⟩, s12, s13, s14, s15, s16⟩, fS, eS⟩, ⟨kS, k1, k2, k3⟩, fB, hby, hloc⟩ := hin
  obtain ⟨kv', z4⟩ := ff_back hal s4
  obtain ⟨kc', z5⟩ := ff_back hal s5
  have fZ : Z.vm.findClass "java/lang/String" = some q.sC.cls := by rw [← hal.findClass, eS]; exact fS
  obtain ⟨kz, hz, -⟩ := Vm.findClass_spec fZ
  obtain ⟨kz', hz', ez⟩ := hal.2.2 _ _ hz
  have e1 : kz' = kS := Option.some.inj (hz'.symm.trans (eS ▸ k1))
  have bZ : Z.vm.findClass "[B" = some q.SA.cls := by rw [← hal.findClass]; exact fB
  obtain ⟨kb, hb, -⟩ := Vm.findClass_spec bZ
  obtain ⟨kb', hb', eb⟩ := hal.2.2 _ _ hb
  have e2 : t2 = kb' := Option.some.inj (t3.symm.trans hb')
  have hA : Z.isArrayOf q.SA .byte := ⟨t1, kb, hb, t4, by rw [e2, eb] at t5; exact t5⟩
  have hu := Jvm.ClassFile.units_of_text htext hl
  have hlat := Jvm.ClassFile.lat_of_text htext hl
  have hsl : q.SA.slots = units.map fun u => Value.int (Jvm.Lit.byteI u) := by rw [hby, Jvm.Free.SBG.stringBytes_lat hlat]; rfl
  have hlb : litB text = units.toList.map fun u => Value.int (Jvm.Lit.byteI u) := by rw [hu, litB_eq, List.map_map]; rfl
  have hn : q.SA.slots.size = text.toList.length := by
    have r := congrArg List.length hu
    rw [hsl, Array.size_map]; simpa using r
  have H : Has q.SA (litB text) (.int 0) := fun j hj => by
    have hj' : j < units.size := by rw [hsl, Array.size_map] at hj; exact hj
    rw [hsl, hlb]; simp [hj']
  refine ⟨q.sd, q.SA.cls, ⟨⟨q.sC, kz, s1, fZ, hz, s3, fun _ => by rw [k3, ← e1, ez]⟩, ⟨q.sC, cc, kc', ic, q.fSC, s1, z5, s7, s2, s3, by rw [← hal.assignable]; exact s5', s9⟩, ⟨q.sC, cv, kv', iv, q.fSV, s1, z4, s6, s2, s3, by rw [← hal.assignable]; exact s4', s8⟩,
    ⟨q.SA, ⟨s10, hA, s12⟩, rfl, by rw [hn, litI_len, own_oi hsz], by rw [litI_len]; exact own_onn hsz, H, fun j hj => ?_⟩⟩, hloc⟩
  have r1 := s16 j hj
  rw [Jvm.Free.SBG.getD_of (H j hj)] at r1
  exact r1
end OwnLit

section OwnKit
variable {p : Program} {l : Launch} {e : Env} {R : Room} {s b : State} {m : MethodId} {args : Array Value} {below : List Frame} {meth : Method} {c : Code} {T T' : State} {locs : List Loc} {cells slots : Nat} {Z : State} {a0 : Array Value} {h h' : Heap} {K N : Nat} {Q : Option Value → Vm → Heap → List Loc → Prop} {g g' : JFrame} {ms : List Addr}
/-- from the frame g over T the body comes to its end, and there Q holds (the end in the wide sense: literals may have been loaded) -/
def Go (p : Program) (e : Env) (s : State) (below : List Frame) (K N : Nat) (J : Vm → Heap → Prop) (Q : Option Value → Vm → Heap → List Loc → Prop) (T : State) (g : JFrame) : Prop :=
  ∃ s₂ o, Steps p.tables e below (T.setTop g) s₂ ∧ s₂.status = .running ∧ Ended s₂ below o ∧ ∃ v L, o = .returned v ∧ Q v s₂.vm s₂.heap L ∧ J s₂.vm s₂.heap ∧ ReturnedEndW s o s₂ L K N
theorem Go.of {J : Vm → Heap → Prop} (st : ∀ t, Steps p.tables e below (T'.setTop g') t → Steps p.tables e below (T.setTop g) t) (q : Go p e s below K N J Q T' g') : Go p e s below K N J Q T g := by
  obtain ⟨s2, o, h1, r⟩ := q
  exact ⟨s2, o, st _ h1, r⟩
theorem own_go0 {J : Vm → Heap → Prop} {as' : Array Value} {n : Nat} {ls : Array Slot} (q : argsToLocals as' n = ls) (r : Go p e s below K N J Q T (mkF m 0 ls [])) : Go p e s below K N J Q T (entryFrame m as' n) := by subst q; exact r
/-- two roads meet again: what comes behind is proved once -/
theorem Go.join {J : Vm → Heap → Prop} {α : Type} (P : α → Prop) (f : α → JFrame) (A : ∀ x, P x → Go p e s below K N J Q T (f x)) (C : (∀ x, P x → Go p e s below K N J Q T (f x)) → Go p e s below K N J Q T g) : Go p e s below K N J Q T g := C A
/-- the tables at hand: b is the start s with warmer tables, their new pairs booked below the heap's size -/
def Bs (s b : State) (h : Heap) : Prop := ∃ vm k, b = s.setVm vm ∧ s.Since vm k ∧ k ≤ h.size
theorem Bs.start (s : State) (h : Heap) : Bs s s h := ⟨s.vm, 0, rfl, (State.WarmedH.refl s).since 0, Nat.zero_le _⟩
theorem Bs.mono (B : Bs s b h) (q : h.size ≤ h'.size) : Bs s b h' := by
  obtain ⟨vm, k, e, hS, hk⟩ := B
  exact ⟨vm, k, e, hS, Nat.le_trans hk q⟩
theorem rend_mono {t : State} {o : Outcome} {L : List Loc} {k n k' n' : Nat} (q : ReturnedEndW s o t L k n) (hk : k ≤ k') (hn : n ≤ n') : ReturnedEndW s o t L k' n' := ⟨q.1, q.2.1, q.2.2.1, q.2.2.2.mono hk hn⟩
theorem own_retI (X : Stand p l e R s m args below meth c T locs cells slots) (hx : p.tables.exec = Jvm.exec) {pc : Nat} {Ls : Array Slot} {z : Int32} {rest : List Value} (hret : meth.sig.returnType = some .int) (hd : decode c.code pc = .ok (.ireturn, 1)) {fs : List Frame}
    (hl : ∀ (f : JFrame) (acts : List Action), f.method = m → f.locked = none → f.entered = [] → (doReturn e (T.setTop f) acts (some (.int z))).1 = T.setFrames fs) : Steps p.tables e below (T.setTop (mkF m pc Ls (.int z :: rest))) (T.setFrames fs) := by
  have hm' : T.vm.method? m = some meth := X.method'
  have hn : narrow .int (.int z) = .int z := rfl
  show Steps p.tables e below (T.setTop { method := m, pc := pc, locals := Ls, stack := _ :: rest, locked := none }) _
  jvm_step X.here [X.here.top, hx, hd, hm', hret, hn]
  first | (intro acts; rw [hl _ acts rfl rfl rfl]) | rw [hl _ _ rfl rfl rfl]
  exact Steps.refl _
theorem Go.retI (X : Stand p l e R b m args below meth c T locs cells slots) (hx : p.tables.exec = Jvm.exec) (hlk : meth.locks = false) (B : Bs s b h) (J : Hd Z ms b.vm h) (eT : T.heap = h) {pc : Nat} {Ls : Array Slot} {z : Int32} {rest : List Value} (hret : meth.sig.returnType = some .int) (hd : decode c.code pc = .ok (.ireturn, 1)) (hK : cells ≤ K) (hN : slots ≤ N)
    (hQ : ∀ vm, b.WarmedH vm → Q (some (.int z)) vm h locs) : Go p e s below K N (Hd Z ms) Q T (mkF m pc Ls (.int z :: rest)) := by
  obtain ⟨vm, k, rfl, hS, hk⟩ := B
  subst eT
  obtain ⟨fs, hr, hrun, hended, hW⟩ := X.leaveW hS hk (v := some (.int z)) (fun q => by rw [hret] at q; cases q) hlk
  exact ⟨_, _, own_retI X hx hret hd hr, hrun, hended, _, _, rfl, hQ _ X.warmed, J.warm X.warmed, rend_mono hW hK hN⟩
theorem Go.retN (X : Stand p l e R b m args below meth c T locs cells slots) (hx : p.tables.exec = Jvm.exec) (hlk : meth.locks = false) (B : Bs s b h) (J : Hd Z ms b.vm h) (eT : T.heap = h) {pc : Nat} {Ls : Array Slot} {z z' : Int32} {t : FieldType} {rest : List Value} (hret : meth.sig.returnType = some t) (ht : t = .boolean ∨ t = .byte ∨ t = .char ∨ t = .short) (hd : decode c.code pc = .ok (.ireturn, 1)) (hz : nar t z = z') (hK : cells ≤ K) (hN : slots ≤ N)
    (hQ : ∀ vm, b.WarmedH vm → Q (some (.int z')) vm h locs) : Go p e s below K N (Hd Z ms) Q T (mkF m pc Ls (.int z :: rest)) := by
  obtain ⟨vm, k, rfl, hS, hk⟩ := B
  subst eT hz
  obtain ⟨fs, hr, hrun, hended, hW⟩ := X.leaveW hS hk (v := some (.int (nar t z))) (fun q => by rw [hret] at q; cases q) hlk
  exact ⟨_, _, Jvm.RoadKit.retN X hx hret ht hd hr, hrun, hended, _, _, rfl, hQ _ X.warmed, J.warm X.warmed, rend_mono hW hK hN⟩
theorem Go.retA (X : Stand p l e R b m args below meth c T locs cells slots) (hx : p.tables.exec = Jvm.exec) (hlk : meth.locks = false) (B : Bs s b h) (J : Hd Z ms b.vm h) (eT : T.heap = h) {pc : Nat} {Ls : Array Slot} {w : Value} {t : FieldType} {rest : List Value} (hret : meth.sig.returnType = some t) (ht : t.isReference = true) (hw : w.isRef = true) (hd : decode c.code pc = .ok (.areturn, 1)) (hK : cells ≤ K) (hN : slots ≤ N)
    (hQ : ∀ vm, b.WarmedH vm → Q (some w) vm h locs) : Go p e s below K N (Hd Z ms) Q T (mkF m pc Ls (w :: rest)) := by
  obtain ⟨vm, k, rfl, hS, hk⟩ := B
  subst eT
  obtain ⟨fs, hr, hrun, hended, hW⟩ := X.leaveW hS hk (v := some w) (fun q => by rw [hret] at q; cases q) hlk
  have hn : narrow t w = w := by
    cases t <;> first | (cases ht; done) | (cases w <;> first | rfl | (cases hw; done))
  exact ⟨_, _, retOut X hx hret hn (Or.inr (Or.inr (Or.inr (Or.inr ⟨rfl, ht, hw⟩)))) hd hr, hrun, hended, _, _, rfl, hQ _ X.warmed, J.warm X.warmed, rend_mono hW hK hN⟩
theorem Go.retV (X : Stand p l e R b m args below meth c T locs cells slots) (hx : p.tables.exec = Jvm.exec) (hlk : meth.locks = false) (B : Bs s b h) (J : Hd Z ms b.vm h) (eT : T.heap = h) {pc : Nat} {Ls : Array Slot} (hret : meth.sig.returnType = none) (hd : decode c.code pc = .ok (.return_, 1)) (hK : cells ≤ K) (hN : slots ≤ N)
    (hQ : ∀ vm, b.WarmedH vm → Q none vm h locs) : Go p e s below K N (Hd Z ms) Q T (mkF m pc Ls []) := by
  obtain ⟨vm, k, rfl, hS, hk⟩ := B
  subst eT
  obtain ⟨fs, hr, hrun, hended, hW⟩ := X.leaveW hS hk (v := none) (fun _ => rfl) hlk
  exact ⟨_, _, X.returnOut hx hret hd hr, hrun, hended, _, _, rfl, hQ _ X.warmed, J.warm X.warmed, rend_mono hW hK hN⟩
/-- a body's contract in this family -/
def Con (l : Launch) (Z : State) (ms : List Addr) (y : MethodName) (bytes : ByteArray) (maxL : Nat) (ret : Option FieldType) (ws : List Jvm.Cond) (rm : Room) (as' : Array Value) (h : Heap) (Q : Option Value → Vm → Heap → List Loc → Prop) : Prop :=
  MetFree l y (head1 (Jvm.Cond.code y bytes maxL ret :: ws) rm) (fun a U => a = as' ∧ Z.Warmed39 U.vm ∧ U.heap = h ∧ Hd Z ms U.vm U.heap) (fun _ _ _ _ _ => True) (fun _ U o U' => ∃ v L, o = .returned v ∧ Q v U'.vm U'.heap L ∧ Hd Z ms U'.vm U'.heap ∧ ReturnedEndW U o U' L rm.cells rm.slots)
/-- what a walk knows of the body that it walks -/
def Cx (Z : State) (p : Program) (b : State) (m : MethodId) (meth : Method) (c : Code) (own : String) (bytes : ByteArray) (ml : Nat) (nm : String) (rt : Option FieldType) : Prop :=
  p.tables.exec = Jvm.exec ∧ Z.Warmed39 b.vm ∧ b.vm.findClass own = some m.cls ∧ c.code = bytes ∧ c.maxLocals = ml ∧ meth.name = nm ∧ meth.sig.returnType = rt ∧ meth.locks = false
theorem Con.mk {y : MethodName} {bytes : ByteArray} {maxL : Nat} {ret : Option FieldType} {ws : List Jvm.Cond} {rm : Room} {as' : Array Value} (hp : plainFor y = true)
    (body : ∀ p e s m below meth c s₁, Cx Z p s m meth c y.cls bytes maxL y.name ret → Stand p l e rm s m as' below meth c s₁ [] 0 0 → s₁.heap = h → s.heap = h → Hd Z ms s.vm h → Bs s s h → s.methodNamed? y = some m → Go p e s below rm.cells rm.slots (Hd Z ms) Q s₁ (entryFrame m as' maxL)) : Con l Z ms y bytes maxL ret ws rm as' h Q := by
  refine MetFree.of_bodySF hp hisR ?_
  intro p e s m args below meth c s₁ Bd hml0 hP hK
  obtain ⟨rfl, hZ, hh, hJ⟩ := hP
  exact body p e s m below meth c s₁ ⟨Bd.exec, hZ, findClass_of_methodNamed Bd.named, Bd.bytes, hml0, (name_of_methodNamed Bd.named Bd.method).1, Bd.returns, Bd.notSynchronized⟩ (Stand.of_body Bd) (by rw [← hh, Bd.state]; rfl) hh (hh ▸ hJ) (Bs.start s h) Bd.named
section Calls
variable {y : MethodName} {bytes mybytes : ByteArray} {maxL ml : Nat} {ret rt : Option FieldType} {rm : Room} {own nm : String} {index W : Nat} {argsL rest : List Value} {Q' : Option Value → Vm → Heap → List Loc → Prop}
/-- two roads meet again behind calls that leave the heap as it was -/
theorem Go.joinC {Jq : Vm → Heap → Prop} {α : Type} {n : Nat} (Cc : Cx Z p b m meth c own mybytes ml nm rt) (X : Stand p l e R b m args below meth c T locs cells slots) (hJ : Hd Z ms b.vm h) (hN : Fr n locs) (P : α → Prop) (f : α → JFrame)
    (A : ∀ x b' T' locs', Cx Z p b' m meth c own mybytes ml nm rt → Stand p l e R b' m args below meth c T' locs' cells slots → T'.heap = h → Bs s b' h → Hd Z ms b'.vm h → Fr n locs' → P x → Go p e s below K N Jq Q T' (f x))
    (C : (∀ x b' T' locs', Cx Z p b' m meth c own mybytes ml nm rt → Stand p l e R b' m args below meth c T' locs' cells slots → T'.heap = h → Bs s b' h → Hd Z ms b'.vm h → Fr n locs' → P x → Go p e s below K N Jq Q T' (f x)) → Go p e s below K N Jq Q T g) : Go p e s below K N Jq Q T g := C A
/-- what a call leaves: the tables at hand may be others -/
def Called (Z : State) (ms : List Addr) (p : Program) (l : Launch) (e : Env) (R : Room) (s : State) (m : MethodId) (args : Array Value) (below : List Frame) (meth : Method) (c : Code) (own : String) (mybytes : ByteArray) (ml : Nat) (nm : String) (rt : Option FieldType) (locs : List Loc) (cells slots : Nat) (h : Heap) (Q' : Option Value → Vm → Heap → List Loc → Prop) (T : State) (g : JFrame) (len : Nat) (rest : List Value) : Prop :=
  ∃ v b' T' h' L, T'.heap = h' ∧ Cx Z p b' m meth c own mybytes ml nm rt ∧ Stand p l e R b' m args below meth c T' (locs ++ L) cells slots ∧ Bs s b' h' ∧ Hd Z ms b'.vm h' ∧ h.size ≤ h'.size ∧ Q' v b'.vm h' L ∧ ∀ t, Steps p.tables e below (T'.setTop { g with pc := g.pc + len, stack := v.toList ++ rest }) t → Steps p.tables e below (T.setTop g) t
theorem own_back {as' : Array Value} {len : Nat} (hM : Con l Z ms y bytes maxL ret [] rm as' h Q') (hZ : Z.Warmed39 b.vm) (J : Hd Z ms b.vm h) (wc : (Jvm.Cond.code y bytes maxL ret).before a0 Z = true) (wz : (Jvm.Cond.initialized y.cls).before a0 Z = true) (hf : rm.frames + 1 ≤ R.frames) (hl : W + (maxL + 11) + rm.locals ≤ R.locals) :
    BackS l R p e below b args y len W (fun A a => a = as' ∧ A.U.heap = h ∧ A.cells + rm.cells ≤ R.cells ∧ A.slots + rm.slots ≤ R.slots)
      (fun A _ v B => ∃ L, (Q' v B.U.vm B.U.heap L ∧ Hd Z ms B.U.vm B.U.heap) ∧ B.locs = A.locs ++ L ∧ B.cells = A.cells + rm.cells ∧ B.slots = A.slots + rm.slots) :=
  BackS.of_freeW (bytes := bytes) (maxL := maxL) (ret := ret) (E := fun _ _ o t L k n => k = rm.cells ∧ n = rm.slots ∧ ∃ v, o = .returned v ∧ Q' v t.vm t.heap L ∧ Hd Z ms t.vm t.heap) hM hf hl
    (fun m meth c A a Y hp => have hU : Z.Warmed39 A.U.vm := wtrans hZ Y.warmed
      ⟨by show (Jvm.Cond.and _ .tt).before a A.U = true; rw [Cond.before_and, mv hU wc]; rfl, mv hU wc, mv hU wz, hp.2.2.1, hp.2.2.2⟩)
    (fun m meth c A a g mk Y hp => ⟨hp.1, wtrans hZ Y.warmed, hp.2.1, by show Hd Z ms A.U.vm A.U.heap; rw [hp.2.1]; exact J.warm Y.warmed⟩) (fun _ _ _ _ _ _ _ _ _ => trivial)
    (fun _ _ _ _ ⟨v, L, h1, h2, h3, h4⟩ => ⟨L, _, _, h4, rfl, rfl, v, h1, h2, h3⟩)
    (fun m meth c A a g mk v t L k n Y hp _ _ ⟨e1, e2, v', e3, e4, e5⟩ => by cases e3; subst e1 e2; exact ⟨L, ⟨e4, e5⟩, rfl, rfl, rfl⟩)
theorem own_done {len : Nat} {v : Option Value} {B : Pt} (Cc : Cx Z p b m meth c own mybytes ml nm rt) (hB : Bs s b h) (eT : T.heap = h) (X1 : Stand p l e R (b.setVm B.U.vm) m args below meth c B.U B.locs B.cells B.slots) (hS : b.Since B.U.vm B.U.heap.size) (hg : T.heap.size ≤ B.U.heap.size)
    (hq : ∃ L, (Q' v B.U.vm B.U.heap L ∧ Hd Z ms B.U.vm B.U.heap) ∧ B.locs = locs ++ L ∧ B.cells = cells + rm.cells ∧ B.slots = slots + rm.slots) (st : ∀ t, Steps p.tables e below (B.U.setTop { g with pc := g.pc + len, stack := v.toList ++ rest }) t → Steps p.tables e below (T.setTop g) t) :
    Called Z ms p l e R s m args below meth c own mybytes ml nm rt locs (cells + rm.cells) (slots + rm.slots) h Q' T g len rest := by
  obtain ⟨T1, L1, k1, n1⟩ := B
  obtain ⟨Lc, ⟨hQ, hJ⟩, l1, y1, z1⟩ := hq
  dsimp only [Pt.U, Pt.locs, Pt.cells, Pt.slots] at X1 l1 y1 z1 st hQ hJ hS hg
  subst l1 y1 z1
  obtain ⟨vm, k, rfl, hS0, hk⟩ := hB
  obtain ⟨hx, hZ, hown, r⟩ := Cc
  exact ⟨v, (s.setVm vm).setVm T1.vm, T1, _, Lc, rfl, ⟨hx, State.Warmed39.trans hZ hS.1, (hS.1.alike.findClass _ _).trans hown, r⟩, X1, ⟨T1.vm, T1.heap.size, rfl, hS0.trans hS (Nat.le_trans hk (eT ▸ hg)), Nat.le_refl _⟩, hJ, eT ▸ hg, hQ, st⟩
theorem own_callS (Cc : Cx Z p b m meth c own mybytes ml nm rt) (hB : Bs s b h) (J : Hd Z ms b.vm h) (X : Stand p l e R b m args below meth c T locs cells slots)
    (wl : (Jvm.Cond.methodLink own index y).before a0 Z = true) (wst : (Jvm.Cond.static y).before a0 Z = true) (wi : (Jvm.Cond.initialized y.cls).before a0 Z = true) (wc : (Jvm.Cond.code y bytes maxL ret).before a0 Z = true) (hy : y.cls ≠ "java/lang/invoke/MethodHandle" ∧ y.cls ≠ "java/lang/invoke/VarHandle")
    (hM : Con l Z ms y bytes maxL ret [] rm argsL.toArray h Q') (eT : T.heap = h) (hg : g.method = m) (hsize : g.locals.size = c.maxLocals) (hlen : ∀ sig, parseMethodDescriptor y.desc = some sig → argsL.length = sig.parameters.length) (hstack : g.stack = argsL.reverse ++ rest)
    (hW : 2 * g.monitorRoom + (rest.map fun v => v.category).sum ≤ W) (hdg : decode c.code g.pc = .ok (.invokestatic index, 3)) (hf : rm.frames + 1 ≤ R.frames) (hl : W + (maxL + 11) + rm.locals ≤ R.locals) (hc : cells + rm.cells ≤ R.cells) (hs : slots + rm.slots ≤ R.slots) :
    Called Z ms p l e R s m args below meth c own mybytes ml nm rt locs (cells + rm.cells) (slots + rm.slots) h Q' T g 3 rest := by
  obtain ⟨hx, hZ, hown, -⟩ := id Cc
  obtain ⟨v, _, B, -, X1, hS, hgr, hq, st⟩ := callSS X hx (y := y) hown (mvT hZ wl) (mvT hZ wst) (mvT hZ wi) (mvT hZ wc) hy (own_back (W := W) hM hZ J wc wi hf hl) hg hsize (argsL := argsL) (rest := rest) hlen hstack hW hdg (fun _ _ => ⟨rfl, eT, hc, hs⟩)
  exact own_done Cc hB eT X1 hS hgr hq (fun _ hr => st.trans hr)
theorem own_callI (Cc : Cx Z p b m meth c own mybytes ml nm rt) (hB : Bs s b h) (J : Hd Z ms b.vm h) (X : Stand p l e R b m args below meth c T locs cells slots) (hin : y.name = "<init>")
    (wl : (Jvm.Cond.methodLink own index y).before a0 Z = true) (wim : (Jvm.Cond.instanceMethod y).before a0 Z = true) (wi : (Jvm.Cond.initialized y.cls).before a0 Z = true) (wc : (Jvm.Cond.code y bytes maxL none).before a0 Z = true) (hy : y.cls ≠ "java/lang/invoke/MethodHandle" ∧ y.cls ≠ "java/lang/invoke/VarHandle")
    {a : Addr} (hM : Con l Z ms y bytes maxL none [] rm (Value.ref a :: argsL).toArray h Q') (eT : T.heap = h) (hg : g.method = m) (hsize : g.locals.size = c.maxLocals) (hlen : ∀ sig, parseMethodDescriptor y.desc = some sig → argsL.length = sig.parameters.length) (hstack : g.stack = argsL.reverse ++ .ref a :: rest)
    (hW : 2 * g.monitorRoom + (rest.map fun v => v.category).sum ≤ W) (hdg : decode c.code g.pc = .ok (.invokespecial index, 3)) (hf : rm.frames + 1 ≤ R.frames) (hl : W + (maxL + 11) + rm.locals ≤ R.locals) (hc : cells + rm.cells ≤ R.cells) (hs : slots + rm.slots ≤ R.slots) :
    Called Z ms p l e R s m args below meth c own mybytes ml nm rt locs (cells + rm.cells) (slots + rm.slots) h Q' T g 3 rest := by
  obtain ⟨hx, hZ, hown, -⟩ := id Cc
  obtain ⟨v, _, B, -, X1, hS, hgr, hq, st⟩ := X.specialBackS hx (y := y) hin hown (mvT hZ wl) (mvT hZ wim) (mvT hZ wc) hy (own_back (W := W) hM hZ J wc wi hf hl) hg hsize (Steps.refl _) (a := a) (argsL := argsL) (rest := rest) hlen hstack hW hdg (fun _ _ => ⟨rfl, eT, hc, hs⟩)
  exact own_done Cc hB eT X1 hS hgr hq (fun _ hr => st.trans hr)
theorem own_callV (Cc : Cx Z p b m meth c own mybytes ml nm rt) (hB : Bs s b h) (J : Hd Z ms b.vm h) (X : Stand p l e R b m args below meth c T locs cells slots) {z : MethodName} {C : String}
    (wl : (Jvm.Cond.methodLink own index y).before a0 Z = true) (wd : (Jvm.Cond.declares y).before a0 Z = true) (nf : NotFace b y) (wsel : (Jvm.Cond.selects C y z).before a0 Z = true) (wim : (Jvm.Cond.instanceMethod z).before a0 Z = true) (wi : (Jvm.Cond.initialized z.cls).before a0 Z = true) (wc : (Jvm.Cond.code z bytes maxL ret).before a0 Z = true) (hy : y.cls ≠ "java/lang/invoke/MethodHandle" ∧ y.cls ≠ "java/lang/invoke/VarHandle")
    {a : Addr} (E : Exa Z h a C) (hM : Con l Z ms z bytes maxL ret [] rm (Value.ref a :: argsL).toArray h Q') (eT : T.heap = h) (hg : g.method = m) (hsize : g.locals.size = c.maxLocals) (hlen : ∀ sig, parseMethodDescriptor y.desc = some sig → argsL.length = sig.parameters.length) (hstack : g.stack = argsL.reverse ++ .ref a :: rest)
    (hW : 2 * g.monitorRoom + (rest.map fun v => v.category).sum ≤ W) (hdg : decode c.code g.pc = .ok (.invokevirtual index, 3)) (hf : rm.frames + 1 ≤ R.frames) (hl : W + (maxL + 11) + rm.locals ≤ R.locals) (hc : cells + rm.cells ≤ R.cells) (hs : slots + rm.slots ≤ R.slots) :
    Called Z ms p l e R s m args below meth c own mybytes ml nm rt locs (cells + rm.cells) (slots + rm.slots) h Q' T g 3 rest := by
  obtain ⟨hx, hZ, hown, -⟩ := id Cc
  obtain ⟨cq, kq, qa, qb, qc⟩ := isOf hZ eT E
  obtain ⟨v, _, B, -, X1, hS, hgr, hq, st⟩ := X.virtualBackS hx (y := y) (z := z) hown (mvT hZ wl) (mvT hZ wd) nf (mvT hZ wsel) (mvT hZ wim) hy (own_back (W := W) hM hZ J wc wi hf hl) qa qc hg hsize (Steps.refl _) (argsL := argsL) (rest := rest) hlen hstack hW hdg (fun _ _ => ⟨rfl, eT, hc, hs⟩)
  exact own_done Cc hB eT X1 hS hgr hq (fun _ hr => st.trans hr)
/-- an inherited method, by the class that the entry names -/
theorem own_callU (Cc : Cx Z p b m meth c own mybytes ml nm rt) (hB : Bs s b h) (J : Hd Z ms b.vm h) (X : Stand p l e R b m args below meth c T locs cells slots) {z : MethodName} {C owner : String}
    (wl : (Jvm.Cond.methodLink own index y).before a0 Z = true) (wsm : (Jvm.Cond.sameMethod y.cls owner y.name y.desc).before a0 Z = true) (wd : (Jvm.Cond.declares ⟨owner, y.name, y.desc⟩).before a0 Z = true) (wsel : (Jvm.Cond.selects C y z).before a0 Z = true) (wim : (Jvm.Cond.instanceMethod z).before a0 Z = true) (wi : (Jvm.Cond.initialized z.cls).before a0 Z = true) (wc : (Jvm.Cond.code z bytes maxL ret).before a0 Z = true) (ho : owner ≠ "java/lang/invoke/MethodHandle" ∧ owner ≠ "java/lang/invoke/VarHandle")
    {a : Addr} (E : Exa Z h a C) (hM : Con l Z ms z bytes maxL ret [] rm (Value.ref a :: argsL).toArray h Q') (eT : T.heap = h) (hg : g.method = m) (hsize : g.locals.size = c.maxLocals) (hlen : ∀ sig, parseMethodDescriptor y.desc = some sig → argsL.length = sig.parameters.length) (hstack : g.stack = argsL.reverse ++ .ref a :: rest)
    (hW : 2 * g.monitorRoom + (rest.map fun v => v.category).sum ≤ W) (hdg : decode c.code g.pc = .ok (.invokevirtual index, 3)) (hf : rm.frames + 1 ≤ R.frames) (hl : W + (maxL + 11) + rm.locals ≤ R.locals) (hc : cells + rm.cells ≤ R.cells) (hs : slots + rm.slots ≤ R.slots) :
    Called Z ms p l e R s m args below meth c own mybytes ml nm rt locs (cells + rm.cells) (slots + rm.slots) h Q' T g 3 rest := by
  obtain ⟨hx, hZ, hown, -⟩ := id Cc
  obtain ⟨cq, kq, qa, qb, qc⟩ := isOf hZ eT E
  obtain ⟨v, _, B, -, X1, hS, hgr, hq, st⟩ := X.virtualBackUpS hx (x := y) (y := z) hown (mvT hZ wl) (mvT hZ wsm) (mvT hZ wd) ho (mvT hZ wsel) (mvT hZ wim) (own_back (W := W) hM hZ J wc wi hf hl) qa qc hg hsize (Steps.refl _) (argsL := argsL) (rest := rest) hlen hstack hW hdg (fun _ _ => ⟨rfl, eT, hc, hs⟩)
  exact own_done Cc hB eT X1 hS hgr hq (fun _ hr => st.trans hr)
/-- through an interface -/
theorem own_callF (Cc : Cx Z p b m meth c own mybytes ml nm rt) (hB : Bs s b h) (J : Hd Z ms b.vm h) (X : Stand p l e R b m args below meth c T locs cells slots) {z : MethodName} {C : String} {count : Nat}
    (wl : (Jvm.Cond.methodLink own index y).before a0 Z = true) (wd : (Jvm.Cond.declares y).before a0 Z = true) (wfc : (Jvm.Cond.interfaceMethod y.cls y.cls y.name y.desc).before a0 Z = true) (hfc : ((Jvm.Cond.interfaceMethod y.cls y.cls y.name y.desc).onTables && (Jvm.Cond.interfaceMethod y.cls y.cls y.name y.desc).keepsFace) = true) (wsel : (Jvm.Cond.selects C y z).before a0 Z = true) (wim : (Jvm.Cond.instanceMethod z).before a0 Z = true) (wpb : (Jvm.Cond.publicMethod z).before a0 Z = true) (wun : (Jvm.Cond.unhidden C y.name y.desc).before a0 Z = true) (wca : (Jvm.Cond.castable C y.cls).before a0 Z = true)
    (wi : (Jvm.Cond.initialized z.cls).before a0 Z = true) (wc : (Jvm.Cond.code z bytes maxL ret).before a0 Z = true) (hy : y.cls ≠ "java/lang/invoke/MethodHandle" ∧ y.cls ≠ "java/lang/invoke/VarHandle")
    {a : Addr} (E : Exa Z h a C) (hM : Con l Z ms z bytes maxL ret [] rm (Value.ref a :: argsL).toArray h Q') (eT : T.heap = h) (hg : g.method = m) (hsize : g.locals.size = c.maxLocals) (hlen : ∀ sig, parseMethodDescriptor y.desc = some sig → argsL.length = sig.parameters.length) (hstack : g.stack = argsL.reverse ++ .ref a :: rest)
    (hW : 2 * g.monitorRoom + (rest.map fun v => v.category).sum ≤ W) (hdg : decode c.code g.pc = .ok (.invokeinterface index count, 5)) (hf : rm.frames + 1 ≤ R.frames) (hl : W + (maxL + 11) + rm.locals ≤ R.locals) (hc : cells + rm.cells ≤ R.cells) (hs : slots + rm.slots ≤ R.slots) :
    Called Z ms p l e R s m args below meth c own mybytes ml nm rt locs (cells + rm.cells) (slots + rm.slots) h Q' T g 5 rest := by
  obtain ⟨hx, hZ, hown, -⟩ := id Cc
  obtain ⟨cq, kq, qa, qb, qc⟩ := isOf hZ eT E
  obtain ⟨v, _, B, -, X1, hS, hgr, hq, st⟩ := X.interfaceBackS hx (xi := y) (y := z) hown (mvT hZ wl) (mvT hZ wd) (mvT hZ wfc hfc) (mvT hZ wsel) (mvT hZ wim) (mvT hZ wpb) (mvT hZ wun) (mvT hZ wca) hy (own_back (W := W) hM hZ J wc wi hf hl) qa qb qc hg hsize (Steps.refl _) (argsL := argsL) (rest := rest) hlen hstack hW hdg (fun _ _ => ⟨rfl, eT, hc, hs⟩)
  exact own_done Cc hB eT X1 hS hgr hq (fun _ hr => st.trans hr)
/-- super.m() -/
theorem own_callP (Cc : Cx Z p b m meth c own mybytes ml nm rt) (hB : Bs s b h) (J : Hd Z ms b.vm h) (X : Stand p l e R b m args below meth c T locs cells slots) {C : String}
    (wl : (Jvm.Cond.methodLink own index y).before a0 Z = true) (wsm : (Jvm.Cond.sameMethod y.cls y.cls y.name y.desc).before a0 Z = true) (wim : (Jvm.Cond.instanceMethod y).before a0 Z = true) (wsu : (Jvm.Cond.superclass own y.cls).before a0 Z = true) (hn : y.name ≠ "<init>") (wi : (Jvm.Cond.initialized y.cls).before a0 Z = true) (wc : (Jvm.Cond.code y bytes maxL ret).before a0 Z = true)
    {a : Addr} (E : Exa Z h a C) (hM : Con l Z ms y bytes maxL ret [] rm (Value.ref a :: argsL).toArray h Q') (eT : T.heap = h) (hg : g.method = m) (hsize : g.locals.size = c.maxLocals) (hlen : ∀ sig, parseMethodDescriptor y.desc = some sig → argsL.length = sig.parameters.length) (hstack : g.stack = argsL.reverse ++ .ref a :: rest)
    (hW : 2 * g.monitorRoom + (rest.map fun v => v.category).sum ≤ W) (hdg : decode c.code g.pc = .ok (.invokespecial index, 3)) (hf : rm.frames + 1 ≤ R.frames) (hl : W + (maxL + 11) + rm.locals ≤ R.locals) (hc : cells + rm.cells ≤ R.cells) (hs : slots + rm.slots ≤ R.slots) :
    Called Z ms p l e R s m args below meth c own mybytes ml nm rt locs (cells + rm.cells) (slots + rm.slots) h Q' T g 3 rest := by
  obtain ⟨hx, hZ, hown, -⟩ := id Cc
  obtain ⟨v, _, B, -, X1, hS, hgr, hq, st⟩ := superBackS X hx hZ (y := y) hown wl wsm wim wsu hn (own_back (W := W) hM hZ J wc wi hf hl) eT (Ins.self E) hg hsize wc (argsL := argsL) (rest := rest) hlen hstack hW hdg (fun _ _ => ⟨rfl, eT, hc, hs⟩)
  exact own_done Cc hB eT X1 hS hgr hq (fun _ hr => st.trans hr)
/-- a private method -/
theorem own_callR (Cc : Cx Z p b m meth c own mybytes ml nm rt) (hB : Bs s b h) (J : Hd Z ms b.vm h) (X : Stand p l e R b m args below meth c T locs cells slots) {C : String}
    (wl : (Jvm.Cond.methodLink own index y).before a0 Z = true) (wim : (Jvm.Cond.instanceMethod y).before a0 Z = true) (wsel : (Jvm.Cond.selects y.cls y y).before a0 Z = true) (wpr : (Jvm.Cond.privateMethod y).before a0 Z = true) (wi : (Jvm.Cond.initialized y.cls).before a0 Z = true) (wc : (Jvm.Cond.code y bytes maxL ret).before a0 Z = true) (hy : y.cls ≠ "java/lang/invoke/MethodHandle" ∧ y.cls ≠ "java/lang/invoke/VarHandle")
    {a : Addr} (E : Exa Z h a C) (hM : Con l Z ms y bytes maxL ret [] rm (Value.ref a :: argsL).toArray h Q') (eT : T.heap = h) (hg : g.method = m) (hsize : g.locals.size = c.maxLocals) (hlen : ∀ sig, parseMethodDescriptor y.desc = some sig → argsL.length = sig.parameters.length) (hstack : g.stack = argsL.reverse ++ .ref a :: rest)
    (hW : 2 * g.monitorRoom + (rest.map fun v => v.category).sum ≤ W) (hdg : decode c.code g.pc = .ok (.invokevirtual index, 3)) (hf : rm.frames + 1 ≤ R.frames) (hl : W + (maxL + 11) + rm.locals ≤ R.locals) (hc : cells + rm.cells ≤ R.cells) (hs : slots + rm.slots ≤ R.slots) :
    Called Z ms p l e R s m args below meth c own mybytes ml nm rt locs (cells + rm.cells) (slots + rm.slots) h Q' T g 3 rest := by
  obtain ⟨hx, hZ, hown, -⟩ := id Cc
  obtain ⟨cl, q1, q2⟩ := E.cell
  obtain ⟨v, _, B, -, X1, hS, hgr, hq, st⟩ := X.privateBackS hx (y := y) hown (mvT hZ wl) (mvT hZ wim) (mvT hZ wsel) (Cond.privateMethod_at (mvP hZ wpr (args := #[]))) (mvT hZ wc) hy (own_back (W := W) hM hZ J wc wi hf hl) hg hsize (Steps.refl _) (a := a) (by rw [eT]; exact q1) q2 (argsL := argsL) (rest := rest) hlen hstack hW hdg (fun _ _ => ⟨rfl, eT, hc, hs⟩)
  exact own_done Cc hB eT X1 hS hgr hq (fun _ hr => st.trans hr)
/-- a nest-mate's constructor -/
theorem own_callN (Cc : Cx Z p b m meth c own mybytes ml nm rt) (hB : Bs s b h) (J : Hd Z ms b.vm h) (X : Stand p l e R b m args below meth c T locs cells slots) (hin : y.name = "<init>") {host : String}
    (wl : (Jvm.Cond.methodLinkNest own index y host).before a0 Z = true) (wim : (Jvm.Cond.instanceMethod y).before a0 Z = true) (wi : (Jvm.Cond.initialized y.cls).before a0 Z = true) (wc : (Jvm.Cond.code y bytes maxL none).before a0 Z = true) (hy : y.cls ≠ "java/lang/invoke/MethodHandle" ∧ y.cls ≠ "java/lang/invoke/VarHandle")
    {a : Addr} (hM : Con l Z ms y bytes maxL none [] rm (Value.ref a :: argsL).toArray h Q') (eT : T.heap = h) (hg : g.method = m) (hsize : g.locals.size = c.maxLocals) (hlen : ∀ sig, parseMethodDescriptor y.desc = some sig → argsL.length = sig.parameters.length) (hstack : g.stack = argsL.reverse ++ .ref a :: rest)
    (hW : 2 * g.monitorRoom + (rest.map fun v => v.category).sum ≤ W) (hdg : decode c.code g.pc = .ok (.invokespecial index, 3)) (hf : rm.frames + 1 ≤ R.frames) (hl : W + (maxL + 11) + rm.locals ≤ R.locals) (hc : cells + rm.cells ≤ R.cells) (hs : slots + rm.slots ≤ R.slots) :
    Called Z ms p l e R s m args below meth c own mybytes ml nm rt locs (cells + rm.cells) (slots + rm.slots) h Q' T g 3 rest := by
  obtain ⟨hx, hZ, hown, -⟩ := id Cc
  have wl' : (Jvm.Cond.methodLinkNest own index y host).before args b = true := (Cond.methodLinkNest_wide hZ wl :)
  obtain ⟨v, _, B, -, X1, hS, hgr, hq, st⟩ := X.specialBackNestS hx (y := y) hin hown wl' (mvT hZ wim) (mvT hZ wc) hy (own_back (W := W) hM hZ J wc wi hf hl) hg hsize (Steps.refl _) (a := a) (argsL := argsL) (rest := rest) hlen hstack hW hdg (fun _ _ => ⟨rfl, eT, hc, hs⟩)
  exact own_done Cc hB eT X1 hS hgr hq (fun _ hr => st.trans hr)
end Calls
theorem own_nf {s : State} {args : Array Value} {C : String} {y z : MethodName} (hsel : (Jvm.Cond.selects C z z).before args s = true) (hc : z.cls = y.cls) : NotFace s y := fun r0 h0 => by
  obtain ⟨c2, r2, m2, -, -, q3, -⟩ := Cond.selects_spec hsel
  obtain ⟨kr, k1, k2⟩ := notFace_of_selects hsel m2 q3
  have a := findClass_of_methodNamed h0
  have b := findClass_of_methodNamed q3
  rw [hc] at b
  have e : r0.cls = m2.cls := Option.some.inj (a.symm.trans b)
  exact ⟨kr, by rw [e]; exact k1, k2⟩
theorem own_sm {y : MethodName} (wim : (Jvm.Cond.instanceMethod y).before a0 Z = true) (nf : NotFace Z y) (hy : y.cls ≠ "java/lang/invoke/MethodHandle" ∧ y.cls ≠ "java/lang/invoke/VarHandle") : (Jvm.Cond.sameMethod y.cls y.cls y.name y.desc).before a0 Z = true := by
  obtain ⟨mk, methM, hnamed, -⟩ := Cond.instanceMethod_spec wim
  obtain ⟨kr, k1, k2⟩ := nf _ hnamed
  have hf := State.methodFound?_of_named hnamed hy
  have hc := findClass_of_methodNamed hnamed
  have hn' : Z.methodNamed? ⟨y.cls, y.name, y.desc⟩ = some mk := hnamed
  simp [Cond.before, Cond.holds, Cond.value, hc, hf, hn', k1, k2]
theorem own_decl {y : MethodName} {bytes : ByteArray} {maxL : Nat} {ret : Option FieldType} (wim : (Jvm.Cond.instanceMethod y).before a0 Z = true) (wc : (Jvm.Cond.code y bytes maxL ret).before a0 Z = true) : (Jvm.Cond.declares y).before a0 Z = true := by
  obtain ⟨mk, methM, hnamed, hmethM, hst, -⟩ := Cond.instanceMethod_spec wim
  obtain ⟨m2, cM, q1, -, -, -, -, -, -, hsig⟩ := Cond.code_spec hnamed wc
  cases hmethM.symm.trans q1
  simp [Cond.before, Cond.holds, Cond.value, hnamed, hmethM, hst, hsig]
theorem keep_ext (q : Keep h h' []) : Ext h h' := ⟨q.1, fun a c r => q.2.1 a c r (fun z => nomatch z)⟩
theorem ext_keep (q : Ext h h') : Keep h h' [] := (Keep.refl h []).ext q
theorem own_ole {n0 : Nat} (O : Old Z n0 h) : n0 ≤ h.size := O.1 ▸ O.2.1
/-- an equation of the case's words -/
theorem own_eqI {t : Term} {n : Int32} (q : (Jvm.Cond.eq t (.int n)).value args s none s [] = some true) : t.eval args s none [] s = some (.int n) := by
  cases ha : t.eval args s none [] s with
  | none => simp [Cond.value, ha] at q
  | some x => cases x <;> simp [Cond.value, Term.eval, ha] at q ⊢; exact q
theorem own_sub1 {z : Addr} {ms L : List Addr} (q : z ∈ L) (r : ∀ x ∈ ms, x ∈ L) : ∀ x ∈ z :: ms, x ∈ L := fun x hx => (List.mem_cons.mp hx).elim (fun e => by rw [e]; exact q) (r x)
end OwnKit

section OwnLdc
variable {p : Program} {l : Launch} {e : Env} {R : Room} {s b : State} {m : MethodId} {args : Array Value} {below : List Frame} {meth : Method} {c : Code} {T : State} {locs : List Loc} {cells slots : Nat} {Z : State} {a0 : Array Value} {h : Heap} {ms : List Addr} {own nm text : String} {mybytes : ByteArray} {ml index n : Nat} {rt : Option FieldType} {g : JFrame}
/-- a constant that is booked at T', and whose address is older than this load, was held at the start -/
theorem own_heldZ {T' : State} {vm0 : Vm} {Ts : List String} {a : Addr} (hW : Z.Warmed39 T'.vm) (w : (Jvm.Cond.stringLink own index text).before a0 Z = true) (I : IB Z vm0 Ts) (hnot : text ∉ Ts) (lit : Lit T' own index a) (hHZ : ConstHeldL Z own index) {cO : ClassId} (hcO : Z.vm.findClass own = some cO)
    (hint : T'.vm.interned = vm0.interned ∨ ∃ (u : Array UInt16) (a' : Addr), T'.vm.interned = vm0.interned.push (u, a') ∧ a ≠ a') : ∃ units, SlOf Z a units := by
  obtain ⟨k, cf, i, units, hk, hcf, hp, hu, hnm, htext, -⟩ := Cond.stringLink_spec hcO w
  obtain ⟨k', hk', hke, -, ee, -⟩ := hW.2.2.2 cO k hk
  have hl : k'.resolved[index]? = some (some (.string a)) := by
    have q : T'.resolvedAt? own index = some (.string a) := lit
    have f : T'.vm.findClass own = some cO := by rw [hW.alike.findClass]; exact hcO
    simp only [State.resolvedAt?, f, hk', Option.bind_eq_bind, Option.bind_some] at q
    cases hr : k'.resolved[index]? with
    | none => simp [hr] at q
    | some y => cases y <;> simp [hr] at q; rw [q]
  have hfind : vm0.interned.find? (fun p => p.1 == units) = some (units, a) → Z.vm.interned.find? (fun p => p.1 == units) = some (units, a) := fun hf => by
    obtain ⟨more, e, hm⟩ := I
    rw [e, Array.find?_append] at hf
    cases hs : Z.vm.interned.find? (fun p => p.1 == units) with
    | some pr => rw [hs] at hf; simpa using hf
    | none =>
      rw [hs, Option.none_or] at hf
      obtain ⟨t, ht, hd⟩ := hm _ (Array.mem_of_find?_eq_some hf)
      cases htext.symm.trans hd
      exact absurd ht hnot
  rcases ee index with e0 | ⟨hop, r, e1, hr | ⟨a3, t, si, us, rfl, -, q3, q4, q5⟩⟩
  · exact ⟨units, hHZ cO k cf i units a hcO hk hcf hp hu (Or.inl (e0 ▸ hl))⟩
  · exfalso
    cases r <;> simp [State.rightAt, hk, hcf, hnm] at hr
  · rw [hcf] at q3 q4
    obtain rfl : si = i := by have := q3.symm.trans hp; simpa using this
    obtain rfl : us = units := by simpa [ConstantPool.utf8?, hu] using q4.symm
    obtain rfl : a3 = a := by have := e1.symm.trans hl; simpa using this
    refine ⟨us, hHZ cO k cf si us a3 hcO hk hcf hp hu (Or.inr ⟨hop, hfind ?_⟩)⟩
    rcases hint with q | ⟨u, a', q, hne⟩
    · rw [← q]; exact q5
    · rw [q, Array.find?_push] at q5
      cases hs : vm0.interned.find? (fun p => p.1 == us) with
      | some pr => rw [hs] at q5; simpa using q5
      | none =>
        rw [hs, Option.none_or] at q5
        split at q5
        · cases q5; exact absurd rfl hne
        · cases q5
theorem own_ldcV (Cc : Cx Z p b m meth c own mybytes ml nm rt) (hB : Bs s b h) (J : Hd Z ms b.vm h) (X : Stand p l e R b m args below meth c T locs cells slots) (hC : (own, index, text) ∈ litCs) (hD : ∀ q ∈ litCs, q.2.2 = text → q = (own, index, text))
    (w : (Jvm.Cond.stringLink own index text).before a0 Z = true) (wS : ∀ a ∈ Bundle.stringAtoms, a.before a0 Z = true) (hl : ∀ c ∈ text.toList, c.toNat < 256) (hsz : text.toList.length < 2147483648) (N : Fr s.heap.size locs) (hks : Ext Z.heap s.heap)
    (eT : T.heap = h) (hg : g.method = m) (hd : decode c.code g.pc = .ok (.ldc index, 2)) (hn : 4 * text.toList.length ≤ n) (hbig : n ≤ 536870912) (hc : cells + 2 ≤ R.cells) (hl' : slots + (n + 4) ≤ R.slots) :
    ∃ (a t : Addr) (k : ClassId) (b' T' : State) (h' : Heap), T'.heap = h' ∧ Cx Z p b' m meth c own mybytes ml nm rt ∧ Stand p l e R b' m args below meth c T' locs (cells + 2) (slots + (n + 4)) ∧ Bs s b' h' ∧ Hd Z ms b'.vm h' ∧ Ext h h' ∧ Says Z h' a t k text ∧ a ∉ ms ∧ t ∉ ms ∧ Lit b' own index a ∧ ∀ u, Steps p.tables e below (T'.setTop { g with pc := g.pc + 2, stack := .ref a :: g.stack }) u → Steps p.tables e below (T.setTop g) u := by
  obtain ⟨vm0, k0, rfl, hS, hk⟩ := hB
  obtain ⟨hx, hZ, hown, r⟩ := Cc
  obtain ⟨A, E, M, Ts, I, L⟩ := id J
  have hH : Jvm.Lit.constHeld Z own index := A.1 _ hC
  have hcw := A.2 a0
  rcases L _ hC with hnot | ⟨a, t, k, lit, says, n1, n2⟩
  · have wi : (Jvm.Cond.instantiable "java/lang/String" 4).before a0 Z = true := wS _ (by simp [Bundle.stringAtoms, Bundle.sN])
    have wa : (Jvm.Cond.arrayClass .byte).before a0 Z = true := wS _ (by simp [Bundle.stringAtoms])
    have hHZ : ConstHeldL Z own index := heldStart hH w hl hcw wa wi
    obtain ⟨a, T', X', hS', ⟨kk, hkk, hrr⟩, hb, hI1, hint, ⟨units, htext, hin⟩, st⟩ := X.ldcColdF (oldF X N) hx (own := own) hown (mvS hZ w) (fun d hd => by
      have q := wS d hd
      simp only [Bundle.stringAtoms, List.mem_cons, List.not_mem_nil, or_false] at hd
      rcases hd with rfl | rfl | rfl | rfl | rfl | rfl | rfl
      · exact mv (s := s.setVm vm0) hZ q
      · exact mv (s := s.setVm vm0) hZ q
      · exact mvA (s := s.setVm vm0) hZ q
      · exact mv (s := s.setVm vm0) hZ q
      · exact mv (s := s.setVm vm0) hZ q
      · exact mv (s := s.setVm vm0) hZ q
      · exact mv (s := s.setVm vm0) hZ q) (heldCarry hZ w I hnot hks.2 hHZ) (fun u hu => Jvm.ClassFile.lat_of_text hu hl) hg hd hn hbig hc hl'
    subst eT
    have E' := ext_of hb
    have hW : Z.Warmed39 T'.vm := State.Warmed39.trans (t := s.setVm vm0) hZ hS'.1
    have hTi : T.vm.interned = vm0.interned := X.warmed.interned_eq
    obtain ⟨t, k, says, hloc⟩ := slin_says hW.alike hin htext hl hsz
    have hf : T'.vm.findClass own = some m.cls := by rw [hS'.1.alike.findClass]; exact hown
    have lit : Lit (s.setVm T'.vm) own index a := by simp [Lit, State.resolvedAt?, hf, hkk, hrr]
    have EZ : Ext Z.heap T'.heap := ⟨Nat.le_trans E.1 E'.1, fun a c q => E'.2 a c (E.2 a c q)⟩
    have hap : (a < Z.heap.size ∧ t < Z.heap.size) ∨ (T.heap.size ≤ a ∧ T.heap.size ≤ t) := by
      rcases hloc with ⟨l1, l2⟩ | q
      · left
        have hcO : Z.vm.findClass own = some m.cls := by rw [← hW.alike.findClass]; exact hf
        have hsT : s.heap.size ≤ T.heap.size := X.same.2.1
        obtain ⟨us, q, cS, rfl, ⟨⟨s1, -, -, ⟨cv, kv, iv, s4, -⟩, -, -, -, s8, -, s10, -⟩, -⟩, -⟩ := own_heldZ (T' := T') hW w I hnot lit hHZ hcO (by
          rcases hI1.2 with q | ⟨u, a', q, q2, -⟩
          · exact Or.inl (q.trans hTi)
          · exact Or.inr ⟨u, a', by rw [q, hTi]; rfl, fun z => absurd l1 (Nat.not_lt.mpr (by rw [z]; exact Nat.le_trans hsT q2))⟩)
        obtain ⟨cell, cf, kf, i, f, f1, f2, -, -, -, -, f7⟩ := says.2.2.1
        cases (EZ.2 _ _ s1).symm.trans f1
        cases s4.symm.trans f2
        cases s8.symm.trans f7
        exact ⟨(Array.getElem?_eq_some_iff.mp s1).1, (Array.getElem?_eq_some_iff.mp s10).1⟩
      · exact Or.inr q
    have n1 : a ∉ ms := fun z => by
      obtain ⟨m1, m2⟩ := M a z
      rcases hap with ⟨h1, -⟩ | ⟨h1, -⟩
      · exact absurd h1 (Nat.not_lt.mpr m1)
      · exact absurd m2 (Nat.not_lt.mpr h1)
    have n2 : t ∉ ms := fun z => by
      obtain ⟨m1, m2⟩ := M t z
      rcases hap with ⟨-, h1⟩ | ⟨-, h1⟩
      · exact absurd h1 (Nat.not_lt.mpr m1)
      · exact absurd m2 (Nat.not_lt.mpr h1)
    refine ⟨a, t, k, s.setVm T'.vm, T', _, rfl, ⟨hx, hW, hf, r⟩, X', ⟨T'.vm, T'.heap.size, rfl, hS.trans hS' (Nat.le_trans hk E'.1), Nat.le_refl _⟩, ⟨A, EZ, fun y hy => ⟨(M y hy).1, Nat.lt_of_lt_of_le (M y hy).2 E'.1⟩, text :: Ts, I.step (by have q := hint; rw [hTi] at q; exact q), fun q hq => ?_⟩, E', says, n1, n2, lit, st⟩
    by_cases hqt : q.2.2 = text
    · obtain rfl := hD q hq hqt
      exact Or.inr ⟨a, t, k, lit, says, n1, n2⟩
    · rcases L q hq with h1 | ⟨a2, t2, k2, l2, s2, r2⟩
      · exact Or.inl (fun z => (List.mem_cons.mp z).elim hqt h1)
      · exact Or.inr ⟨a2, t2, k2, Lit.stays (s := s) (vm0 := vm0) l2 hS'.1, s2.ext E', r2⟩
  · exact ⟨a, t, k, s.setVm vm0, T, h, eT, ⟨hx, hZ, hown, r⟩, X.mono (by omega) (by omega), ⟨vm0, k0, rfl, hS, hk⟩, J, ⟨Nat.le_refl _, fun _ _ q => q⟩, says, n1, n2, lit, ldcAgain X hx hZ hown w lit hg hd⟩
/-- a second load in one walk -/
theorem own_ldcA {a : Addr} (Cc : Cx Z p b m meth c own mybytes ml nm rt) (X : Stand p l e R b m args below meth c T locs cells slots) (hB : Bs s b h) (w : (Jvm.Cond.stringLink own index text).before a0 Z = true) (lit : Lit b own index a) (hg : g.method = m) (hd : decode c.code g.pc = .ok (.ldc index, 2)) :
    ∀ u, Steps p.tables e below (T.setTop { g with pc := g.pc + 2, stack := .ref a :: g.stack }) u → Steps p.tables e below (T.setTop g) u := by
  obtain ⟨vm0, k0, rfl, hS, hk⟩ := hB
  exact ldcAgain X Cc.1 Cc.2.1 Cc.2.2.1 w lit hg hd
end OwnLdc

section OwnStr
abbrev lo8 (x : Int32) : Int32 := x.toInt8.toInt32
theorem oi_toInt {i : Nat} (h : i < 2147483648) : (Int32.ofNat i).toInt = i := Int32.toInt_ofNat_small h
theorem oi_nn {i : Nat} (h : i < 2147483648) : ¬ Int32.ofNat i < 0 := by
  rw [Int32.lt_iff_toInt_lt, oi_toInt h, Int32.toInt_zero]; omega
theorem oi_nat {i : Nat} (h : i < 2147483648) : (Int32.ofNat i).toNatClampNeg = i := by
  have q := nat_of (oi_nn h)
  rw [oi_toInt h] at q; omega
theorem oi_lt {i n : Nat} (hi : i < 2147483648) (hn : n < 2147483648) (q : i < n) : Int32.ofNat i < Int32.ofNat n := by
  rw [Int32.lt_iff_toInt_lt, oi_toInt hi, oi_toInt hn]; omega
theorem oi_nlt {i n : Nat} (hi : i < 2147483648) (hn : n < 2147483648) (q : ¬ i < n) : ¬ Int32.ofNat i < Int32.ofNat n := by
  rw [Int32.lt_iff_toInt_lt, oi_toInt hi, oi_toInt hn]; omega
theorem oi_succ {i : Nat} (h : i + 1 < 2147483648) : Int32.ofNat i + (1 : Int32) = Int32.ofNat (i + 1) := by
  have q := c_iadd (Int32.ofNat i) 1
  have r := rng32 (Int32.ofNat i + 1)
  rw [oi_toInt (by omega), show (1 : Int32).toInt = 1 from rfl] at q
  apply Int32.toInt_inj.mp
  rw [oi_toInt h]; omega
theorem nar_b (x : Int32) : nar .byte (lo8 x) = lo8 x := by
  have a := c_i2b x
  have b := c_i2b (x.toInt8.toInt32)
  apply Int32.toInt_inj.mp
  show (x.toInt8.toInt32.toInt8.toInt32).toInt = x.toInt8.toInt32.toInt
  omega
theorem fits_b (x : Int32) : fits .byte (.int (lo8 x)) = true := fits_nar_byte x
theorem c_rng {x : Int32} (h0 : ¬ x < 0) (h1 : ¬ 65535 < x) : 0 ≤ x.toInt ∧ x.toInt ≤ 65535 := by
  rw [Int32.lt_iff_toInt_lt] at h0 h1
  exact ⟨by simpa using h0, by simpa using h1⟩
theorem nar_c {x : Int32} (h0 : ¬ x < 0) (h1 : ¬ 65535 < x) : nar .char x = x := by
  have a := c_rng h0 h1
  have b := c_i2c x
  apply Int32.toInt_inj.mp
  show (x.toUInt32.toUInt16.toUInt32.toInt32).toInt = x.toInt
  omega
theorem fits_c {x : Int32} (h0 : ¬ x < 0) (h1 : ¬ 65535 < x) : fits .char (.int x) = true := by
  have q := fits_nar_char x
  rwa [nar_c h0 h1] at q
theorem le255 {x : Int32} (h1 : ¬ 255 < x) : ¬ 65535 < x := by
  rw [Int32.lt_iff_toInt_lt] at h1 ⊢
  have a : (255 : Int32).toInt = 255 := by decide
  have b : (65535 : Int32).toInt = 65535 := by decide
  omega
theorem chr8 (x : Int32) : ¬ (x &&& (255 : Int32)).toUInt32.toUInt16.toUInt32.toInt32 < 0 ∧ ¬ 255 < (x &&& (255 : Int32)).toUInt32.toUInt16.toUInt32.toInt32 := by
  rw [i2c_mask]
  have q := c_and x 255 (by decide)
  have a : (255 : Int32).toInt = 255 := by decide
  rw [Int32.lt_iff_toInt_lt, Int32.lt_iff_toInt_lt, Int32.toInt_zero]
  omega
theorem own_push {Z : State} {h h' : Heap} {a : Addr} {k : ClassId} {ty : FieldType} {z j : Int32} {vs : List Value} {v dv : Value} (V : Arv Z h a k ty z vs dv) (W : Wr h h' a j.toNatClampNeg v) (hj : j.toNatClampNeg = vs.length) (hv : fits ty v = true) : Arv Z h' a k ty z (vs ++ [v]) dv := by
  obtain ⟨c, A, q1, S, q3, H, G⟩ := V.pad (pad_rep vs dv 1)
  have q := Arv.set A q1 S q3 H G hv W vs.length hj (by simp)
  simpa [List.set_append] using q
theorem getD_int (cs : List Int32) (i : Nat) : (cs.map Value.int).getD i (.int 0) = .int (cs.getD i 0) := by
  simp only [List.getD_eq_getElem?_getD, List.getElem?_map]
  cases cs[i]? <;> rfl
theorem take_push (cs : List Int32) {i : Nat} (h : i < cs.length) (f : Int32 → Value) : (cs.take i).map f ++ [f (cs.getD i 0)] = (cs.take (i + 1)).map f := by
  rw [List.take_succ_eq_append_getElem h, List.map_append, List.getD_eq_getElem?_getD, List.getElem?_eq_getElem h]; rfl
theorem mem_getD {cs : List Int32} {i : Nat} (h : i < cs.length) : cs.getD i 0 ∈ cs := by
  rw [List.getD_eq_getElem?_getD, List.getElem?_eq_getElem h]; exact List.getElem_mem h
theorem oi_inj {a b : Nat} (ha : a < 2147483648) (hb : b < 2147483648) (q : Int32.ofNat a = Int32.ofNat b) : a = b := by
  have r := congrArg Int32.toInt q
  rw [oi_toInt ha, oi_toInt hb] at r; omega
theorem oi_nil {cs : List Int32} {n : Nat} (hn : cs.length ≤ n) (q : Int32.ofNat cs.length = 0) (hs : n < 2147483648 := by decide) : cs = [] := by
  have r := oi_inj (b := 0) (by omega) (by decide) q
  exact List.eq_nil_of_length_eq_zero r
theorem asB {Z : State} {h : Heap} {t : Addr} {k : ClassId} {cs : List Int32} {dv : Value} (q : Arv Z h t k .byte (Int32.ofNat cs.length) (cs.map fun x => Value.int (lo8 x)) dv) : Arv Z h t k .byte (Int32.ofNat (cs.map lo8).length) ((cs.map lo8).map Value.int) dv := by
  rw [List.length_map, List.map_map]; exact q
theorem teq_all {b1 b2 : List Int32} {i : Nat} (hl : b1.length = b2.length) (hi : i + 0 = b1.length) (h : b1.take i = b2.take i) : b1 = b2 := by
  have e : i = b1.length := by omega
  rw [e, List.take_length, hl, List.take_length] at h; exact h
theorem teq_step {b1 b2 : List Int32} {i : Nat} (h : b1.take i = b2.take i) (h1 : i < b1.length) (h2 : i < b2.length) (q : b1.getD i 0 = b2.getD i 0) : b1.take (i + 1) = b2.take (i + 1) := by
  rw [List.getD_eq_getElem?_getD, List.getD_eq_getElem?_getD, List.getElem?_eq_getElem h1, List.getElem?_eq_getElem h2] at q
  rw [List.take_succ_eq_append_getElem h1, List.take_succ_eq_append_getElem h2, h]
  exact congrArg (fun z => b2.take i ++ [z]) q
theorem nar_z {x : Int32} (h : x = 1 ∨ x = 0) : nar .boolean x = x := by rcases h with rfl | rfl <;> decide
theorem fits_z {x : Int32} (h : x = 1 ∨ x = 0) : fits .boolean (.int x) = true := by rcases h with rfl | rfl <;> decide
theorem and3 (x : Int32) : x &&& 3 = 0 ∨ x &&& 3 = 1 ∨ x &&& 3 = 2 ∨ x &&& 3 = 3 := by
  have q := c_and x 3 (by decide)
  have a : (3 : Int32).toInt = 3 := by decide
  have r : (x &&& 3).toInt = 0 ∨ (x &&& 3).toInt = 1 ∨ (x &&& 3).toInt = 2 ∨ (x &&& 3).toInt = 3 := by omega
  rcases r with r | r | r | r
  · exact Or.inl (Int32.toInt_inj.mp r)
  · exact Or.inr (Or.inl (Int32.toInt_inj.mp r))
  · exact Or.inr (Or.inr (Or.inl (Int32.toInt_inj.mp r)))
  · exact Or.inr (Or.inr (Or.inr (Int32.toInt_inj.mp r)))
theorem rem3 (x : Int32) : (x &&& 3) % 3 = 0 ∨ (x &&& 3) % 3 = 1 ∨ (x &&& 3) % 3 = 2 := by
  rcases and3 x with r | r | r | r <;> rw [r] <;> decide
theorem lo8_inj {x y : Int32} (hx : ¬ x < 0 ∧ ¬ 255 < x) (hy : ¬ y < 0 ∧ ¬ 255 < y) (h : lo8 x = lo8 y) : x = y := by
  obtain ⟨x0, x1⟩ := hx
  obtain ⟨y0, y1⟩ := hy
  have a : (255 : Int32).toInt = 255 := by decide
  rw [Int32.lt_iff_toInt_lt, Int32.toInt_zero] at x0 y0
  rw [Int32.lt_iff_toInt_lt] at x1 y1
  have q : x.toInt8.toInt32.toInt = y.toInt8.toInt32.toInt := congrArg Int32.toInt h
  have cx := c_i2b x
  have cy := c_i2b y
  apply Int32.toInt_inj.mp
  omega
theorem q_back {q : Int32} (h : ¬ q < 0) : Int32.ofNat q.toNatClampNeg = q := by
  have a := nat_of h
  have r := rng32 q
  apply Int32.toInt_inj.mp
  rw [oi_toInt (by omega), a]
theorem own_idx {j : Int32} {n : Nat} (h : ¬ (j < 0 ∨ n ≤ j.toNatClampNeg)) : j.toNatClampNeg.toInt32 = j := q_back (fun q => h (Or.inl q))
end OwnStr

theorem litI_nil : litI "" = [] := by decide +kernel
theorem asN {Z : State} {h : Heap} {t : Addr} {k : ClassId} {cs : List Int32} {dv : Value} (q : Arv Z h t k .byte (Int32.ofNat (litI "").length) ((litI "").map Value.int) dv) (e : cs = []) : Arv Z h t k .byte (Int32.ofNat (cs.map lo8).length) ((cs.map lo8).map Value.int) dv := by
  rw [litI_nil] at q; subst e; exact q
theorem own_compact {Z : State} {a1 a0 : Array Value} (q : (Jvm.Cond.not (Jvm.Cond.eq (Jvm.Term.static "java/lang/String" "COMPACT_STRINGS" "Z") (Jvm.Term.int 0))).before a1 Z = true) : Jvm.Lit.compactW.before a0 Z = true := q

theorem own_wS (Z : State) (a0 : Array Value) (hw : ∀ d ∈ tables_1, d.before a0 Z = true) : ∀ a ∈ Bundle.stringAtoms, a.before a0 Z = true := by
  intro a ha
  simp only [Bundle.stringAtoms, List.mem_cons, List.not_mem_nil, or_false] at ha
  rcases ha with rfl | rfl | rfl | rfl | rfl | rfl | rfl
  · exact (hw _ (List.mem_of_getElem? (i := 7) rfl))
  · exact (hw _ (List.mem_of_getElem? (i := 8) rfl))
  · exact (hw _ (List.mem_of_getElem? (i := 9) rfl))
  · exact (hw _ (List.mem_of_getElem? (i := 10) rfl))
  · exact (hw _ (List.mem_of_getElem? (i := 11) rfl))
  · exact (hw _ (List.mem_of_getElem? (i := 12) rfl))
  · exact (hw _ (List.mem_of_getElem? (i := 13) rfl))

/-- a literal is loaded; what it says isn't asked, and no literal whose text is asked says the same -/
theorem own_ldcO {p : Program} {l : Launch} {e : Env} {R : Room} {s b : State} {m : MethodId} {args : Array Value} {below : List Frame} {meth : Method} {c : Code} {T : State} {locs : List Loc} {cells slots : Nat} {Z : State} {a0 : Array Value} {h : Heap} {ms : List Addr} {own nm text : String} {mybytes : ByteArray} {ml index n : Nat} {rt : Option FieldType} {g : JFrame}
    (Cc : Cx Z p b m meth c own mybytes ml nm rt) (hB : Bs s b h) (J : Hd Z ms b.vm h) (X : Stand p l e R b m args below meth c T locs cells slots) (hno : ∀ q ∈ litCs, q.2.2 ≠ text) (w : (Jvm.Cond.stringLink own index text).before a0 Z = true) (wS : ∀ a ∈ Bundle.stringAtoms, a.before a0 Z = true) (eT : T.heap = h) (hg : g.method = m) (hd : decode c.code g.pc = .ok (.ldc index, 2)) (hn : 4 * text.toList.length ≤ n) (hbig : n ≤ 536870912) (hc : cells + 2 ≤ R.cells) (hl' : slots + (n + 4) ≤ R.slots) :
    ∃ (a : Addr) (b' T' : State) (h' : Heap), T'.heap = h' ∧ Cx Z p b' m meth c own mybytes ml nm rt ∧ Stand p l e R b' m args below meth c T' locs (cells + 2) (slots + (n + 4)) ∧ Bs s b' h' ∧ Hd Z ms b'.vm h' ∧ Ext h h' ∧ ∀ t, Steps p.tables e below (T'.setTop { g with pc := g.pc + 2, stack := .ref a :: g.stack }) t → Steps p.tables e below (T.setTop g) t := by
  obtain ⟨vm0, k0, rfl, hS, hk⟩ := hB
  obtain ⟨hx, hZ, hown, r⟩ := Cc
  obtain ⟨A, E, M, Ts, I, L⟩ := id J
  obtain ⟨a, T', X', hS', -, hb, -, hint, st⟩ := X.ldcColdN hx (own := own) hown (mvS hZ w) (fun d hd => by
    have q := wS d hd
    simp only [Bundle.stringAtoms, List.mem_cons, List.not_mem_nil, or_false] at hd
    rcases hd with rfl | rfl | rfl | rfl | rfl | rfl | rfl
    · exact mv (s := s.setVm vm0) hZ q
    · exact mv (s := s.setVm vm0) hZ q
    · exact mvA (s := s.setVm vm0) hZ q
    · exact mv (s := s.setVm vm0) hZ q
    · exact mv (s := s.setVm vm0) hZ q
    · exact mv (s := s.setVm vm0) hZ q
    · exact mv (s := s.setVm vm0) hZ q) hg hd hn hbig hc hl'
  subst eT
  have E' := ext_of hb
  have hW : Z.Warmed39 T'.vm := State.Warmed39.trans (t := s.setVm vm0) hZ hS'.1
  have hTi : T.vm.interned = vm0.interned := X.warmed.interned_eq
  have hf : T'.vm.findClass own = some m.cls := by rw [hS'.1.alike.findClass]; exact hown
  have EZ : Ext Z.heap T'.heap := ⟨Nat.le_trans E.1 E'.1, fun a c q => E'.2 a c (E.2 a c q)⟩
  refine ⟨a, s.setVm T'.vm, T', _, rfl, ⟨hx, hW, hf, r⟩, X', ⟨T'.vm, T'.heap.size, rfl, hS.trans hS' (Nat.le_trans hk E'.1), Nat.le_refl _⟩, ⟨A, EZ, fun y hy => ⟨(M y hy).1, Nat.lt_of_lt_of_le (M y hy).2 E'.1⟩, text :: Ts, I.step ?_, fun q hq => ?_⟩, E', st⟩
  · rcases hint with q | ⟨us, e0, e1, -⟩
    · exact Or.inl (q.trans hTi)
    · rw [hTi] at e1
      exact Or.inr ⟨us, a, e0, e1⟩
  · rcases L q hq with h1 | ⟨a2, t2, k2, l2, s2, r2⟩
    · exact Or.inl (fun z => (List.mem_cons.mp z).elim (hno q hq) h1)
    · exact Or.inr ⟨a2, t2, k2, Lit.stays (s := s) (vm0 := vm0) l2 hS'.1, s2.ext E', r2⟩

theorem own_sh0 (x : Int32) : x >>> ((0 : Int32) &&& 31) = x := by
  rw [show ((0 : Int32) &&& 31) = 0 from by decide]; exact Int32.shiftRight_zero
theorem own_sl0 (x : Int32) : x <<< ((0 : Int32) &&& 31) = x := by
  rw [show ((0 : Int32) &&& 31) = 0 from by decide]; exact Int32.shiftLeft_zero
def chV (b : List Int32) (i : Int32) : Int32 := ((b.getD i.toNatClampNeg 0) &&& (255 : Int32)).toUInt32.toUInt16.toUInt32.toInt32
theorem own_c2 (x : Int32) : nar .char (x &&& (255 : Int32)).toUInt32.toUInt16.toUInt32.toInt32 = (x &&& (255 : Int32)).toUInt32.toUInt16.toUInt32.toInt32 := nar_c (chr8 x).1 (le255 (chr8 x).2)
theorem oi_add {a b : Nat} (h : a + b < 2147483648) : Int32.ofNat a + Int32.ofNat b = Int32.ofNat (a + b) := by
  have q := c_iadd (Int32.ofNat a) (Int32.ofNat b)
  have r := rng32 (Int32.ofNat a + Int32.ofNat b)
  rw [oi_toInt (by omega), oi_toInt (by omega)] at q
  apply Int32.toInt_inj.mp
  rw [oi_toInt h]; omega
theorem own_ens {j : Nat} (h : j ≤ 16) : ¬ (0 : Int32) < Int32.ofNat j - (16 : Int32) := by
  have q := c_isub (Int32.ofNat j) 16
  have r := rng32 (Int32.ofNat j - 16)
  rw [oi_toInt (by omega), show (16 : Int32).toInt = 16 from rfl] at q
  rw [Int32.lt_iff_toInt_lt, Int32.toInt_zero]; omega
theorem own_lt16 {j : Nat} (h : j < 16) : Int32.ofNat j < (16 : Int32) := by
  rw [Int32.lt_iff_toInt_lt, oi_toInt (by omega), show (16 : Int32).toInt = 16 from rfl]; omega
theorem own_ne16 {j : Nat} (h : j < 16) : ¬ Int32.ofNat j = (16 : Int32) := fun q => by
  have r := congrArg Int32.toInt q
  rw [oi_toInt (by omega), show (16 : Int32).toInt = 16 from rfl] at r; omega
theorem cp4 {n : Nat} {z : Int32} (hn : n < 2147483648) (h : n ≤ z.toNatClampNeg) : (0 : Int32).toNatClampNeg + (Int32.ofNat n).toNatClampNeg ≤ z.toNatClampNeg := by
  rw [oi_nat hn, show (0 : Int32).toNatClampNeg = 0 from rfl]; omega
theorem cp5 {a n : Nat} {z : Int32} (ha : a < 2147483648) (hn : n < 2147483648) (h : a + n ≤ z.toNatClampNeg) : (Int32.ofNat a).toNatClampNeg + (Int32.ofNat n).toNatClampNeg ≤ z.toNatClampNeg := by
  rw [oi_nat hn, oi_nat ha]; exact h
theorem cpu (cs : List Int32) (hn : cs.length < 2147483648) : cs.map Value.int = (List.range (Int32.ofNat cs.length).toNatClampNeg).map fun i => (cs.map Value.int).getD ((0 : Int32).toNatClampNeg + i) (.int 0) := by
  rw [oi_nat hn, show (0 : Int32).toNatClampNeg = 0 from rfl]
  refine List.ext_getElem (by simp) fun i h1 h2 => ?_
  have hi : i < cs.length := by simpa using h1
  simp [List.getD_eq_getElem?_getD, hi]
theorem cpl (bs cs : List Int32) (hb : bs.length < 2147483648) (hn : cs.length < 2147483648) : (Int32.ofNat bs.length).toNatClampNeg + (Int32.ofNat cs.length).toNatClampNeg ≤ (bs.map Value.int ++ List.replicate cs.length (Value.int 0)).length := by
  rw [oi_nat hn, oi_nat hb]; simp
theorem cp_res (bs cs : List Int32) (hb : bs.length < 2147483648) (hn : cs.length < 2147483648) : ((bs.map Value.int ++ List.replicate cs.length (Value.int 0)).take (Int32.ofNat bs.length).toNatClampNeg ++ cs.map Value.int ++ (bs.map Value.int ++ List.replicate cs.length (Value.int 0)).drop ((Int32.ofNat bs.length).toNatClampNeg + (Int32.ofNat cs.length).toNatClampNeg)) = (bs ++ cs).map Value.int := by
  rw [oi_nat hn, oi_nat hb]
  have e1 : (bs.map Value.int ++ List.replicate cs.length (Value.int 0)).take bs.length = bs.map Value.int := by
    rw [List.take_append_of_le_length (by simp)]; exact List.take_of_length_le (by simp)
  have e2 : (bs.map Value.int ++ List.replicate cs.length (Value.int 0)).drop (bs.length + cs.length) = [] := List.drop_of_length_le (by simp)
  rw [e1, e2, List.append_nil, List.map_append]
theorem own_isr {args : Array Value} {s : State} {t : Term} (h : (Jvm.Cond.isRef t).value args s none s [] = some true) : ∃ v : Value, (v = .null ∨ ∃ a, v = .ref a) ∧ t.eval args s none [] s = some v := by
  cases ha : t.eval args s none [] s with
  | none => simp [Cond.value, ha] at h
  | some x =>
    cases x <;> simp [Cond.value, ha] at h
    · exact ⟨_, Or.inl rfl, rfl⟩
    · exact ⟨_, Or.inr ⟨_, rfl⟩, rfl⟩

def mkL (n x y : Int32) : List Int32 := if n = 0 then [] else if n = 1 then [x] else [x, y]
theorem mkL_len (n x y : Int32) : ((mkL n x y).map lo8).length < 2147483648 := by
  rw [List.length_map]
  by_cases h0 : n = 0
  · simp [mkL, h0]
  by_cases h1 : n = 1
  · simp [mkL, h1]
  simp [mkL, h0, h1]
theorem mkL_eq {n m x y u v : Int32} (hn : n = 0 ∨ n = 1 ∨ n = 2) (hm : m = 0 ∨ m = 1 ∨ m = 2) (hx : ¬ x < 0 ∧ ¬ 255 < x) (hy : ¬ y < 0 ∧ ¬ 255 < y) (hu : ¬ u < 0 ∧ ¬ 255 < u) (hv : ¬ v < 0 ∧ ¬ 255 < v) :
    (mkL m u v).map lo8 = (mkL n x y).map lo8 ↔ n = m ∧ (n < 1 ∨ x = u) ∧ (n < 2 ∨ y = v) := by
  have a : lo8 u = lo8 x ↔ x = u := ⟨fun q => (lo8_inj hu hx q).symm, fun q => by rw [q]⟩
  have b : lo8 v = lo8 y ↔ y = v := ⟨fun q => (lo8_inj hv hy q).symm, fun q => by rw [q]⟩
  rcases hn with rfl | rfl | rfl <;> rcases hm with rfl | rfl | rfl <;> simp only [mkL, if_true, if_false, reduceIte, List.map_cons, List.map_nil, List.cons.injEq, and_true, true_and, a, b, show (0 : Int32) < 1 by decide, show (0 : Int32) < 2 by decide, show (1 : Int32) < 2 by decide, show ¬ (1 : Int32) < 1 by decide, show ¬ (2 : Int32) < 1 by decide, show ¬ (2 : Int32) < 2 by decide, show (1 : Int32) ≠ 0 by decide, show (2 : Int32) ≠ 0 by decide, show (2 : Int32) ≠ 1 by decide, show (0 : Int32) ≠ 1 by decide, show (0 : Int32) ≠ 2 by decide, show (1 : Int32) ≠ 2 by decide, false_or, true_or, false_and, reduceCtorEq, and_false, iff_self]
theorem mkL_le (n x y : Int32) : ((mkL n x y).map lo8).length ≤ 2 := by
  rw [List.length_map]
  by_cases h0 : n = 0
  · simp [mkL, h0]
  by_cases h1 : n = 1
  · simp [mkL, h1]
  simp [mkL, h0, h1]
theorem and255 (x : Int32) : (x &&& 255).toInt = x.toInt % 256 := by
  have h1 : (x &&& 255).toBitVec.toNat = x.toBitVec.toNat % 256 := by
    show (x.toBitVec &&& (255 : Int32).toBitVec).toNat = _
    rw [BitVec.toNat_and, show (255 : Int32).toBitVec.toNat = 2 ^ 8 - 1 from by decide, Nat.and_two_pow_sub_one_eq_mod]
  have e1 := BitVec.toInt_eq_toNat_cond (x &&& 255).toBitVec
  have e2 := BitVec.toInt_eq_toNat_cond x.toBitVec
  have h2 := x.toBitVec.isLt
  show (x &&& 255).toBitVec.toInt = x.toBitVec.toInt % 256
  rw [e1, e2, h1]
  split <;> split <;> omega
theorem chr_lo8 {x : Int32} (h : ¬ x < 0 ∧ ¬ 255 < x) : (lo8 x &&& (255 : Int32)).toUInt32.toUInt16.toUInt32.toInt32 = x := by
  obtain ⟨x0, x1⟩ := h
  have a : (255 : Int32).toInt = 255 := by decide
  rw [Int32.lt_iff_toInt_lt, Int32.toInt_zero] at x0
  rw [Int32.lt_iff_toInt_lt] at x1
  rw [i2c_mask]
  have cx := c_i2b x
  have m : (x.toInt8.toInt32 &&& 255).toInt = x.toInt8.toInt32.toInt % 256 := and255 (lo8 x)
  apply Int32.toInt_inj.mp
  show (x.toInt8.toInt32 &&& 255).toInt = x.toInt
  omega
theorem mkL_len_eq {n x y : Int32} (hn : n = 0 ∨ n = 1 ∨ n = 2) : ((mkL n x y).map lo8).length = n.toNatClampNeg := by
  rw [List.length_map]
  rcases hn with rfl | rfl | rfl
  · simp only [mkL, if_true]; rfl
  · simp only [mkL, show ¬ (1 : Int32) = 0 by decide, if_false, if_true]; rfl
  · simp only [mkL, show ¬ (2 : Int32) = 0 by decide, show ¬ (2 : Int32) = 1 by decide, if_false]; rfl

abbrev rng16 (x : Int32) : Prop := ¬ x < 0 ∧ ¬ 65535 < x
abbrev hi8 (x : Int32) : Int32 := (x >>> ((8 : Int32) &&& 31)).toInt8.toInt32
/-- the bytes of a text in UTF-16, the low one first -/
def utf (cs : List Int32) : List Int32 := cs.flatMap fun c => [lo8 c, hi8 c]
theorem utf_nil : utf [] = [] := rfl
theorem utf_snoc (cs : List Int32) (x : Int32) : utf (cs ++ [x]) = utf cs ++ [lo8 x, hi8 x] := by simp [utf, List.flatMap_append]
theorem utf_len (cs : List Int32) : (utf cs).length = 2 * cs.length := by
  induction cs with
  | nil => rfl
  | cons c r ih => simp only [utf, List.flatMap_cons, List.length_append, List.length_cons, List.length_nil] at ih ⊢; omega
theorem utf_take (cs : List Int32) {i : Nat} (h : i < cs.length) : utf (cs.take i) ++ [lo8 (cs.getD i 0), hi8 (cs.getD i 0)] = utf (cs.take (i + 1)) := by
  rw [List.take_succ_eq_append_getElem h, utf_snoc, List.getD_eq_getElem?_getD, List.getElem?_eq_getElem h]; rfl
theorem utf_get (cs : List Int32) : ∀ i, (utf cs).getD (2 * i) 0 = (if i < cs.length then lo8 (cs.getD i 0) else 0) ∧ (utf cs).getD (2 * i + 1) 0 = (if i < cs.length then hi8 (cs.getD i 0) else 0) := by
  induction cs with
  | nil => intro i; simp [utf]
  | cons c r ih =>
    intro i
    have e : utf (c :: r) = lo8 c :: hi8 c :: utf r := by simp [utf]
    cases i with
    | zero => rw [e]; simp
    | succ i =>
      have q := ih i
      rw [e, show 2 * (i + 1) = 2 * i + 1 + 1 by omega]
      simpa using q
def ch16 (x y : Int32) : Int32 := (((x &&& (255 : Int32)) <<< ((0 : Int32) &&& 31)) ||| ((y &&& (255 : Int32)) <<< ((8 : Int32) &&& 31))).toUInt32.toUInt16.toUInt32.toInt32
theorem ch16_back {c : Int32} (h : rng16 c) : ch16 (lo8 c) (hi8 c) = c := by
  obtain ⟨h0, h1⟩ := h
  rw [Int32.lt_iff_toInt_lt, Int32.toInt_zero] at h0
  rw [Int32.lt_iff_toInt_lt, show (65535 : Int32).toInt = 65535 from by decide] at h1
  have a := c_mask (lo8 c) 255 8 (by decide) (by decide)
  have b := c_mask (hi8 c) 255 8 (by decide) (by decide)
  have x1 := c_i2b c
  have x2 := c_i2b (c >>> ((8 : Int32) &&& 31))
  have x3 := c_ishr c 8 8 (by decide)
  have s0 := c_ishl (lo8 c &&& 255) 0 0 (by decide)
  have s8 := c_ishl (hi8 c &&& 255) 8 8 (by decide)
  have r0 := rng32 ((lo8 c &&& 255) <<< ((0 : Int32) &&& 31))
  have r8 := rng32 ((hi8 c &&& 255) <<< ((8 : Int32) &&& 31))
  simp only [show ((2 ^ 8 : Nat) : Int) = 256 from rfl, show ((2 ^ 0 : Nat) : Int) = 1 from rfl] at a b x3 s0 s8
  have o := c_or' ((lo8 c &&& 255) <<< ((0 : Int32) &&& 31)) ((hi8 c &&& 255) <<< ((8 : Int32) &&& 31)) 8 (by decide) 256 (by rfl) (by omega) (by omega) (by omega)
  have ro := rng32 ((lo8 c &&& 255) <<< ((0 : Int32) &&& 31) ||| (hi8 c &&& 255) <<< ((8 : Int32) &&& 31))
  have i := c_i2c ((lo8 c &&& 255) <<< ((0 : Int32) &&& 31) ||| (hi8 c &&& 255) <<< ((8 : Int32) &&& 31))
  apply Int32.toInt_inj.mp
  simp only [ch16, lo8, hi8] at a b s0 s8 r0 r8 o ro i ⊢
  omega
theorem oi_shl1 {i : Nat} (h : 2 * i < 2147483648) : Int32.ofNat i <<< ((1 : Int32) &&& 31) = Int32.ofNat (2 * i) := by
  have s := c_ishl (Int32.ofNat i) 1 1 (by decide)
  have r := rng32 (Int32.ofNat i <<< ((1 : Int32) &&& 31))
  rw [oi_toInt (by omega)] at s
  simp only [show ((2 ^ 1 : Nat) : Int) = 2 from rfl] at s
  apply Int32.toInt_inj.mp
  rw [oi_toInt h]; omega
theorem oi_shr1 {i : Nat} (h : 2 * i < 2147483648) : Int32.ofNat (2 * i) >>> ((1 : Int32) &&& 31) = Int32.ofNat i := by
  have s := c_ishr (Int32.ofNat (2 * i)) 1 1 (by decide)
  rw [oi_toInt h] at s
  simp only [show ((2 ^ 1 : Nat) : Int) = 2 from rfl] at s
  apply Int32.toInt_inj.mp
  rw [oi_toInt (by omega), s]; omega
/-- a text in the machine: latin-1 or UTF-16 -/
def StrOf (cs : List Int32) (cd : Int32) (b : List Int32) : Prop := (cd = 0 ∧ b = cs.map lo8 ∧ ∀ x ∈ cs, ¬ 255 < x) ∨ (cd = 1 ∧ b = utf cs)
theorem so_nil {cs : List Int32} (e : cs = []) : StrOf cs 0 (cs.map lo8) := Or.inl ⟨rfl, rfl, by subst e; intro x hx; cases hx⟩
theorem nar_cd {cs b : List Int32} {cd : Int32} (h : StrOf cs cd b) : nar .byte cd = cd := by
  rcases h with ⟨rfl, -, -⟩ | ⟨rfl, -⟩ <;> decide
theorem fits_cd {cs b : List Int32} {cd : Int32} (h : StrOf cs cd b) : fits .byte (.int cd) = true := by
  rcases h with ⟨rfl, -, -⟩ | ⟨rfl, -⟩ <;> decide
theorem own_c16 (x : Int32) : nar .char x.toUInt32.toUInt16.toUInt32.toInt32 = x.toUInt32.toUInt16.toUInt32.toInt32 := by
  have a := c_i2c x
  have b := c_i2c x.toUInt32.toUInt16.toUInt32.toInt32
  apply Int32.toInt_inj.mp
  show (x.toUInt32.toUInt16.toUInt32.toInt32.toUInt32.toUInt16.toUInt32.toInt32).toInt = x.toUInt32.toUInt16.toUInt32.toInt32.toInt
  omega
theorem chr16 (x : Int32) : rng16 x.toUInt32.toUInt16.toUInt32.toInt32 := by
  have a := c_i2c x
  refine ⟨?_, ?_⟩
  · rw [Int32.lt_iff_toInt_lt, Int32.toInt_zero]; omega
  · rw [Int32.lt_iff_toInt_lt, show (65535 : Int32).toInt = 65535 from by decide]; omega
theorem utf_ch {cs : List Int32} (hr : ∀ x ∈ cs, rng16 x) {j : Nat} (h : j < cs.length) : ch16 ((utf cs).getD (2 * j) 0) ((utf cs).getD (2 * j + 1) 0) = cs.getD j 0 := by
  obtain ⟨a, b⟩ := utf_get cs j
  rw [a, b, if_pos h, if_pos h]; exact ch16_back (hr _ (mem_getD h))
theorem nar_u {cs : List Int32} (hr : ∀ x ∈ cs, rng16 x) {j : Nat} (h : j < cs.length) : nar .char (ch16 ((utf cs).getD (2 * j) 0) ((utf cs).getD (2 * j + 1) 0)) = cs.getD j 0 := by
  rw [utf_ch hr h]; exact nar_c (hr _ (mem_getD h)).1 (hr _ (mem_getD h)).2
theorem nar_l {cs : List Int32} (hl : ∀ x ∈ cs, ¬ 255 < x) (hr : ∀ x ∈ cs, rng16 x) {j : Nat} (hj : j < cs.length) (hn : cs.length ≤ 1000) : nar .char (chV (cs.map lo8) (Int32.ofNat j)) = cs.getD j 0 := by
  have e : chV (cs.map lo8) (Int32.ofNat j) = cs.getD j 0 := by
    rw [chV, oi_nat (by omega)]
    have e : (cs.map lo8).getD j 0 = lo8 (cs.getD j 0) := by
      simp only [List.getD_eq_getElem?_getD, List.getElem?_map, List.getElem?_eq_getElem hj, Option.map_some, Option.getD_some]
    rw [e]
    exact chr_lo8 ⟨(hr _ (mem_getD hj)).1, hl _ (mem_getD hj)⟩
  rw [e]; exact nar_c (hr _ (mem_getD hj)).1 (hr _ (mem_getD hj)).2
theorem all_le {cs : List Int32} {j : Nat} (he : j = cs.length) (hlt : ∀ i, i < j → ¬ 255 < cs.getD i 0) : ∀ x ∈ cs, ¬ 255 < x := by
  intro x hx
  obtain ⟨i, hi, rfl⟩ := List.getElem_of_mem hx
  have q := hlt i (by omega)
  rwa [List.getD_eq_getElem?_getD, List.getElem?_eq_getElem hi, Option.getD_some] at q
theorem oi_pos {n : Nat} (h : ¬ Int32.ofNat n = 0) : 0 < n := Nat.pos_of_ne_zero fun q => h (by rw [q]; rfl)
theorem own_cd0 (x : Int32) : ((x - x).toUInt32 >>> ((31 : Int32) &&& 31).toUInt32).toInt32 = 0 := by
  rw [Int32.sub_self]; decide
theorem own_cd1 {n : Nat} (h0 : 0 < n) (h : n ≤ 1000) : ((Int32.ofNat n - Int32.ofNat (2 * n)).toUInt32 >>> ((31 : Int32) &&& 31).toUInt32).toInt32 = 1 := by
  have s := c_isub (Int32.ofNat n) (Int32.ofNat (2 * n))
  have r := rng32 (Int32.ofNat n - Int32.ofNat (2 * n))
  rw [oi_toInt (by omega), oi_toInt (by omega)] at s
  have u := c_iushr (Int32.ofNat n - Int32.ofNat (2 * n)) 31 31 (by decide) (by decide)
  simp only [show ((2 ^ 31 : Nat) : Int) = 2147483648 from rfl] at u
  apply Int32.toInt_inj.mp
  rw [u, show (1 : Int32).toInt = 1 from by decide]
  omega
theorem own_ensN {j n : Nat} (h : j ≤ n) (hn : n ≤ 1000) : ¬ (0 : Int32) < Int32.ofNat j - Int32.ofNat n := by
  have q := c_isub (Int32.ofNat j) (Int32.ofNat n)
  have r := rng32 (Int32.ofNat j - Int32.ofNat n)
  rw [oi_toInt (by omega), oi_toInt (by omega)] at q
  rw [Int32.lt_iff_toInt_lt, Int32.toInt_zero]; omega
theorem push1 {us : List Int32} {x : Int32} : us.map Value.int ++ [Value.int x] = (us ++ [x]).map Value.int := by simp
theorem push2 {us : List Int32} {x y : Int32} : (us ++ [x]).map Value.int ++ [Value.int y] = (us ++ [x, y]).map Value.int := by simp

/-- a builder's text in the machine: latin-1 over 16 places, or UTF-16 over 32 -/
def BOf (cs : List Int32) (bc : Int32) (b : List Int32) (nn : Nat) : Prop := (bc = 0 ∧ b = cs.map lo8 ∧ nn = 16 ∧ ∀ x ∈ cs, ¬ 255 < x) ∨ (bc = 1 ∧ b = utf cs ∧ nn = 32)
theorem utf_app (a b : List Int32) : utf (a ++ b) = utf a ++ utf b := by simp [utf, List.flatMap_append]
theorem bo_sh {cs b : List Int32} {bc : Int32} {nn : Nat} (h : BOf cs bc b nn) : Int32.ofNat nn >>> (bc &&& 31) = 16 := by
  rcases h with ⟨rfl, -, rfl, -⟩ | ⟨rfl, -, rfl⟩ <;> decide
theorem bo_z {cs b : List Int32} {bc : Int32} {nn : Nat} (h : BOf cs bc b nn) (hn : cs.length ≤ 1000) : Int32.ofNat cs.length <<< (bc &&& 31) = Int32.ofNat b.length := by
  rcases h with ⟨rfl, rfl, -, -⟩ | ⟨rfl, rfl, -⟩
  · rw [own_sl0, List.length_map]
  · rw [oi_shl1 (by omega), utf_len]
theorem bo_nar {cs b : List Int32} {bc : Int32} {nn : Nat} (h : BOf cs bc b nn) : nar .byte bc = bc := by
  rcases h with ⟨rfl, -, -, -⟩ | ⟨rfl, -, -⟩ <;> decide
theorem bo_len {cs b : List Int32} {bc : Int32} {nn : Nat} (h : BOf cs bc b nn) : nn ≤ 1000 ∧ (cs.length < 16 → b.length < nn) := by
  rcases h with ⟨-, rfl, rfl, -⟩ | ⟨-, rfl, rfl⟩
  · exact ⟨by decide, fun q => by rw [List.length_map]; exact q⟩
  · exact ⟨by decide, fun q => by rw [utf_len]; omega⟩
theorem bo_same {cs c2 b b2 : List Int32} {bc : Int32} {nn : Nat} (h : BOf cs bc b nn) (g : StrOf c2 bc b2) (q : cs.length + c2.length ≤ 16) : BOf (cs ++ c2) bc (b ++ b2) nn ∧ b.length + b2.length ≤ nn := by
  rcases h with ⟨rfl, rfl, rfl, h⟩ | ⟨rfl, rfl, rfl⟩
  · rcases g with ⟨-, rfl, g⟩ | ⟨z, -⟩
    · refine ⟨Or.inl ⟨rfl, (List.map_append ..).symm, rfl, fun x hx => ?_⟩, by rw [List.length_map, List.length_map]; exact q⟩
      rcases List.mem_append.mp hx with hx | hx
      · exact h x hx
      · exact g x hx
    · exact absurd z (by decide)
  · rcases g with ⟨z, -, -⟩ | ⟨-, rfl⟩
    · exact absurd z (by decide)
    · exact ⟨Or.inr ⟨rfl, (utf_app ..).symm, rfl⟩, by rw [utf_len, utf_len]; omega⟩
theorem own_neor {o v v' : Addr} {n : Nat} (h : v' = v ∨ n ≤ v') (ne : o ≠ v) (lt : o < n) : o ≠ v' := fun q => by
  rcases h with h | h
  · exact ne (q.trans h)
  · rw [← q] at h; exact absurd lt (Nat.not_lt.mpr h)
theorem or_nn : ∀ a : Fin 17, ∀ c : Fin 17, ¬ ((Int32.ofNat 16 ||| Int32.ofNat a.val) ||| Int32.ofNat c.val) < 0 := by decide +kernel
theorem or_nn' {a c : Nat} (h : a + c ≤ 16) : ¬ ((Int32.ofNat 16 ||| Int32.ofNat a) ||| Int32.ofNat c) < 0 := or_nn ⟨a, by omega⟩ ⟨c, by omega⟩
theorem sub_nn {a c : Nat} (h : a + c ≤ 16) : ¬ Int32.ofNat 16 - Int32.ofNat a < Int32.ofNat c := by
  have q := c_isub (Int32.ofNat 16) (Int32.ofNat a)
  have r := rng32 (Int32.ofNat 16 - Int32.ofNat a)
  rw [oi_toInt (by omega), oi_toInt (by omega)] at q
  rw [Int32.lt_iff_toInt_lt, oi_toInt (i := c) (by omega)]; omega
theorem lo_at {cs : List Int32} (h : ∀ x ∈ cs, rng16 x) (g : ∀ x ∈ cs, ¬ 255 < x) {i : Nat} (hi : i < cs.length) : ((cs.map lo8).getD i 0 &&& (255 : Int32)) = cs.getD i 0 := by
  have e : (cs.map lo8).getD i 0 = lo8 (cs.getD i 0) := by
    simp only [List.getD_eq_getElem?_getD, List.getElem?_map, List.getElem?_eq_getElem hi, Option.map_some, Option.getD_some]
  rw [e, ← i2c_mask]
  exact chr_lo8 ⟨(h _ (mem_getD hi)).1, g _ (mem_getD hi)⟩
theorem utf_take2 (ds cs : List Int32) {i : Nat} (h : i < cs.length) : utf (ds ++ cs.take i) ++ [lo8 (cs.getD i 0), hi8 (cs.getD i 0)] = utf (ds ++ cs.take (i + 1)) := by
  rw [utf_app, utf_app, ← utf_take cs h, List.append_assoc]
theorem so_lit : StrOf [58, 32] 0 (litI ": ") := Or.inl ⟨rfl, by decide +kernel, by decide +kernel⟩
theorem so_emp : StrOf [] 0 (litI "") := Or.inl ⟨rfl, by decide +kernel, fun x hx => nomatch hx⟩
theorem rng_lit : ∀ x ∈ [(58 : Int32), 32], rng16 x := by decide +kernel
theorem rng_app {a b : List Int32} (h : ∀ x ∈ a, rng16 x) (g : ∀ x ∈ b, rng16 x) : ∀ x ∈ a ++ b, rng16 x := fun x hx => (List.mem_append.mp hx).elim (h x) (g x)
theorem mkL_rng {n x y : Int32} (hx : rng16 x) (hy : rng16 y) : ∀ z ∈ mkL n x y, rng16 z := by
  intro z hz
  unfold mkL at hz
  split at hz
  · cases hz
  · split at hz
    · cases List.mem_singleton.mp hz; exact hx
    · simp only [List.mem_cons, List.not_mem_nil, or_false] at hz; rcases hz with rfl | rfl <;> assumption
theorem mkL_le2 (n x y : Int32) : (mkL n x y).length ≤ 2 := by
  unfold mkL
  split
  · decide
  · split <;> simp
def allC (fl ml f0 f1 m0 m1 : Int32) : List Int32 := mkL fl f0 f1 ++ [58, 32] ++ mkL ml m0 m1
theorem allC_len {fl ml f0 f1 m0 m1 : Int32} (hf : fl = 0 ∨ fl = 1 ∨ fl = 2) (hm : ml = 0 ∨ ml = 1 ∨ ml = 2) : fl + (2 : Int32) + ml = Int32.ofNat (allC fl ml f0 f1 m0 m1).length := by
  rcases hf with rfl | rfl | rfl <;> rcases hm with rfl | rfl | rfl <;> rfl
theorem allC_le (fl ml f0 f1 m0 m1 : Int32) : (allC fl ml f0 f1 m0 m1).length ≤ 6 := by
  have a := mkL_le2 fl f0 f1
  have b := mkL_le2 ml m0 m1
  rw [allC, List.length_append, List.length_append]
  simp only [List.length_cons, List.length_nil]; omega
def atV (i fl f0 f1 m0 m1 : Int32) : Int32 := if i < fl then (if i = 0 then f0 else f1) else if i = fl then 58 else if i = fl + 1 then 32 else if i - fl - 2 = 0 then m0 else m1
theorem at_eq {fl ml f0 f1 m0 m1 : Int32} (hf : fl = 0 ∨ fl = 1 ∨ fl = 2) (hm : ml = 0 ∨ ml = 1 ∨ ml = 2) {i : Nat} (hi : i < (allC fl ml f0 f1 m0 m1).length) : (allC fl ml f0 f1 m0 m1).getD i 0 = atV (Int32.ofNat i) fl f0 f1 m0 m1 := by
  have h6 := allC_le fl ml f0 f1 m0 m1
  have q : i = 0 ∨ i = 1 ∨ i = 2 ∨ i = 3 ∨ i = 4 ∨ i = 5 := by omega
  clear h6
  rcases hf with rfl | rfl | rfl <;> rcases hm with rfl | rfl | rfl <;> rcases q with rfl | rfl | rfl | rfl | rfl | rfl <;> first | rfl | exact absurd hi (Nat.not_lt_of_le (Nat.le_of_ble_eq_true rfl))
theorem rem3b (x : Int32) : (x &&& (2147483647 : Int32)) % (3 : Int32) = 0 ∨ (x &&& (2147483647 : Int32)) % (3 : Int32) = 1 ∨ (x &&& (2147483647 : Int32)) % (3 : Int32) = 2 := by
  have a := c_and x 2147483647 (by decide)
  have b := (c_irem (x &&& 2147483647) 3 3 (by decide)).1 a.1
  have r : ((x &&& 2147483647) % 3).toInt = 0 ∨ ((x &&& 2147483647) % 3).toInt = 1 ∨ ((x &&& 2147483647) % 3).toInt = 2 := by rw [b]; omega
  rcases r with r | r | r
  · exact Or.inl (Int32.toInt_inj.mp r)
  · exact Or.inr (Or.inl (Int32.toInt_inj.mp r))
  · exact Or.inr (Or.inr (Int32.toInt_inj.mp r))

theorem d55_3 : decode jdk_52_method_21_code 3 = .ok (.iload 5, 2) := by decide +kernel
theorem d55_5 : decode jdk_52_method_21_code 5 = .ok (.iload 4, 2) := by decide +kernel
theorem d55_7 : decode jdk_52_method_21_code 7 = .ok (.if_icmp .ge 37, 3) := by decide +kernel
theorem d55_44 : decode jdk_52_method_21_code 44 = .ok (.iload 4, 2) := by decide +kernel
theorem d55_46 : decode jdk_52_method_21_code 46 = .ok (.ireturn, 1) := by decide +kernel
theorem d55_10 : decode jdk_52_method_21_code 10 = .ok (.aload_n 0, 1) := by decide +kernel
theorem d55_11 : decode jdk_52_method_21_code 11 = .ok (.iload_n 1, 1) := by decide +kernel
theorem d55_12 : decode jdk_52_method_21_code 12 = .ok (.caload, 1) := by decide +kernel
theorem d55_13 : decode jdk_52_method_21_code 13 = .ok (.istore 6, 2) := by decide +kernel
theorem d55_15 : decode jdk_52_method_21_code 15 = .ok (.iload 6, 2) := by decide +kernel
theorem d55_17 : decode jdk_52_method_21_code 17 = .ok (.sipush 255, 3) := by decide +kernel
theorem d55_20 : decode jdk_52_method_21_code 20 = .ok (.if_icmp .le 6, 3) := by decide +kernel
theorem d55_23 : decode jdk_52_method_21_code 23 = .ok (.iload 5, 2) := by decide +kernel
theorem d55_25 : decode jdk_52_method_21_code 25 = .ok (.ireturn, 1) := by decide +kernel
theorem d55_26 : decode jdk_52_method_21_code 26 = .ok (.aload_n 2, 1) := by decide +kernel
theorem d55_27 : decode jdk_52_method_21_code 27 = .ok (.iload_n 3, 1) := by decide +kernel
theorem d55_28 : decode jdk_52_method_21_code 28 = .ok (.iload 6, 2) := by decide +kernel
theorem d55_30 : decode jdk_52_method_21_code 30 = .ok (.i2b, 1) := by decide +kernel
theorem d55_31 : decode jdk_52_method_21_code 31 = .ok (.bastore, 1) := by decide +kernel
theorem d55_32 : decode jdk_52_method_21_code 32 = .ok (.iinc 1 1, 3) := by decide +kernel
theorem d55_35 : decode jdk_52_method_21_code 35 = .ok (.iinc 3 1, 3) := by decide +kernel
theorem d55_38 : decode jdk_52_method_21_code 38 = .ok (.iinc 5 1, 3) := by decide +kernel
theorem d55_41 : decode jdk_52_method_21_code 41 = .ok (.goto (-38), 3) := by decide +kernel
theorem own_st6 {v0 v1 v2 v3 v4 v5 : Value} {s6 : Slot} {x : Int32} (h : One s6) : storeLocals #[.val v0, .val v1, .val v2, .val v3, .val v4, .val v5, s6] 6 (.int x) = some #[.val v0, .val v1, .val v2, .val v3, .val v4, .val v5, .val (.int x)] := by
  rcases h with rfl | ⟨w, rfl, hw⟩
  · rfl
  · cases w <;> first | rfl | (simp [Value.category] at hw)
theorem big_in {cs : List Int32} {j : Nat} (h : 255 < cs.getD j 0) : j < cs.length := Decidable.byContradiction fun q => by
  rw [List.getD_eq_getElem?_getD, List.getElem?_eq_none (Nat.le_of_not_lt q)] at h
  exact absurd h (by decide)
theorem first_big (cs : List Int32) : ∃ j, j ≤ cs.length ∧ (∀ i, i < j → ¬ 255 < cs.getD i 0) ∧ (j = cs.length ∨ 255 < cs.getD j 0) := by
  have key : ∀ n, n ≤ cs.length → (∃ j, j ≤ cs.length ∧ (∀ i, i < j → ¬ 255 < cs.getD i 0) ∧ (j = cs.length ∨ 255 < cs.getD j 0)) ∨ ∀ i, i < n → ¬ 255 < cs.getD i 0 := by
    intro n
    induction n with
    | zero => intro _; right; intro i hi; omega
    | succ n ih =>
      intro hn
      rcases ih (by omega) with h | h
      · exact Or.inl h
      · by_cases q : 255 < cs.getD n 0
        · exact Or.inl ⟨n, by omega, h, Or.inr q⟩
        · right
          intro i hi
          by_cases e : i = n
          · rw [e]; exact q
          · exact h i (by omega)
  rcases key cs.length (Nat.le_refl _) with h | h
  · exact h
  · exact ⟨cs.length, Nat.le_refl _, h, Or.inl rfl⟩
set_option maxRecDepth 65536 in
set_option maxHeartbeats 40000000 in
theorem cloopU {l : Launch} {Z : State} {p : Program} {e : Env} {R : Room} {s b : State} {m : MethodId} {args : Array Value} {below : List Frame} {meth : Method} {c : Code} {K N : Nat} {Q : Option Value → Vm → Heap → List Loc → Prop} {ms : List Addr} {h0 : Heap} {n0 nb : Nat} (Cc : Cx Z p b m meth c "java/lang/StringUTF16" jdk_52_method_21_code 7 "compress" (some .int)) (a1 a2 : Addr) (k1 k2 : ClassId) (cs : List Int32) (j : Nat) (hn : cs.length ≤ 16) (hr : ∀ x ∈ cs, rng16 x) (hj : j ≤ cs.length) (hlt : ∀ i, i < j → ¬ 255 < cs.getD i 0) (hend : j = cs.length ∨ 255 < cs.getD j 0) (ne12 : a1 ≠ a2) (hb0 : n0 ≤ nb) (hnb : nb ≤ h0.size) (fr_a2 : nb ≤ a2) (hm_a2 : a2 ∈ ms)
    (hQ : ∀ vm h L, Keep h0 h [a2] → Fr nb L → Arv Z h a2 k2 .byte (Int32.ofNat cs.length) ((cs.take j).map fun x => Value.int (lo8 x)) (.int 0) → Q (some (.int (Int32.ofNat j))) vm h L) :
    ∀ (r i : Nat), i + r = j → ∀ (T : State) (h : Heap) (locs : List Loc) (cells slots : Nat) (s6 : Slot), One s6 → Stand p l e R b m args below meth c T locs cells slots → T.heap = h → Old Z n0 h → Fr nb locs → Keep h0 h [a2] → Hd Z ms b.vm h → Bs s b h → Arv Z h a1 k1 .char (Int32.ofNat cs.length) (cs.map Value.int) (.int 0) → Arv Z h a2 k2 .byte (Int32.ofNat cs.length) ((cs.take i).map fun x => Value.int (lo8 x)) (.int 0) → cells ≤ K → slots ≤ N →
      Go p e s below K N (Hd Z ms) Q T (mkF m 3 #[.val (.ref a1), .val (.int (Int32.ofNat i)), .val (.ref a2), .val (.int (Int32.ofNat i)), .val (.int (Int32.ofNat cs.length)), .val (.int (Int32.ofNat i)), s6] []) := by
  obtain ⟨hx, hZ, hown, hby, hml, hnm, hret, hlk⟩ := id Cc
  intro r
  induction r with
  | zero =>
    intro i hi T h locs cells slots s6 one6 X eT O0 N0 K0 J0 B0 V1 V2 hK hN
    obtain rfl : i = j := by omega
    rcases hend with he | he
    · show Go p e s below _ _ _ _ T (mkF m 3 #[.val (.ref a1), .val (.int (Int32.ofNat i)), .val (.ref a2), .val (.int (Int32.ofNat i)), .val (.int (Int32.ofNat cs.length)), .val (.int (Int32.ofNat i)), s6] [])
      refine Go.of (fun _ hr => XS.iload X.here hx rfl (hb hby d55_3) rfl  hr) ?_
      show Go p e s below _ _ _ _ T (mkF m 5 #[.val (.ref a1), .val (.int (Int32.ofNat i)), .val (.ref a2), .val (.int (Int32.ofNat i)), .val (.int (Int32.ofNat cs.length)), .val (.int (Int32.ofNat i)), s6] [(.int (Int32.ofNat i))])
      refine Go.of (fun _ hr => XS.iload X.here hx rfl (hb hby d55_5) rfl  hr) ?_
      show Go p e s below _ _ _ _ T (mkF m 7 #[.val (.ref a1), .val (.int (Int32.ofNat i)), .val (.ref a2), .val (.int (Int32.ofNat i)), .val (.int (Int32.ofNat cs.length)), .val (.int (Int32.ofNat i)), s6] [(.int (Int32.ofNat cs.length)), (.int (Int32.ofNat i))])
      refine Go.of (fun _ hr => XS.icmpYes X.here hx rfl (pc0 := 7) (pc' := 44) rfl (hb hby d55_7) rfl (flt (oi_nlt (by omega) (by omega) (by omega))).2.1 (by decide) (by decide) hr) ?_
      show Go p e s below _ _ _ _ T (mkF m 44 #[.val (.ref a1), .val (.int (Int32.ofNat i)), .val (.ref a2), .val (.int (Int32.ofNat i)), .val (.int (Int32.ofNat cs.length)), .val (.int (Int32.ofNat i)), s6] [])
      refine Go.of (fun _ hr => XS.iload X.here hx rfl (hb hby d55_44) rfl  hr) ?_
      show Go p e s below _ _ _ _ T (mkF m 46 #[.val (.ref a1), .val (.int (Int32.ofNat i)), .val (.ref a2), .val (.int (Int32.ofNat i)), .val (.int (Int32.ofNat cs.length)), .val (.int (Int32.ofNat i)), s6] [(.int (Int32.ofNat cs.length))])
      exact Go.retI X hx hlk B0 J0 eT hret (hb hby d55_46) (by omega) (by omega) (fun vm_ hw_ => by rw [← he]; exact hQ _ _ _ K0 N0 V2)
    · have hji := big_in he
      show Go p e s below _ _ _ _ T (mkF m 3 #[.val (.ref a1), .val (.int (Int32.ofNat i)), .val (.ref a2), .val (.int (Int32.ofNat i)), .val (.int (Int32.ofNat cs.length)), .val (.int (Int32.ofNat i)), s6] [])
      refine Go.of (fun _ hr => XS.iload X.here hx rfl (hb hby d55_3) rfl  hr) ?_
      show Go p e s below _ _ _ _ T (mkF m 5 #[.val (.ref a1), .val (.int (Int32.ofNat i)), .val (.ref a2), .val (.int (Int32.ofNat i)), .val (.int (Int32.ofNat cs.length)), .val (.int (Int32.ofNat i)), s6] [(.int (Int32.ofNat i))])
      refine Go.of (fun _ hr => XS.iload X.here hx rfl (hb hby d55_5) rfl  hr) ?_
      show Go p e s below _ _ _ _ T (mkF m 7 #[.val (.ref a1), .val (.int (Int32.ofNat i)), .val (.ref a2), .val (.int (Int32.ofNat i)), .val (.int (Int32.ofNat cs.length)), .val (.int (Int32.ofNat i)), s6] [(.int (Int32.ofNat cs.length)), (.int (Int32.ofNat i))])
      refine Go.of (fun _ hr => XS.icmpNo X.here hx rfl (hb hby d55_7) rfl (tlt (oi_lt (by omega) (by omega) (by omega))).2.1 hr) ?_
      show Go p e s below _ _ _ _ T (mkF m 10 #[.val (.ref a1), .val (.int (Int32.ofNat i)), .val (.ref a2), .val (.int (Int32.ofNat i)), .val (.int (Int32.ofNat cs.length)), .val (.int (Int32.ofNat i)), s6] [])
      refine Go.of (fun _ hr => XS.aloadN X.here hx rfl (hb hby d55_10) rfl rfl hr) ?_
      show Go p e s below _ _ _ _ T (mkF m 11 #[.val (.ref a1), .val (.int (Int32.ofNat i)), .val (.ref a2), .val (.int (Int32.ofNat i)), .val (.int (Int32.ofNat cs.length)), .val (.int (Int32.ofNat i)), s6] [(.ref a1)])
      refine Go.of (fun _ hr => XS.iloadN X.here hx rfl (hb hby d55_11) rfl  hr) ?_
      show Go p e s below _ _ _ _ T (mkF m 12 #[.val (.ref a1), .val (.int (Int32.ofNat i)), .val (.ref a2), .val (.int (Int32.ofNat i)), .val (.int (Int32.ofNat cs.length)), .val (.int (Int32.ofNat i)), s6] [(.int (Int32.ofNat i)), (.ref a1)])
      obtain ⟨x, hxe⟩ : ∃ x, cs.getD i 0 = x := ⟨_, rfl⟩
      obtain ⟨cl101, Ar101, q101, S101, N101_, H101, G101⟩ := id V1
      have hin101 : ¬ ((Int32.ofNat i) < 0 ∨ cl101.slots.size ≤ ((Int32.ofNat i)).toNatClampNeg) := inb_of S101 ⟨oi_nn (by omega), oi_lt (by omega) (by omega) (by omega)⟩
      refine Go.of (fun _ hr => X.caload hx (j := (Int32.ofNat i)) (v := (.int x)) (by rw [eT]; exact Ar101.1) (State.isArrayOf_alike hZ.alike Ar101.2.1) Ar101.2.2 hin101 (H101.at hin101 (by rw [oi_nat (by omega), getD_int, hxe])) (g := (mkF m 12 #[.val (.ref a1), .val (.int (Int32.ofNat i)), .val (.ref a2), .val (.int (Int32.ofNat i)), .val (.int (Int32.ofNat cs.length)), .val (.int (Int32.ofNat i)), s6] [(.int (Int32.ofNat i)), (.ref a1)])) rfl rfl (hb hby d55_12) _ hr) ?_
      show Go p e s below _ _ _ _ T (mkF m 13 #[.val (.ref a1), .val (.int (Int32.ofNat i)), .val (.ref a2), .val (.int (Int32.ofNat i)), .val (.int (Int32.ofNat cs.length)), .val (.int (Int32.ofNat i)), s6] [(.int x)])
      refine Go.of (fun _ hr => XS.istore X.here hx rfl (hb hby d55_13) rfl (l' := #[.val (.ref a1), .val (.int (Int32.ofNat i)), .val (.ref a2), .val (.int (Int32.ofNat i)), .val (.int (Int32.ofNat cs.length)), .val (.int (Int32.ofNat i)), .val (.int x)]) (own_st6 one6) hr) ?_
      show Go p e s below _ _ _ _ T (mkF m 15 #[.val (.ref a1), .val (.int (Int32.ofNat i)), .val (.ref a2), .val (.int (Int32.ofNat i)), .val (.int (Int32.ofNat cs.length)), .val (.int (Int32.ofNat i)), .val (.int x)] [])
      refine Go.of (fun _ hr => XS.iload X.here hx rfl (hb hby d55_15) rfl  hr) ?_
      show Go p e s below _ _ _ _ T (mkF m 17 #[.val (.ref a1), .val (.int (Int32.ofNat i)), .val (.ref a2), .val (.int (Int32.ofNat i)), .val (.int (Int32.ofNat cs.length)), .val (.int (Int32.ofNat i)), .val (.int x)] [(.int x)])
      refine Go.of (fun _ hr => XS.sipush X.here hx rfl (hb hby d55_17) hr) ?_
      show Go p e s below _ _ _ _ T (mkF m 20 #[.val (.ref a1), .val (.int (Int32.ofNat i)), .val (.ref a2), .val (.int (Int32.ofNat i)), .val (.int (Int32.ofNat cs.length)), .val (.int (Int32.ofNat i)), .val (.int x)] [(.int (255 : Int32)), (.int x)])
      refine Go.of (fun _ hr => XS.icmpNo X.here hx rfl (hb hby d55_20) rfl (tlt (hxe ▸ he)).2.2.2 hr) ?_
      show Go p e s below _ _ _ _ T (mkF m 23 #[.val (.ref a1), .val (.int (Int32.ofNat i)), .val (.ref a2), .val (.int (Int32.ofNat i)), .val (.int (Int32.ofNat cs.length)), .val (.int (Int32.ofNat i)), .val (.int x)] [])
      refine Go.of (fun _ hr => XS.iload X.here hx rfl (hb hby d55_23) rfl  hr) ?_
      show Go p e s below _ _ _ _ T (mkF m 25 #[.val (.ref a1), .val (.int (Int32.ofNat i)), .val (.ref a2), .val (.int (Int32.ofNat i)), .val (.int (Int32.ofNat cs.length)), .val (.int (Int32.ofNat i)), .val (.int x)] [(.int (Int32.ofNat i))])
      exact Go.retI X hx hlk B0 J0 eT hret (hb hby d55_25) (by omega) (by omega) (fun vm_ hw_ => hQ _ _ _ K0 N0 V2)
  | succ r ih =>
    intro i hi T h locs cells slots s6 one6 X eT O0 N0 K0 J0 B0 V1 V2 hK hN
    show Go p e s below _ _ _ _ T (mkF m 3 #[.val (.ref a1), .val (.int (Int32.ofNat i)), .val (.ref a2), .val (.int (Int32.ofNat i)), .val (.int (Int32.ofNat cs.length)), .val (.int (Int32.ofNat i)), s6] [])
    refine Go.of (fun _ hr => XS.iload X.here hx rfl (hb hby d55_3) rfl  hr) ?_
    show Go p e s below _ _ _ _ T (mkF m 5 #[.val (.ref a1), .val (.int (Int32.ofNat i)), .val (.ref a2), .val (.int (Int32.ofNat i)), .val (.int (Int32.ofNat cs.length)), .val (.int (Int32.ofNat i)), s6] [(.int (Int32.ofNat i))])
    refine Go.of (fun _ hr => XS.iload X.here hx rfl (hb hby d55_5) rfl  hr) ?_
    show Go p e s below _ _ _ _ T (mkF m 7 #[.val (.ref a1), .val (.int (Int32.ofNat i)), .val (.ref a2), .val (.int (Int32.ofNat i)), .val (.int (Int32.ofNat cs.length)), .val (.int (Int32.ofNat i)), s6] [(.int (Int32.ofNat cs.length)), (.int (Int32.ofNat i))])
    refine Go.of (fun _ hr => XS.icmpNo X.here hx rfl (hb hby d55_7) rfl (tlt (oi_lt (by omega) (by omega) (by omega))).2.1 hr) ?_
    show Go p e s below _ _ _ _ T (mkF m 10 #[.val (.ref a1), .val (.int (Int32.ofNat i)), .val (.ref a2), .val (.int (Int32.ofNat i)), .val (.int (Int32.ofNat cs.length)), .val (.int (Int32.ofNat i)), s6] [])
    refine Go.of (fun _ hr => XS.aloadN X.here hx rfl (hb hby d55_10) rfl rfl hr) ?_
    show Go p e s below _ _ _ _ T (mkF m 11 #[.val (.ref a1), .val (.int (Int32.ofNat i)), .val (.ref a2), .val (.int (Int32.ofNat i)), .val (.int (Int32.ofNat cs.length)), .val (.int (Int32.ofNat i)), s6] [(.ref a1)])
    refine Go.of (fun _ hr => XS.iloadN X.here hx rfl (hb hby d55_11) rfl  hr) ?_
    show Go p e s below _ _ _ _ T (mkF m 12 #[.val (.ref a1), .val (.int (Int32.ofNat i)), .val (.ref a2), .val (.int (Int32.ofNat i)), .val (.int (Int32.ofNat cs.length)), .val (.int (Int32.ofNat i)), s6] [(.int (Int32.ofNat i)), (.ref a1)])
    obtain ⟨x, hxe⟩ : ∃ x, cs.getD i 0 = x := ⟨_, rfl⟩
    obtain ⟨cl102, Ar102, q102, S102, N102_, H102, G102⟩ := id V1
    have hin102 : ¬ ((Int32.ofNat i) < 0 ∨ cl102.slots.size ≤ ((Int32.ofNat i)).toNatClampNeg) := inb_of S102 ⟨oi_nn (by omega), oi_lt (by omega) (by omega) (by omega)⟩
    refine Go.of (fun _ hr => X.caload hx (j := (Int32.ofNat i)) (v := (.int x)) (by rw [eT]; exact Ar102.1) (State.isArrayOf_alike hZ.alike Ar102.2.1) Ar102.2.2 hin102 (H102.at hin102 (by rw [oi_nat (by omega), getD_int, hxe])) (g := (mkF m 12 #[.val (.ref a1), .val (.int (Int32.ofNat i)), .val (.ref a2), .val (.int (Int32.ofNat i)), .val (.int (Int32.ofNat cs.length)), .val (.int (Int32.ofNat i)), s6] [(.int (Int32.ofNat i)), (.ref a1)])) rfl rfl (hb hby d55_12) _ hr) ?_
    show Go p e s below _ _ _ _ T (mkF m 13 #[.val (.ref a1), .val (.int (Int32.ofNat i)), .val (.ref a2), .val (.int (Int32.ofNat i)), .val (.int (Int32.ofNat cs.length)), .val (.int (Int32.ofNat i)), s6] [(.int x)])
    refine Go.of (fun _ hr => XS.istore X.here hx rfl (hb hby d55_13) rfl (l' := #[.val (.ref a1), .val (.int (Int32.ofNat i)), .val (.ref a2), .val (.int (Int32.ofNat i)), .val (.int (Int32.ofNat cs.length)), .val (.int (Int32.ofNat i)), .val (.int x)]) (own_st6 one6) hr) ?_
    show Go p e s below _ _ _ _ T (mkF m 15 #[.val (.ref a1), .val (.int (Int32.ofNat i)), .val (.ref a2), .val (.int (Int32.ofNat i)), .val (.int (Int32.ofNat cs.length)), .val (.int (Int32.ofNat i)), .val (.int x)] [])
    refine Go.of (fun _ hr => XS.iload X.here hx rfl (hb hby d55_15) rfl  hr) ?_
    show Go p e s below _ _ _ _ T (mkF m 17 #[.val (.ref a1), .val (.int (Int32.ofNat i)), .val (.ref a2), .val (.int (Int32.ofNat i)), .val (.int (Int32.ofNat cs.length)), .val (.int (Int32.ofNat i)), .val (.int x)] [(.int x)])
    refine Go.of (fun _ hr => XS.sipush X.here hx rfl (hb hby d55_17) hr) ?_
    show Go p e s below _ _ _ _ T (mkF m 20 #[.val (.ref a1), .val (.int (Int32.ofNat i)), .val (.ref a2), .val (.int (Int32.ofNat i)), .val (.int (Int32.ofNat cs.length)), .val (.int (Int32.ofNat i)), .val (.int x)] [(.int (255 : Int32)), (.int x)])
    refine Go.of (fun _ hr => XS.icmpYes X.here hx rfl (pc0 := 20) (pc' := 26) rfl (hb hby d55_20) rfl (flt (hxe ▸ hlt i (by omega))).2.2.2 (by decide) (by decide) hr) ?_
    show Go p e s below _ _ _ _ T (mkF m 26 #[.val (.ref a1), .val (.int (Int32.ofNat i)), .val (.ref a2), .val (.int (Int32.ofNat i)), .val (.int (Int32.ofNat cs.length)), .val (.int (Int32.ofNat i)), .val (.int x)] [])
    refine Go.of (fun _ hr => XS.aloadN X.here hx rfl (hb hby d55_26) rfl rfl hr) ?_
    show Go p e s below _ _ _ _ T (mkF m 27 #[.val (.ref a1), .val (.int (Int32.ofNat i)), .val (.ref a2), .val (.int (Int32.ofNat i)), .val (.int (Int32.ofNat cs.length)), .val (.int (Int32.ofNat i)), .val (.int x)] [(.ref a2)])
    refine Go.of (fun _ hr => XS.iloadN X.here hx rfl (hb hby d55_27) rfl  hr) ?_
    show Go p e s below _ _ _ _ T (mkF m 28 #[.val (.ref a1), .val (.int (Int32.ofNat i)), .val (.ref a2), .val (.int (Int32.ofNat i)), .val (.int (Int32.ofNat cs.length)), .val (.int (Int32.ofNat i)), .val (.int x)] [(.int (Int32.ofNat i)), (.ref a2)])
    refine Go.of (fun _ hr => XS.iload X.here hx rfl (hb hby d55_28) rfl  hr) ?_
    show Go p e s below _ _ _ _ T (mkF m 30 #[.val (.ref a1), .val (.int (Int32.ofNat i)), .val (.ref a2), .val (.int (Int32.ofNat i)), .val (.int (Int32.ofNat cs.length)), .val (.int (Int32.ofNat i)), .val (.int x)] [(.int x), (.int (Int32.ofNat i)), (.ref a2)])
    refine Go.of (fun _ hr => XS.i2b X.here hx rfl (hb hby d55_30) rfl hr) ?_
    show Go p e s below _ _ _ _ T (mkF m 31 #[.val (.ref a1), .val (.int (Int32.ofNat i)), .val (.ref a2), .val (.int (Int32.ofNat i)), .val (.int (Int32.ofNat cs.length)), .val (.int (Int32.ofNat i)), .val (.int x)] [(.int (x.toInt8.toInt32)), (.int (Int32.ofNat i)), (.ref a2)])
    obtain ⟨cl103, Ar103, q103, S103, N103_, H103, G103⟩ := id V2
    have hin103 : ¬ (Int32.ofNat i < 0 ∨ cl103.slots.size ≤ (Int32.ofNat i).toNatClampNeg) := inb_of S103 ⟨oi_nn (by omega), oi_lt (by omega) (by omega) (by omega)⟩
    obtain ⟨T103, h103, X103, e103, W103, st103⟩ := stB X hx hZ eT Ar103 (j := Int32.ofNat i) hin103 (g := (mkF m 31 #[.val (.ref a1), .val (.int (Int32.ofNat i)), .val (.ref a2), .val (.int (Int32.ofNat i)), .val (.int (Int32.ofNat cs.length)), .val (.int (Int32.ofNat i)), .val (.int x)] [(.int (x.toInt8.toInt32)), (.int (Int32.ofNat i)), (.ref a2)])) rfl rfl (hb hby d55_31)
    rw [nar_b] at W103
    have V103 : Arv Z h103 a2 k2 .byte (Int32.ofNat cs.length) ((cs.take (i + 1)).map fun x => Value.int (lo8 x)) (.int 0) := by
        have q := own_push V2 W103 (by rw [oi_nat (by omega)]; simp; omega) (fits_b x)
        rw [← hxe, take_push cs (show i < cs.length by omega) (fun x => Value.int (lo8 x))] at q; exact q
    have N103 := Fr.snoc X103 N0 fr_a2
    have J103 := J0.wr W103 hm_a2
    have B103 := B0.mono (Nat.le_of_eq W103.size.symm)
    have O103 := O0.wr W103 (Nat.le_trans hb0 fr_a2)
    have K103 := K0.wr W103 (Or.inl (List.mem_of_getElem? (i := 0) rfl))
    refine Go.of (fun _ hr => st103 _ hr) ?_
    show Go p e s below _ _ _ _ T103 (mkF m 32 #[.val (.ref a1), .val (.int (Int32.ofNat i)), .val (.ref a2), .val (.int (Int32.ofNat i)), .val (.int (Int32.ofNat cs.length)), .val (.int (Int32.ofNat i)), .val (.int x)] [])
    refine Go.of (fun _ hr => XS.iinc X103.here hx rfl (hb hby d55_32) rfl (l' := #[.val (.ref a1), .val (.int ((Int32.ofNat i) + (1 : Int32))), .val (.ref a2), .val (.int (Int32.ofNat i)), .val (.int (Int32.ofNat cs.length)), .val (.int (Int32.ofNat i)), .val (.int x)]) rfl hr) ?_
    show Go p e s below _ _ _ _ T103 (mkF m 35 #[.val (.ref a1), .val (.int ((Int32.ofNat i) + (1 : Int32))), .val (.ref a2), .val (.int (Int32.ofNat i)), .val (.int (Int32.ofNat cs.length)), .val (.int (Int32.ofNat i)), .val (.int x)] [])
    refine Go.of (fun _ hr => XS.iinc X103.here hx rfl (hb hby d55_35) rfl (l' := #[.val (.ref a1), .val (.int ((Int32.ofNat i) + (1 : Int32))), .val (.ref a2), .val (.int ((Int32.ofNat i) + (1 : Int32))), .val (.int (Int32.ofNat cs.length)), .val (.int (Int32.ofNat i)), .val (.int x)]) rfl hr) ?_
    show Go p e s below _ _ _ _ T103 (mkF m 38 #[.val (.ref a1), .val (.int ((Int32.ofNat i) + (1 : Int32))), .val (.ref a2), .val (.int ((Int32.ofNat i) + (1 : Int32))), .val (.int (Int32.ofNat cs.length)), .val (.int (Int32.ofNat i)), .val (.int x)] [])
    refine Go.of (fun _ hr => XS.iinc X103.here hx rfl (hb hby d55_38) rfl (l' := #[.val (.ref a1), .val (.int ((Int32.ofNat i) + (1 : Int32))), .val (.ref a2), .val (.int ((Int32.ofNat i) + (1 : Int32))), .val (.int (Int32.ofNat cs.length)), .val (.int ((Int32.ofNat i) + (1 : Int32))), .val (.int x)]) rfl hr) ?_
    show Go p e s below _ _ _ _ T103 (mkF m 41 #[.val (.ref a1), .val (.int ((Int32.ofNat i) + (1 : Int32))), .val (.ref a2), .val (.int ((Int32.ofNat i) + (1 : Int32))), .val (.int (Int32.ofNat cs.length)), .val (.int ((Int32.ofNat i) + (1 : Int32))), .val (.int x)] [])
    refine Go.of (fun _ hr => XS.goto X103.here hx rfl (pc0 := 41) (pc' := 3) rfl (hb hby d55_41) (by decide) (by decide) hr) ?_
    show Go p e s below _ _ _ _ T103 (mkF m 3 #[.val (.ref a1), .val (.int ((Int32.ofNat i) + (1 : Int32))), .val (.ref a2), .val (.int ((Int32.ofNat i) + (1 : Int32))), .val (.int (Int32.ofNat cs.length)), .val (.int ((Int32.ofNat i) + (1 : Int32))), .val (.int x)] [])
    simp only [oi_succ (show i + 1 < 2147483648 by omega)]
    have f104 := (V1.other W103 ne12)
    exact ih (i + 1) (by omega) T103 h103 _ _ _ _ (One.val rfl) X103 e103 O103 N103 K103 J103 B103 f104 V103 hK hN

theorem pn0 : plainName "java/lang/StringUTF16" = true := by first | (simp [plainName, overriddenIn]; done) | decide +kernel
theorem d55_0 : decode jdk_52_method_21_code 0 = .ok (.iconst 0, 1) := by decide +kernel
theorem d55_1 : decode jdk_52_method_21_code 1 = .ok (.istore 5, 2) := by decide +kernel
set_option maxRecDepth 65536 in
set_option maxHeartbeats 40000000 in
theorem rm55 (l : Launch) (Z : State) (a0 : Array Value) (hw : ∀ d ∈ tables_1, d.before a0 Z = true) (ws : List Jvm.Cond) (a1 a2 : Addr) (k1 k2 : ClassId) (cs : List Int32) (j : Nat) (ms : List Addr) (h0 : Heap) (n0 : Nat) (O0 : Old Z n0 h0) (nb : Nat) (hb0 : n0 ≤ nb) (hnb : nb ≤ h0.size) (fr_a2 : nb ≤ a2) (hm_a2 : a2 ∈ ms) (hn : cs.length ≤ 16) (hr : ∀ x ∈ cs, rng16 x) (hj : j ≤ cs.length) (hlt : ∀ i, i < j → ¬ 255 < cs.getD i 0) (hend : j = cs.length ∨ 255 < cs.getD j 0) (ne12 : a1 ≠ a2) (V1 : Arv Z h0 a1 k1 .char (Int32.ofNat cs.length) (cs.map Value.int) (.int 0)) (V2 : Arv Z h0 a2 k2 .byte (Int32.ofNat cs.length) [] (.int 0)) :
    Con l Z ms (⟨"java/lang/StringUTF16", "compress", "([CI[BII)I"⟩ : MethodName) jdk_52_method_21_code 7 (some .int) ws ({ frames := 0, cells := 0, slots := 0, locals := 0 } : Room) #[(.ref a1), (.int (0 : Int32)), (.ref a2), (.int (0 : Int32)), (.int (Int32.ofNat cs.length))] h0 (fun v vm h L => v = some (.int (Int32.ofNat j)) ∧ Fr nb L ∧ Keep h0 h [a2] ∧ Arv Z h a2 k2 .byte (Int32.ofNat cs.length) ((cs.take j).map fun x => Value.int (lo8 x)) (.int 0)) := by
  refine Con.mk (plainFor_of_name pn0) ?_
  intro p e s m below meth c s₁ Cc X0 e0 eb J0 B0 M0
  obtain ⟨hx, hZ, hown, hby, hml, hnm, hret, hlk⟩ := id Cc
  have N0 := Fr.nil nb
  have K0 := Keep.refl h0 [a2]
  show Go p e s below _ _ _ _ s₁ (mkF m 0 #[.val (.ref a1), .val (.int (0 : Int32)), .val (.ref a2), .val (.int (0 : Int32)), .val (.int (Int32.ofNat cs.length)), .unset, .unset] [])
  refine Go.of (fun _ hr => XS.iconst X0.here hx rfl (hb hby d55_0) hr) ?_
  show Go p e s below _ _ _ _ s₁ (mkF m 1 #[.val (.ref a1), .val (.int (0 : Int32)), .val (.ref a2), .val (.int (0 : Int32)), .val (.int (Int32.ofNat cs.length)), .unset, .unset] [(.int (0 : Int32))])
  refine Go.of (fun _ hr => XS.istore X0.here hx rfl (hb hby d55_1) rfl (l' := #[.val (.ref a1), .val (.int (0 : Int32)), .val (.ref a2), .val (.int (0 : Int32)), .val (.int (Int32.ofNat cs.length)), .val (.int (0 : Int32)), .unset]) rfl hr) ?_
  show Go p e s below _ _ _ _ s₁ (mkF m 3 #[.val (.ref a1), .val (.int (0 : Int32)), .val (.ref a2), .val (.int (0 : Int32)), .val (.int (Int32.ofNat cs.length)), .val (.int (0 : Int32)), .unset] [])
  exact cloopU Cc a1 a2 k1 k2 cs j hn hr hj hlt hend ne12 hb0 hnb fr_a2 hm_a2 (fun vm h L q1 q2 q3 => ⟨rfl, q2, q1, q3⟩) j 0 (Nat.zero_add _) s₁ h0 _ _ _ _ One.u X0 e0 O0 N0 K0 J0 B0 V1 V2 (by decide) (by decide)

theorem oi_big {i : Nat} (h : i ≤ 1000) : Int32.ofNat i < (1073741823 : Int32) := by
  rw [Int32.lt_iff_toInt_lt, oi_toInt (by omega), show (1073741823 : Int32).toInt = 1073741823 from by decide]; omega

theorem d42_0 : decode jdk_52_method_3_code 0 = .ok (.iload_n 0, 1) := by decide +kernel
theorem d42_1 : decode jdk_52_method_3_code 1 = .ok (.ifCond .ge 11, 3) := by decide +kernel
theorem d42_12 : decode jdk_52_method_3_code 12 = .ok (.iload_n 0, 1) := by decide +kernel
theorem d42_13 : decode jdk_52_method_3_code 13 = .ok (.ldc 20, 2) := by decide +kernel
theorem d42_15 : decode jdk_52_method_3_code 15 = .ok (.if_icmp .lt 40, 3) := by decide +kernel
theorem d42_55 : decode jdk_52_method_3_code 55 = .ok (.iload_n 0, 1) := by decide +kernel
theorem d42_56 : decode jdk_52_method_3_code 56 = .ok (.iconst 1, 1) := by decide +kernel
theorem d42_57 : decode jdk_52_method_3_code 57 = .ok (.ishl, 1) := by decide +kernel
theorem d42_58 : decode jdk_52_method_3_code 58 = .ok (.ireturn, 1) := by decide +kernel
set_option maxRecDepth 65536 in
set_option maxHeartbeats 40000000 in
theorem rm42 (l : Launch) (Z : State) (a0 : Array Value) (hw : ∀ d ∈ tables_1, d.before a0 Z = true) (ws : List Jvm.Cond) (i : Nat) (ms : List Addr) (h0 : Heap) (n0 : Nat) (O0 : Old Z n0 h0) (nb : Nat) (hb0 : n0 ≤ nb) (hnb : nb ≤ h0.size) (hi : i ≤ 1000) :
    Con l Z ms (⟨"java/lang/StringUTF16", "newBytesLength", "(I)I"⟩ : MethodName) jdk_52_method_3_code 1 (some .int) ws ({ frames := 0, cells := 0, slots := 0, locals := 0 } : Room) #[(.int (Int32.ofNat i))] h0 (fun v vm h L => v = some (.int (Int32.ofNat (2 * i))) ∧ Fr nb L ∧ h = h0) := by
  refine Con.mk (plainFor_of_name pn0) ?_
  intro p e s m below meth c s₁ Cc X0 e0 eb J0 B0 M0
  obtain ⟨hx, hZ, hown, hby, hml, hnm, hret, hlk⟩ := id Cc
  have N0 := Fr.nil h0.size
  have K0 := Keep.refl h0 []
  show Go p e s below _ _ _ _ s₁ (mkF m 0 #[.val (.int (Int32.ofNat i))] [])
  refine Go.of (fun _ hr => XS.iloadN X0.here hx rfl (hb hby d42_0) rfl  hr) ?_
  show Go p e s below _ _ _ _ s₁ (mkF m 1 #[.val (.int (Int32.ofNat i))] [(.int (Int32.ofNat i))])
  refine Go.of (fun _ hr => XS.ifYes X0.here hx rfl (pc0 := 1) (pc' := 12) rfl (hb hby d42_1) rfl ((if0 _ _).trans (flt (oi_nn (by omega))).2.1) (by decide) (by decide) hr) ?_
  show Go p e s below _ _ _ _ s₁ (mkF m 12 #[.val (.int (Int32.ofNat i))] [])
  refine Go.of (fun _ hr => XS.iloadN X0.here hx rfl (hb hby d42_12) rfl  hr) ?_
  show Go p e s below _ _ _ _ s₁ (mkF m 13 #[.val (.int (Int32.ofNat i))] [(.int (Int32.ofNat i))])
  refine Go.of (fun _ hr => X0.ldcInt hx hown (mvT hZ (hw _ (List.mem_of_getElem? (i := 219) rfl))) (g := (mkF m 13 #[.val (.int (Int32.ofNat i))] [(.int (Int32.ofNat i))])) rfl (hb hby d42_13) _ hr) ?_
  show Go p e s below _ _ _ _ s₁ (mkF m 15 #[.val (.int (Int32.ofNat i))] [(.int (1073741823 : Int32)), (.int (Int32.ofNat i))])
  refine Go.of (fun _ hr => XS.icmpYes X0.here hx rfl (pc0 := 15) (pc' := 55) rfl (hb hby d42_15) rfl (tlt (oi_big hi)).1 (by decide) (by decide) hr) ?_
  show Go p e s below _ _ _ _ s₁ (mkF m 55 #[.val (.int (Int32.ofNat i))] [])
  refine Go.of (fun _ hr => XS.iloadN X0.here hx rfl (hb hby d42_55) rfl  hr) ?_
  show Go p e s below _ _ _ _ s₁ (mkF m 56 #[.val (.int (Int32.ofNat i))] [(.int (Int32.ofNat i))])
  refine Go.of (fun _ hr => XS.iconst X0.here hx rfl (hb hby d42_56) hr) ?_
  show Go p e s below _ _ _ _ s₁ (mkF m 57 #[.val (.int (Int32.ofNat i))] [(.int (1 : Int32)), (.int (Int32.ofNat i))])
  refine Go.of (fun _ hr => XS.ishl X0.here hx rfl (hb hby d42_57) rfl hr) ?_
  show Go p e s below _ _ _ _ s₁ (mkF m 58 #[.val (.int (Int32.ofNat i))] [(.int ((Int32.ofNat i) <<< ((1 : Int32) &&& 31)))])
  rw [oi_shl1 (by omega)]
  show Go p e s below _ _ _ _ s₁ (mkF m 58 #[.val (.int (Int32.ofNat i))] [(.int (Int32.ofNat (2 * i)))])
  exact Go.retI X0 hx hlk B0 J0 e0 hret (hb hby d42_58) (by decide) (by decide) (fun vm_ hw_ => ⟨rfl, (fun y hy => Nat.le_trans hnb (N0 y hy)), rfl⟩)

theorem d41_0 : decode jdk_52_method_2_code 0 = .ok (.iload_n 0, 1) := by decide +kernel
theorem d41_1 : decode jdk_52_method_2_code 1 = .ok (.invokestatic 11, 3) := by decide +kernel
theorem pd0 : parseMethodDescriptor "(I)I" = some ⟨[.int], some .int⟩ := by decide +kernel
theorem d41_4 : decode jdk_52_method_2_code 4 = .ok (.newarray .byte, 2) := by decide +kernel
theorem d41_6 : decode jdk_52_method_2_code 6 = .ok (.areturn, 1) := by decide +kernel
set_option maxRecDepth 65536 in
set_option maxHeartbeats 40000000 in
theorem rm41 (l : Launch) (Z : State) (a0 : Array Value) (hw : ∀ d ∈ tables_1, d.before a0 Z = true) (ws : List Jvm.Cond) (i : Nat) (ms : List Addr) (h0 : Heap) (n0 : Nat) (O0 : Old Z n0 h0) (nb : Nat) (hb0 : n0 ≤ nb) (hnb : nb ≤ h0.size) (hi : i ≤ 16) :
    Con l Z ms (⟨"java/lang/StringUTF16", "newBytesFor", "(I)[B"⟩ : MethodName) jdk_52_method_2_code 1 (some (.array .byte)) ws ({ frames := 1, cells := 1, slots := 32, locals := 12 } : Room) #[(.int (Int32.ofNat i))] h0 (fun v vm h L => ∃ d k, v = some (.ref d) ∧ Fr nb L ∧ Ext h0 h ∧ h0.size ≤ d ∧ Arv Z h d k .byte (Int32.ofNat (2 * i)) [] (.int 0) ∧ Hd Z (d :: ms) vm h) := by
  refine Con.mk (plainFor_of_name pn0) ?_
  intro p e s m below meth c s₁ Cc X0 e0 eb J0 B0 M0
  obtain ⟨hx, hZ, hown, hby, hml, hnm, hret, hlk⟩ := id Cc
  have N0 := Fr.nil h0.size
  have K0 := Keep.refl h0 []
  show Go p e s below _ _ _ _ s₁ (mkF m 0 #[.val (.int (Int32.ofNat i))] [])
  refine Go.of (fun _ hr => XS.iloadN X0.here hx rfl (hb hby d41_0) rfl  hr) ?_
  show Go p e s below _ _ _ _ s₁ (mkF m 1 #[.val (.int (Int32.ofNat i))] [(.int (Int32.ofNat i))])
  obtain ⟨_, b101, T101, h101, L101, e101, Cc101, X101, B101, J101, g101, hQ101, st101⟩ := own_callS Cc B0 J0 X0 (hw _ (List.mem_of_getElem? (i := 216) rfl)) (hw _ (List.mem_of_getElem? (i := 217) rfl)) (hw _ (List.mem_of_getElem? (i := 199) rfl)) (hw _ (List.mem_of_getElem? (i := 218) rfl)) (by decide) (rm42 l Z a0 hw [] i _ h0 n0 O0 h0.size (own_ole O0) K0.1 (by omega)) e0 (g := (mkF m 1 #[.val (.int (Int32.ofNat i))] [(.int (Int32.ofNat i))])) rfl (by rw [hml]; rfl) (argsL := [(.int (Int32.ofNat i))]) (rest := []) (lenOf pd0 rfl) rfl (W := 0) (by show 2 * 0 + _ ≤ _; exact Nat.le_of_eq rfl) (hb hby d41_1) (by decide) (by decide) (by decide) (by decide)
  obtain ⟨rfl, Nq101, hh101⟩ := hQ101
  have N101 := Fr.app N0 Nq101
  obtain ⟨hx, hZ, hown, hby, hml, hnm, hret, hlk⟩ := id Cc101
  rw [hh101] at e101 B101 J101
  refine Go.of st101 ?_
  show Go p e s below _ _ _ _ T101 (mkF m 4 #[.val (.int (Int32.ofNat i))] [(.int (Int32.ofNat (2 * i)))])
  obtain ⟨T102, h102, k102, X102, e102, E102, A102, st102⟩ := newP X101 hx hZ (hw _ (List.mem_of_getElem? (i := 9) rfl)) e101 (g := (mkF m 4 #[.val (.int (Int32.ofNat i))] [(.int (Int32.ofNat (2 * i)))])) rfl (hb hby d41_4) rfl (oi_nn (by omega)) (cap := 32) (by rw [oi_nat (by omega)]; omega) (by decide) (by decide) (by decide)
  obtain ⟨o102, g102⟩ : ∃ z, z = h0.size := ⟨_, rfl⟩
  rw [← g102] at A102 st102
  have V102 := Arv.new A102 (oi_nn (by omega))
  have lt102 : o102 < h102.size := A102.lt
  have J102 := J101.add E102 g102 lt102
  have B102 := B101.mono E102.1
  have O102 := O0.ext E102
  have sz102 : h0.size ≤ o102 := Nat.le_trans K0.1 (Nat.le_of_eq g102.symm)
  have fr102 : h0.size ≤ o102 := sz102
  have K102 := K0.ext E102
  refine Go.of (fun _ hr => st102 _ hr) ?_
  show Go p e s below _ _ _ _ T102 (mkF m 6 #[.val (.int (Int32.ofNat i))] [(.ref o102)])
  exact Go.retA X102 hx hlk B102 (J102.sub fun x hx => (List.mem_cons_of_mem _ hx)) e102 hret rfl rfl (hb hby d41_6) (by decide) (by decide) (fun vm_ hw_ => ⟨_, _, rfl, (fun y hy => Nat.le_trans hnb (N101 y hy)), keep_ext K102, sz102, V102, J102.warm hw_⟩)

theorem d39_0 : decode jdk_52_method_4_code 0 = .ok (.getstatic 44, 3) := by decide +kernel
theorem d39_3 : decode jdk_52_method_4_code 3 = .ok (.ifCond .ne 25, 3) := by decide +kernel
theorem d39_28 : decode jdk_52_method_4_code 28 = .ok (.iload_n 1, 1) := by decide +kernel
theorem d39_29 : decode jdk_52_method_4_code 29 = .ok (.iconst 1, 1) := by decide +kernel
theorem d39_30 : decode jdk_52_method_4_code 30 = .ok (.ishl, 1) := by decide +kernel
theorem d39_31 : decode jdk_52_method_4_code 31 = .ok (.istore_n 1, 1) := by decide +kernel
theorem d39_32 : decode jdk_52_method_4_code 32 = .ok (.aload_n 0, 1) := by decide +kernel
theorem d39_33 : decode jdk_52_method_4_code 33 = .ok (.iload_n 1, 1) := by decide +kernel
theorem d39_34 : decode jdk_52_method_4_code 34 = .ok (.iinc 1 1, 3) := by decide +kernel
theorem d39_37 : decode jdk_52_method_4_code 37 = .ok (.iload_n 2, 1) := by decide +kernel
theorem d39_38 : decode jdk_52_method_4_code 38 = .ok (.getstatic 59, 3) := by decide +kernel
theorem d39_41 : decode jdk_52_method_4_code 41 = .ok (.ishr, 1) := by decide +kernel
theorem d39_42 : decode jdk_52_method_4_code 42 = .ok (.i2b, 1) := by decide +kernel
theorem d39_43 : decode jdk_52_method_4_code 43 = .ok (.bastore, 1) := by decide +kernel
theorem d39_44 : decode jdk_52_method_4_code 44 = .ok (.aload_n 0, 1) := by decide +kernel
theorem d39_45 : decode jdk_52_method_4_code 45 = .ok (.iload_n 1, 1) := by decide +kernel
theorem d39_46 : decode jdk_52_method_4_code 46 = .ok (.iload_n 2, 1) := by decide +kernel
theorem d39_47 : decode jdk_52_method_4_code 47 = .ok (.getstatic 63, 3) := by decide +kernel
theorem d39_50 : decode jdk_52_method_4_code 50 = .ok (.ishr, 1) := by decide +kernel
theorem d39_51 : decode jdk_52_method_4_code 51 = .ok (.i2b, 1) := by decide +kernel
theorem d39_52 : decode jdk_52_method_4_code 52 = .ok (.bastore, 1) := by decide +kernel
theorem d39_53 : decode jdk_52_method_4_code 53 = .ok (.return_, 1) := by decide +kernel
set_option maxRecDepth 65536 in
set_option maxHeartbeats 40000000 in
theorem rm39 (l : Launch) (Z : State) (a0 : Array Value) (hw : ∀ d ∈ tables_1, d.before a0 Z = true) (ws : List Jvm.Cond) (a1 : Addr) (k1 : ClassId) (us : List Int32) (q i : Nat) (c1 : Int32) (ms : List Addr) (h0 : Heap) (n0 : Nat) (O0 : Old Z n0 h0) (nb : Nat) (hb0 : n0 ≤ nb) (hnb : nb ≤ h0.size) (fr_a1 : nb ≤ a1) (hm_a1 : a1 ∈ ms) (S_D : Sta Z Z.heap "java/lang/StringUTF16" "$assertionsDisabled" "Z" (.int 1)) (S_H : Sta Z Z.heap "java/lang/StringUTF16" "HI_BYTE_SHIFT" "I" (.int 0)) (S_L : Sta Z Z.heap "java/lang/StringUTF16" "LO_BYTE_SHIFT" "I" (.int 8)) (hq : q ≤ 1000) (hi : i < q) (hu : us.length = 2 * i) (V1 : Arv Z h0 a1 k1 .byte (Int32.ofNat (2 * q)) (us.map Value.int) (.int 0)) :
    Con l Z ms (⟨"java/lang/StringUTF16", "putChar", "([BII)V"⟩ : MethodName) jdk_52_method_4_code 3 none ws ({ frames := 0, cells := 0, slots := 0, locals := 0 } : Room) #[(.ref a1), (.int (Int32.ofNat i)), (.int c1)] h0 (fun v vm h L => v = none ∧ Fr nb L ∧ Keep h0 h [a1] ∧ Arv Z h a1 k1 .byte (Int32.ofNat (2 * q)) ((us ++ [lo8 c1, hi8 c1]).map Value.int) (.int 0)) := by
  refine Con.mk (plainFor_of_name pn0) ?_
  intro p e s m below meth c s₁ Cc X0 e0 eb J0 B0 M0
  obtain ⟨hx, hZ, hown, hby, hml, hnm, hret, hlk⟩ := id Cc
  have N0 := Fr.nil nb
  have K0 := Keep.refl h0 [a1]
  show Go p e s below _ _ _ _ s₁ (mkF m 0 #[.val (.ref a1), .val (.int (Int32.ofNat i)), .val (.int c1)] [])
  obtain ⟨T101, X101, e101, st101⟩ := getS2 X0 hx hZ hown (host := "") (Or.inl (hw _ (List.mem_of_getElem? (i := 204) rfl))) Via.refl e0 (S_D.ext O0.2) (g := (mkF m 0 #[.val (.ref a1), .val (.int (Int32.ofNat i)), .val (.int c1)] [])) rfl (hb hby d39_0)
  refine Go.of (fun _ hr => st101 _ hr) ?_
  show Go p e s below _ _ _ _ T101 (mkF m 3 #[.val (.ref a1), .val (.int (Int32.ofNat i)), .val (.int c1)] [(.int (1 : Int32))])
  refine Go.of (fun _ hr => XS.ifYes X101.here hx rfl (pc0 := 3) (pc' := 28) rfl (hb hby d39_3) rfl ((if0 _ _).trans (feq (by decide : ¬ ((1 : Int32) = (0 : Int32)))).2) (by decide) (by decide) hr) ?_
  show Go p e s below _ _ _ _ T101 (mkF m 28 #[.val (.ref a1), .val (.int (Int32.ofNat i)), .val (.int c1)] [])
  refine Go.of (fun _ hr => XS.iloadN X101.here hx rfl (hb hby d39_28) rfl  hr) ?_
  show Go p e s below _ _ _ _ T101 (mkF m 29 #[.val (.ref a1), .val (.int (Int32.ofNat i)), .val (.int c1)] [(.int (Int32.ofNat i))])
  refine Go.of (fun _ hr => XS.iconst X101.here hx rfl (hb hby d39_29) hr) ?_
  show Go p e s below _ _ _ _ T101 (mkF m 30 #[.val (.ref a1), .val (.int (Int32.ofNat i)), .val (.int c1)] [(.int (1 : Int32)), (.int (Int32.ofNat i))])
  refine Go.of (fun _ hr => XS.ishl X101.here hx rfl (hb hby d39_30) rfl hr) ?_
  show Go p e s below _ _ _ _ T101 (mkF m 31 #[.val (.ref a1), .val (.int (Int32.ofNat i)), .val (.int c1)] [(.int ((Int32.ofNat i) <<< ((1 : Int32) &&& 31)))])
  rw [oi_shl1 (by omega)]
  show Go p e s below _ _ _ _ T101 (mkF m 31 #[.val (.ref a1), .val (.int (Int32.ofNat i)), .val (.int c1)] [(.int (Int32.ofNat (2 * i)))])
  refine Go.of (fun _ hr => XS.istoreN X101.here hx rfl (hb hby d39_31) rfl (l' := #[.val (.ref a1), .val (.int (Int32.ofNat (2 * i))), .val (.int c1)]) rfl hr) ?_
  show Go p e s below _ _ _ _ T101 (mkF m 32 #[.val (.ref a1), .val (.int (Int32.ofNat (2 * i))), .val (.int c1)] [])
  refine Go.of (fun _ hr => XS.aloadN X101.here hx rfl (hb hby d39_32) rfl rfl hr) ?_
  show Go p e s below _ _ _ _ T101 (mkF m 33 #[.val (.ref a1), .val (.int (Int32.ofNat (2 * i))), .val (.int c1)] [(.ref a1)])
  refine Go.of (fun _ hr => XS.iloadN X101.here hx rfl (hb hby d39_33) rfl  hr) ?_
  show Go p e s below _ _ _ _ T101 (mkF m 34 #[.val (.ref a1), .val (.int (Int32.ofNat (2 * i))), .val (.int c1)] [(.int (Int32.ofNat (2 * i))), (.ref a1)])
  refine Go.of (fun _ hr => XS.iinc X101.here hx rfl (hb hby d39_34) rfl (l' := #[.val (.ref a1), .val (.int ((Int32.ofNat (2 * i)) + (1 : Int32))), .val (.int c1)]) rfl hr) ?_
  show Go p e s below _ _ _ _ T101 (mkF m 37 #[.val (.ref a1), .val (.int ((Int32.ofNat (2 * i)) + (1 : Int32))), .val (.int c1)] [(.int (Int32.ofNat (2 * i))), (.ref a1)])
  simp only [oi_succ (show 2 * i + 1 < 2147483648 by omega)]
  show Go p e s below _ _ _ _ T101 (mkF m 37 #[.val (.ref a1), .val (.int (Int32.ofNat (2 * i + 1))), .val (.int c1)] [(.int (Int32.ofNat (2 * i))), (.ref a1)])
  refine Go.of (fun _ hr => XS.iloadN X101.here hx rfl (hb hby d39_37) rfl  hr) ?_
  show Go p e s below _ _ _ _ T101 (mkF m 38 #[.val (.ref a1), .val (.int (Int32.ofNat (2 * i + 1))), .val (.int c1)] [(.int c1), (.int (Int32.ofNat (2 * i))), (.ref a1)])
  obtain ⟨T102, X102, e102, st102⟩ := getS2 X101 hx hZ hown (host := "") (Or.inl (hw _ (List.mem_of_getElem? (i := 205) rfl))) Via.refl e101 (S_H.ext O0.2) (g := (mkF m 38 #[.val (.ref a1), .val (.int (Int32.ofNat (2 * i + 1))), .val (.int c1)] [(.int c1), (.int (Int32.ofNat (2 * i))), (.ref a1)])) rfl (hb hby d39_38)
  refine Go.of (fun _ hr => st102 _ hr) ?_
  show Go p e s below _ _ _ _ T102 (mkF m 41 #[.val (.ref a1), .val (.int (Int32.ofNat (2 * i + 1))), .val (.int c1)] [(.int (0 : Int32)), (.int c1), (.int (Int32.ofNat (2 * i))), (.ref a1)])
  refine Go.of (fun _ hr => XS.ishr X102.here hx rfl (hb hby d39_41) rfl hr) ?_
  show Go p e s below _ _ _ _ T102 (mkF m 42 #[.val (.ref a1), .val (.int (Int32.ofNat (2 * i + 1))), .val (.int c1)] [(.int (c1 >>> ((0 : Int32) &&& 31))), (.int (Int32.ofNat (2 * i))), (.ref a1)])
  rw [own_sh0]
  show Go p e s below _ _ _ _ T102 (mkF m 42 #[.val (.ref a1), .val (.int (Int32.ofNat (2 * i + 1))), .val (.int c1)] [(.int c1), (.int (Int32.ofNat (2 * i))), (.ref a1)])
  refine Go.of (fun _ hr => XS.i2b X102.here hx rfl (hb hby d39_42) rfl hr) ?_
  show Go p e s below _ _ _ _ T102 (mkF m 43 #[.val (.ref a1), .val (.int (Int32.ofNat (2 * i + 1))), .val (.int c1)] [(.int (c1.toInt8.toInt32)), (.int (Int32.ofNat (2 * i))), (.ref a1)])
  obtain ⟨cl103, Ar103, q103, S103, N103_, H103, G103⟩ := id V1
  have hin103 : ¬ ((Int32.ofNat (2 * i)) < 0 ∨ cl103.slots.size ≤ ((Int32.ofNat (2 * i))).toNatClampNeg) := inb_of S103 ⟨oi_nn (by omega), oi_lt (by omega) (by omega) (by omega)⟩
  obtain ⟨T103, h103, X103, e103, W103, st103⟩ := stB X102 hx hZ e102 Ar103 (j := (Int32.ofNat (2 * i))) hin103 (g := (mkF m 43 #[.val (.ref a1), .val (.int (Int32.ofNat (2 * i + 1))), .val (.int c1)] [(.int (c1.toInt8.toInt32)), (.int (Int32.ofNat (2 * i))), (.ref a1)])) rfl rfl (hb hby d39_43)
  rw [nar_b] at W103
  have V103 : Arv Z h103 a1 k1 .byte (Int32.ofNat (2 * q)) ((us ++ [lo8 c1]).map Value.int) (.int 0) := by have q := own_push V1 W103 (by rw [oi_nat (by omega)]; rw [List.length_map]; omega) (fits_b c1); rw [push1] at q; exact q
  have N103 := Fr.snoc X103 N0 fr_a1
  have J103 := J0.wr W103 hm_a1
  have B103 := B0.mono (Nat.le_of_eq W103.size.symm)
  have O103 := O0.wr W103 (Nat.le_trans hb0 fr_a1)
  have K103 := K0.wr W103 (Or.inl (List.mem_of_getElem? (i := 0) rfl))
  refine Go.of (fun _ hr => st103 _ hr) ?_
  show Go p e s below _ _ _ _ T103 (mkF m 44 #[.val (.ref a1), .val (.int (Int32.ofNat (2 * i + 1))), .val (.int c1)] [])
  refine Go.of (fun _ hr => XS.aloadN X103.here hx rfl (hb hby d39_44) rfl rfl hr) ?_
  show Go p e s below _ _ _ _ T103 (mkF m 45 #[.val (.ref a1), .val (.int (Int32.ofNat (2 * i + 1))), .val (.int c1)] [(.ref a1)])
  refine Go.of (fun _ hr => XS.iloadN X103.here hx rfl (hb hby d39_45) rfl  hr) ?_
  show Go p e s below _ _ _ _ T103 (mkF m 46 #[.val (.ref a1), .val (.int (Int32.ofNat (2 * i + 1))), .val (.int c1)] [(.int (Int32.ofNat (2 * i + 1))), (.ref a1)])
  refine Go.of (fun _ hr => XS.iloadN X103.here hx rfl (hb hby d39_46) rfl  hr) ?_
  show Go p e s below _ _ _ _ T103 (mkF m 47 #[.val (.ref a1), .val (.int (Int32.ofNat (2 * i + 1))), .val (.int c1)] [(.int c1), (.int (Int32.ofNat (2 * i + 1))), (.ref a1)])
  obtain ⟨T104, X104, e104, st104⟩ := getS2 X103 hx hZ hown (host := "") (Or.inl (hw _ (List.mem_of_getElem? (i := 206) rfl))) Via.refl e103 (S_L.ext O103.2) (g := (mkF m 47 #[.val (.ref a1), .val (.int (Int32.ofNat (2 * i + 1))), .val (.int c1)] [(.int c1), (.int (Int32.ofNat (2 * i + 1))), (.ref a1)])) rfl (hb hby d39_47)
  refine Go.of (fun _ hr => st104 _ hr) ?_
  show Go p e s below _ _ _ _ T104 (mkF m 50 #[.val (.ref a1), .val (.int (Int32.ofNat (2 * i + 1))), .val (.int c1)] [(.int (8 : Int32)), (.int c1), (.int (Int32.ofNat (2 * i + 1))), (.ref a1)])
  refine Go.of (fun _ hr => XS.ishr X104.here hx rfl (hb hby d39_50) rfl hr) ?_
  show Go p e s below _ _ _ _ T104 (mkF m 51 #[.val (.ref a1), .val (.int (Int32.ofNat (2 * i + 1))), .val (.int c1)] [(.int (c1 >>> ((8 : Int32) &&& 31))), (.int (Int32.ofNat (2 * i + 1))), (.ref a1)])
  refine Go.of (fun _ hr => XS.i2b X104.here hx rfl (hb hby d39_51) rfl hr) ?_
  show Go p e s below _ _ _ _ T104 (mkF m 52 #[.val (.ref a1), .val (.int (Int32.ofNat (2 * i + 1))), .val (.int c1)] [(.int ((c1 >>> ((8 : Int32) &&& 31)).toInt8.toInt32)), (.int (Int32.ofNat (2 * i + 1))), (.ref a1)])
  obtain ⟨cl105, Ar105, q105, S105, N105_, H105, G105⟩ := id V103
  have hin105 : ¬ ((Int32.ofNat (2 * i + 1)) < 0 ∨ cl105.slots.size ≤ ((Int32.ofNat (2 * i + 1))).toNatClampNeg) := inb_of S105 ⟨oi_nn (by omega), oi_lt (by omega) (by omega) (by omega)⟩
  obtain ⟨T105, h105, X105, e105, W105, st105⟩ := stB X104 hx hZ e104 Ar105 (j := (Int32.ofNat (2 * i + 1))) hin105 (g := (mkF m 52 #[.val (.ref a1), .val (.int (Int32.ofNat (2 * i + 1))), .val (.int c1)] [(.int ((c1 >>> ((8 : Int32) &&& 31)).toInt8.toInt32)), (.int (Int32.ofNat (2 * i + 1))), (.ref a1)])) rfl rfl (hb hby d39_52)
  rw [nar_b] at W105
  have V105 : Arv Z h105 a1 k1 .byte (Int32.ofNat (2 * q)) ((us ++ [lo8 c1, hi8 c1]).map Value.int) (.int 0) := by have q := own_push V103 W105 (by rw [oi_nat (by omega)]; rw [List.length_map, List.length_append, List.length_singleton]; omega) (fits_b _); rw [push2] at q; exact q
  have N105 := Fr.snoc X105 N103 fr_a1
  have J105 := J103.wr W105 hm_a1
  have B105 := B103.mono (Nat.le_of_eq W105.size.symm)
  have O105 := O103.wr W105 (Nat.le_trans hb0 fr_a1)
  have K105 := K103.wr W105 (Or.inl (List.mem_of_getElem? (i := 0) rfl))
  refine Go.of (fun _ hr => st105 _ hr) ?_
  show Go p e s below _ _ _ _ T105 (mkF m 53 #[.val (.ref a1), .val (.int (Int32.ofNat (2 * i + 1))), .val (.int c1)] [])
  exact Go.retV X105 hx hlk B105 J105 e105 hret (hb hby d39_53) (by decide) (by decide) (fun vm_ hw_ => ⟨rfl, N105, K105, V105⟩)

theorem d51_0 : decode jdk_52_method_5_code 0 = .ok (.getstatic 44, 3) := by decide +kernel
theorem d51_3 : decode jdk_52_method_5_code 3 = .ok (.ifCond .ne 25, 3) := by decide +kernel
theorem d51_28 : decode jdk_52_method_5_code 28 = .ok (.iload_n 1, 1) := by decide +kernel
theorem d51_29 : decode jdk_52_method_5_code 29 = .ok (.iconst 1, 1) := by decide +kernel
theorem d51_30 : decode jdk_52_method_5_code 30 = .ok (.ishl, 1) := by decide +kernel
theorem d51_31 : decode jdk_52_method_5_code 31 = .ok (.istore_n 1, 1) := by decide +kernel
theorem d51_32 : decode jdk_52_method_5_code 32 = .ok (.aload_n 0, 1) := by decide +kernel
theorem d51_33 : decode jdk_52_method_5_code 33 = .ok (.iload_n 1, 1) := by decide +kernel
theorem d51_34 : decode jdk_52_method_5_code 34 = .ok (.iinc 1 1, 3) := by decide +kernel
theorem d51_37 : decode jdk_52_method_5_code 37 = .ok (.baload, 1) := by decide +kernel
theorem d51_38 : decode jdk_52_method_5_code 38 = .ok (.sipush 255, 3) := by decide +kernel
theorem d51_41 : decode jdk_52_method_5_code 41 = .ok (.iand, 1) := by decide +kernel
theorem d51_42 : decode jdk_52_method_5_code 42 = .ok (.getstatic 59, 3) := by decide +kernel
theorem d51_45 : decode jdk_52_method_5_code 45 = .ok (.ishl, 1) := by decide +kernel
theorem d51_46 : decode jdk_52_method_5_code 46 = .ok (.aload_n 0, 1) := by decide +kernel
theorem d51_47 : decode jdk_52_method_5_code 47 = .ok (.iload_n 1, 1) := by decide +kernel
theorem d51_48 : decode jdk_52_method_5_code 48 = .ok (.baload, 1) := by decide +kernel
theorem d51_49 : decode jdk_52_method_5_code 49 = .ok (.sipush 255, 3) := by decide +kernel
theorem d51_52 : decode jdk_52_method_5_code 52 = .ok (.iand, 1) := by decide +kernel
theorem d51_53 : decode jdk_52_method_5_code 53 = .ok (.getstatic 63, 3) := by decide +kernel
theorem d51_56 : decode jdk_52_method_5_code 56 = .ok (.ishl, 1) := by decide +kernel
theorem d51_57 : decode jdk_52_method_5_code 57 = .ok (.ior, 1) := by decide +kernel
theorem d51_58 : decode jdk_52_method_5_code 58 = .ok (.i2c, 1) := by decide +kernel
theorem d51_59 : decode jdk_52_method_5_code 59 = .ok (.ireturn, 1) := by decide +kernel
set_option maxRecDepth 65536 in
set_option maxHeartbeats 40000000 in
theorem rm51 (l : Launch) (Z : State) (a0 : Array Value) (hw : ∀ d ∈ tables_1, d.before a0 Z = true) (ws : List Jvm.Cond) (t1 : Addr) (k1 : ClassId) (us : List Int32) (q i : Nat) (ms : List Addr) (h0 : Heap) (n0 : Nat) (O0 : Old Z n0 h0) (nb : Nat) (hb0 : n0 ≤ nb) (hnb : nb ≤ h0.size) (S_D : Sta Z Z.heap "java/lang/StringUTF16" "$assertionsDisabled" "Z" (.int 1)) (S_H : Sta Z Z.heap "java/lang/StringUTF16" "HI_BYTE_SHIFT" "I" (.int 0)) (S_L : Sta Z Z.heap "java/lang/StringUTF16" "LO_BYTE_SHIFT" "I" (.int 8)) (hq : q ≤ 1000) (hi : i < q) (V1 : Arv Z h0 t1 k1 .byte (Int32.ofNat (2 * q)) (us.map Value.int) (.int 0)) :
    Con l Z ms (⟨"java/lang/StringUTF16", "getChar", "([BI)C"⟩ : MethodName) jdk_52_method_5_code 2 (some .char) ws ({ frames := 0, cells := 0, slots := 0, locals := 0 } : Room) #[(.ref t1), (.int (Int32.ofNat i))] h0 (fun v vm h L => v = some (.int (ch16 (us.getD (2 * i) 0) (us.getD (2 * i + 1) 0))) ∧ Fr nb L ∧ h = h0) := by
  refine Con.mk (plainFor_of_name pn0) ?_
  intro p e s m below meth c s₁ Cc X0 e0 eb J0 B0 M0
  obtain ⟨hx, hZ, hown, hby, hml, hnm, hret, hlk⟩ := id Cc
  have N0 := Fr.nil h0.size
  have K0 := Keep.refl h0 []
  show Go p e s below _ _ _ _ s₁ (mkF m 0 #[.val (.ref t1), .val (.int (Int32.ofNat i))] [])
  obtain ⟨T101, X101, e101, st101⟩ := getS2 X0 hx hZ hown (host := "") (Or.inl (hw _ (List.mem_of_getElem? (i := 204) rfl))) Via.refl e0 (S_D.ext O0.2) (g := (mkF m 0 #[.val (.ref t1), .val (.int (Int32.ofNat i))] [])) rfl (hb hby d51_0)
  refine Go.of (fun _ hr => st101 _ hr) ?_
  show Go p e s below _ _ _ _ T101 (mkF m 3 #[.val (.ref t1), .val (.int (Int32.ofNat i))] [(.int (1 : Int32))])
  refine Go.of (fun _ hr => XS.ifYes X101.here hx rfl (pc0 := 3) (pc' := 28) rfl (hb hby d51_3) rfl ((if0 _ _).trans (feq (by decide : ¬ ((1 : Int32) = (0 : Int32)))).2) (by decide) (by decide) hr) ?_
  show Go p e s below _ _ _ _ T101 (mkF m 28 #[.val (.ref t1), .val (.int (Int32.ofNat i))] [])
  refine Go.of (fun _ hr => XS.iloadN X101.here hx rfl (hb hby d51_28) rfl  hr) ?_
  show Go p e s below _ _ _ _ T101 (mkF m 29 #[.val (.ref t1), .val (.int (Int32.ofNat i))] [(.int (Int32.ofNat i))])
  refine Go.of (fun _ hr => XS.iconst X101.here hx rfl (hb hby d51_29) hr) ?_
  show Go p e s below _ _ _ _ T101 (mkF m 30 #[.val (.ref t1), .val (.int (Int32.ofNat i))] [(.int (1 : Int32)), (.int (Int32.ofNat i))])
  refine Go.of (fun _ hr => XS.ishl X101.here hx rfl (hb hby d51_30) rfl hr) ?_
  show Go p e s below _ _ _ _ T101 (mkF m 31 #[.val (.ref t1), .val (.int (Int32.ofNat i))] [(.int ((Int32.ofNat i) <<< ((1 : Int32) &&& 31)))])
  rw [oi_shl1 (by omega)]
  show Go p e s below _ _ _ _ T101 (mkF m 31 #[.val (.ref t1), .val (.int (Int32.ofNat i))] [(.int (Int32.ofNat (2 * i)))])
  refine Go.of (fun _ hr => XS.istoreN X101.here hx rfl (hb hby d51_31) rfl (l' := #[.val (.ref t1), .val (.int (Int32.ofNat (2 * i)))]) rfl hr) ?_
  show Go p e s below _ _ _ _ T101 (mkF m 32 #[.val (.ref t1), .val (.int (Int32.ofNat (2 * i)))] [])
  refine Go.of (fun _ hr => XS.aloadN X101.here hx rfl (hb hby d51_32) rfl rfl hr) ?_
  show Go p e s below _ _ _ _ T101 (mkF m 33 #[.val (.ref t1), .val (.int (Int32.ofNat (2 * i)))] [(.ref t1)])
  refine Go.of (fun _ hr => XS.iloadN X101.here hx rfl (hb hby d51_33) rfl  hr) ?_
  show Go p e s below _ _ _ _ T101 (mkF m 34 #[.val (.ref t1), .val (.int (Int32.ofNat (2 * i)))] [(.int (Int32.ofNat (2 * i))), (.ref t1)])
  refine Go.of (fun _ hr => XS.iinc X101.here hx rfl (hb hby d51_34) rfl (l' := #[.val (.ref t1), .val (.int ((Int32.ofNat (2 * i)) + (1 : Int32)))]) rfl hr) ?_
  show Go p e s below _ _ _ _ T101 (mkF m 37 #[.val (.ref t1), .val (.int ((Int32.ofNat (2 * i)) + (1 : Int32)))] [(.int (Int32.ofNat (2 * i))), (.ref t1)])
  simp only [oi_succ (show 2 * i + 1 < 2147483648 by omega)]
  show Go p e s below _ _ _ _ T101 (mkF m 37 #[.val (.ref t1), .val (.int (Int32.ofNat (2 * i + 1)))] [(.int (Int32.ofNat (2 * i))), (.ref t1)])
  obtain ⟨cl102, Ar102, q102, S102, N102_, H102, G102⟩ := id V1
  have hin102 : ¬ ((Int32.ofNat (2 * i)) < 0 ∨ cl102.slots.size ≤ ((Int32.ofNat (2 * i))).toNatClampNeg) := inb_of S102 ⟨oi_nn (by omega), oi_lt (by omega) (by omega) (by omega)⟩
  refine Go.of (fun _ hr => X101.baloadBytes hx (j := (Int32.ofNat (2 * i))) (v := (.int (us.getD (2 * i) 0))) (by rw [e101]; exact Ar102.1) (State.isArrayOf_alike hZ.alike Ar102.2.1) Ar102.2.2 hin102 (H102.at hin102 (by rw [oi_nat (by omega), getD_int])) (g := (mkF m 37 #[.val (.ref t1), .val (.int (Int32.ofNat (2 * i + 1)))] [(.int (Int32.ofNat (2 * i))), (.ref t1)])) rfl rfl (hb hby d51_37) _ hr) ?_
  show Go p e s below _ _ _ _ T101 (mkF m 38 #[.val (.ref t1), .val (.int (Int32.ofNat (2 * i + 1)))] [(.int (us.getD (2 * i) 0))])
  refine Go.of (fun _ hr => XS.sipush X101.here hx rfl (hb hby d51_38) hr) ?_
  show Go p e s below _ _ _ _ T101 (mkF m 41 #[.val (.ref t1), .val (.int (Int32.ofNat (2 * i + 1)))] [(.int (255 : Int32)), (.int (us.getD (2 * i) 0))])
  refine Go.of (fun _ hr => XS.iand X101.here hx rfl (hb hby d51_41) rfl hr) ?_
  show Go p e s below _ _ _ _ T101 (mkF m 42 #[.val (.ref t1), .val (.int (Int32.ofNat (2 * i + 1)))] [(.int ((us.getD (2 * i) 0) &&& (255 : Int32)))])
  obtain ⟨T103, X103, e103, st103⟩ := getS2 X101 hx hZ hown (host := "") (Or.inl (hw _ (List.mem_of_getElem? (i := 205) rfl))) Via.refl e101 (S_H.ext O0.2) (g := (mkF m 42 #[.val (.ref t1), .val (.int (Int32.ofNat (2 * i + 1)))] [(.int ((us.getD (2 * i) 0) &&& (255 : Int32)))])) rfl (hb hby d51_42)
  refine Go.of (fun _ hr => st103 _ hr) ?_
  show Go p e s below _ _ _ _ T103 (mkF m 45 #[.val (.ref t1), .val (.int (Int32.ofNat (2 * i + 1)))] [(.int (0 : Int32)), (.int ((us.getD (2 * i) 0) &&& (255 : Int32)))])
  refine Go.of (fun _ hr => XS.ishl X103.here hx rfl (hb hby d51_45) rfl hr) ?_
  show Go p e s below _ _ _ _ T103 (mkF m 46 #[.val (.ref t1), .val (.int (Int32.ofNat (2 * i + 1)))] [(.int (((us.getD (2 * i) 0) &&& (255 : Int32)) <<< ((0 : Int32) &&& 31)))])
  refine Go.of (fun _ hr => XS.aloadN X103.here hx rfl (hb hby d51_46) rfl rfl hr) ?_
  show Go p e s below _ _ _ _ T103 (mkF m 47 #[.val (.ref t1), .val (.int (Int32.ofNat (2 * i + 1)))] [(.ref t1), (.int (((us.getD (2 * i) 0) &&& (255 : Int32)) <<< ((0 : Int32) &&& 31)))])
  refine Go.of (fun _ hr => XS.iloadN X103.here hx rfl (hb hby d51_47) rfl  hr) ?_
  show Go p e s below _ _ _ _ T103 (mkF m 48 #[.val (.ref t1), .val (.int (Int32.ofNat (2 * i + 1)))] [(.int (Int32.ofNat (2 * i + 1))), (.ref t1), (.int (((us.getD (2 * i) 0) &&& (255 : Int32)) <<< ((0 : Int32) &&& 31)))])
  obtain ⟨cl104, Ar104, q104, S104, N104_, H104, G104⟩ := id V1
  have hin104 : ¬ ((Int32.ofNat (2 * i + 1)) < 0 ∨ cl104.slots.size ≤ ((Int32.ofNat (2 * i + 1))).toNatClampNeg) := inb_of S104 ⟨oi_nn (by omega), oi_lt (by omega) (by omega) (by omega)⟩
  refine Go.of (fun _ hr => X103.baloadBytes hx (j := (Int32.ofNat (2 * i + 1))) (v := (.int (us.getD (2 * i + 1) 0))) (by rw [e103]; exact Ar104.1) (State.isArrayOf_alike hZ.alike Ar104.2.1) Ar104.2.2 hin104 (H104.at hin104 (by rw [oi_nat (by omega), getD_int])) (g := (mkF m 48 #[.val (.ref t1), .val (.int (Int32.ofNat (2 * i + 1)))] [(.int (Int32.ofNat (2 * i + 1))), (.ref t1), (.int (((us.getD (2 * i) 0) &&& (255 : Int32)) <<< ((0 : Int32) &&& 31)))])) rfl rfl (hb hby d51_48) _ hr) ?_
  show Go p e s below _ _ _ _ T103 (mkF m 49 #[.val (.ref t1), .val (.int (Int32.ofNat (2 * i + 1)))] [(.int (us.getD (2 * i + 1) 0)), (.int (((us.getD (2 * i) 0) &&& (255 : Int32)) <<< ((0 : Int32) &&& 31)))])
  refine Go.of (fun _ hr => XS.sipush X103.here hx rfl (hb hby d51_49) hr) ?_
  show Go p e s below _ _ _ _ T103 (mkF m 52 #[.val (.ref t1), .val (.int (Int32.ofNat (2 * i + 1)))] [(.int (255 : Int32)), (.int (us.getD (2 * i + 1) 0)), (.int (((us.getD (2 * i) 0) &&& (255 : Int32)) <<< ((0 : Int32) &&& 31)))])
  refine Go.of (fun _ hr => XS.iand X103.here hx rfl (hb hby d51_52) rfl hr) ?_
  show Go p e s below _ _ _ _ T103 (mkF m 53 #[.val (.ref t1), .val (.int (Int32.ofNat (2 * i + 1)))] [(.int ((us.getD (2 * i + 1) 0) &&& (255 : Int32))), (.int (((us.getD (2 * i) 0) &&& (255 : Int32)) <<< ((0 : Int32) &&& 31)))])
  obtain ⟨T105, X105, e105, st105⟩ := getS2 X103 hx hZ hown (host := "") (Or.inl (hw _ (List.mem_of_getElem? (i := 206) rfl))) Via.refl e103 (S_L.ext O0.2) (g := (mkF m 53 #[.val (.ref t1), .val (.int (Int32.ofNat (2 * i + 1)))] [(.int ((us.getD (2 * i + 1) 0) &&& (255 : Int32))), (.int (((us.getD (2 * i) 0) &&& (255 : Int32)) <<< ((0 : Int32) &&& 31)))])) rfl (hb hby d51_53)
  refine Go.of (fun _ hr => st105 _ hr) ?_
  show Go p e s below _ _ _ _ T105 (mkF m 56 #[.val (.ref t1), .val (.int (Int32.ofNat (2 * i + 1)))] [(.int (8 : Int32)), (.int ((us.getD (2 * i + 1) 0) &&& (255 : Int32))), (.int (((us.getD (2 * i) 0) &&& (255 : Int32)) <<< ((0 : Int32) &&& 31)))])
  refine Go.of (fun _ hr => XS.ishl X105.here hx rfl (hb hby d51_56) rfl hr) ?_
  show Go p e s below _ _ _ _ T105 (mkF m 57 #[.val (.ref t1), .val (.int (Int32.ofNat (2 * i + 1)))] [(.int (((us.getD (2 * i + 1) 0) &&& (255 : Int32)) <<< ((8 : Int32) &&& 31))), (.int (((us.getD (2 * i) 0) &&& (255 : Int32)) <<< ((0 : Int32) &&& 31)))])
  refine Go.of (fun _ hr => XS.ior X105.here hx rfl (hb hby d51_57) rfl hr) ?_
  show Go p e s below _ _ _ _ T105 (mkF m 58 #[.val (.ref t1), .val (.int (Int32.ofNat (2 * i + 1)))] [(.int ((((us.getD (2 * i) 0) &&& (255 : Int32)) <<< ((0 : Int32) &&& 31)) ||| (((us.getD (2 * i + 1) 0) &&& (255 : Int32)) <<< ((8 : Int32) &&& 31))))])
  refine Go.of (fun _ hr => XS.i2c X105.here hx rfl (hb hby d51_58) rfl hr) ?_
  show Go p e s below _ _ _ _ T105 (mkF m 59 #[.val (.ref t1), .val (.int (Int32.ofNat (2 * i + 1)))] [(.int (((((us.getD (2 * i) 0) &&& (255 : Int32)) <<< ((0 : Int32) &&& 31)) ||| (((us.getD (2 * i + 1) 0) &&& (255 : Int32)) <<< ((8 : Int32) &&& 31))).toUInt32.toUInt16.toUInt32.toInt32))])
  exact Go.retN X105 hx hlk B0 J0 e105 (t := .char) (z' := (ch16 (us.getD (2 * i) 0) (us.getD (2 * i + 1) 0))) hret (by simp) (hb hby d51_59) (own_c16 _) (by decide) (by decide) (fun vm_ hw_ => ⟨rfl, (fun y hy => Nat.le_trans hnb (N0 y hy)), rfl⟩)

theorem d57_8 : decode jdk_52_method_14_code 8 = .ok (.iload 4, 2) := by decide +kernel
theorem d57_10 : decode jdk_52_method_14_code 10 = .ok (.iload_n 2, 1) := by decide +kernel
theorem d57_11 : decode jdk_52_method_14_code 11 = .ok (.if_icmp .ge 21, 3) := by decide +kernel
theorem d57_32 : decode jdk_52_method_14_code 32 = .ok (.aload_n 3, 1) := by decide +kernel
theorem d57_33 : decode jdk_52_method_14_code 33 = .ok (.areturn, 1) := by decide +kernel
theorem d57_14 : decode jdk_52_method_14_code 14 = .ok (.aload_n 3, 1) := by decide +kernel
theorem d57_15 : decode jdk_52_method_14_code 15 = .ok (.iload 4, 2) := by decide +kernel
theorem d57_17 : decode jdk_52_method_14_code 17 = .ok (.aload_n 0, 1) := by decide +kernel
theorem d57_18 : decode jdk_52_method_14_code 18 = .ok (.iload_n 1, 1) := by decide +kernel
theorem d57_19 : decode jdk_52_method_14_code 19 = .ok (.caload, 1) := by decide +kernel
theorem d57_20 : decode jdk_52_method_14_code 20 = .ok (.invokestatic 111, 3) := by decide +kernel
theorem pd1 : parseMethodDescriptor "([BII)V" = some ⟨[(.array .byte), .int, .int], none⟩ := by decide +kernel
theorem d57_23 : decode jdk_52_method_14_code 23 = .ok (.iinc 1 1, 3) := by decide +kernel
theorem d57_26 : decode jdk_52_method_14_code 26 = .ok (.iinc 4 1, 3) := by decide +kernel
theorem d57_29 : decode jdk_52_method_14_code 29 = .ok (.goto (-21), 3) := by decide +kernel
set_option maxRecDepth 65536 in
set_option maxHeartbeats 40000000 in
theorem tbloop {l : Launch} {Z : State} {a0 : Array Value} (hw : ∀ d ∈ tables_1, d.before a0 Z = true) {p : Program} {e : Env} {s : State} {m : MethodId} {args : Array Value} {below : List Frame} {meth : Method} {c : Code} {Q : Option Value → Vm → Heap → List Loc → Prop} {ms : List Addr} {h0 : Heap} {n0 nb : Nat} (hb0 : n0 ≤ nb) (hnb : nb ≤ h0.size) (a1 d : Addr) (k1 kd : ClassId) (cs : List Int32) (S_D : Sta Z Z.heap "java/lang/StringUTF16" "$assertionsDisabled" "Z" (.int 1)) (S_H : Sta Z Z.heap "java/lang/StringUTF16" "HI_BYTE_SHIFT" "I" (.int 0)) (S_L : Sta Z Z.heap "java/lang/StringUTF16" "LO_BYTE_SHIFT" "I" (.int 8)) (hn : cs.length ≤ 16) (ne12 : a1 ≠ d) (fr_d : nb ≤ d)
    (hQ : ∀ vm h L, Keep h0 h [d] → Fr nb L → Arv Z h d kd .byte (Int32.ofNat (2 * cs.length)) ((utf cs).map Value.int) (.int 0) → Q (some (.ref d)) vm h L) :
    ∀ (r i : Nat), i + r = cs.length → ∀ (b T : State) (h : Heap) (locs : List Loc), Cx Z p b m meth c "java/lang/StringUTF16" jdk_52_method_14_code 5 "toBytes" (some (.array .byte)) → Stand p l e ({ frames := 2, cells := 1, slots := 32, locals := 24 } : Room) b m args below meth c T locs 1 32 → T.heap = h → Old Z n0 h → Fr nb locs → Keep h0 h [d] → Hd Z (d :: ms) b.vm h → Bs s b h → Arv Z h a1 k1 .char (Int32.ofNat cs.length) (cs.map Value.int) (.int 0) → Arv Z h d kd .byte (Int32.ofNat (2 * cs.length)) ((utf (cs.take i)).map Value.int) (.int 0) →
      Go p e s below 1 32 (Hd Z ms) Q T (mkF m 8 #[.val (.ref a1), .val (.int (Int32.ofNat i)), .val (.int (Int32.ofNat cs.length)), .val (.ref d), .val (.int (Int32.ofNat i))] []) := by
  intro r
  induction r with
  | zero =>
    intro i hi b T h locs Cc X eT O0 N0 K0 J0 B0 V1 V2
    obtain ⟨hx, hZ, hown, hby, hml, hnm, hret, hlk⟩ := id Cc
    show Go p e s below _ _ _ _ T (mkF m 8 #[.val (.ref a1), .val (.int (Int32.ofNat i)), .val (.int (Int32.ofNat cs.length)), .val (.ref d), .val (.int (Int32.ofNat i))] [])
    refine Go.of (fun _ hr => XS.iload X.here hx rfl (hb hby d57_8) rfl  hr) ?_
    show Go p e s below _ _ _ _ T (mkF m 10 #[.val (.ref a1), .val (.int (Int32.ofNat i)), .val (.int (Int32.ofNat cs.length)), .val (.ref d), .val (.int (Int32.ofNat i))] [(.int (Int32.ofNat i))])
    refine Go.of (fun _ hr => XS.iloadN X.here hx rfl (hb hby d57_10) rfl  hr) ?_
    show Go p e s below _ _ _ _ T (mkF m 11 #[.val (.ref a1), .val (.int (Int32.ofNat i)), .val (.int (Int32.ofNat cs.length)), .val (.ref d), .val (.int (Int32.ofNat i))] [(.int (Int32.ofNat cs.length)), (.int (Int32.ofNat i))])
    refine Go.of (fun _ hr => XS.icmpYes X.here hx rfl (pc0 := 11) (pc' := 32) rfl (hb hby d57_11) rfl (flt (oi_nlt (by omega) (by omega) (by omega))).2.1 (by decide) (by decide) hr) ?_
    show Go p e s below _ _ _ _ T (mkF m 32 #[.val (.ref a1), .val (.int (Int32.ofNat i)), .val (.int (Int32.ofNat cs.length)), .val (.ref d), .val (.int (Int32.ofNat i))] [])
    refine Go.of (fun _ hr => XS.aloadN X.here hx rfl (hb hby d57_32) rfl rfl hr) ?_
    show Go p e s below _ _ _ _ T (mkF m 33 #[.val (.ref a1), .val (.int (Int32.ofNat i)), .val (.int (Int32.ofNat cs.length)), .val (.ref d), .val (.int (Int32.ofNat i))] [(.ref d)])
    exact Go.retA X hx hlk B0 (J0.sub fun x hx => (List.mem_cons_of_mem _ hx)) eT hret rfl rfl (hb hby d57_33) (by decide) (by decide) (fun vm_ hw_ => hQ _ _ _ K0 N0 (by have q := V2; rw [show i = cs.length by omega, List.take_length] at q; exact q))
  | succ r ih =>
    intro i hi b T h locs Cc X eT O0 N0 K0 J0 B0 V1 V2
    obtain ⟨hx, hZ, hown, hby, hml, hnm, hret, hlk⟩ := id Cc
    show Go p e s below _ _ _ _ T (mkF m 8 #[.val (.ref a1), .val (.int (Int32.ofNat i)), .val (.int (Int32.ofNat cs.length)), .val (.ref d), .val (.int (Int32.ofNat i))] [])
    refine Go.of (fun _ hr => XS.iload X.here hx rfl (hb hby d57_8) rfl  hr) ?_
    show Go p e s below _ _ _ _ T (mkF m 10 #[.val (.ref a1), .val (.int (Int32.ofNat i)), .val (.int (Int32.ofNat cs.length)), .val (.ref d), .val (.int (Int32.ofNat i))] [(.int (Int32.ofNat i))])
    refine Go.of (fun _ hr => XS.iloadN X.here hx rfl (hb hby d57_10) rfl  hr) ?_
    show Go p e s below _ _ _ _ T (mkF m 11 #[.val (.ref a1), .val (.int (Int32.ofNat i)), .val (.int (Int32.ofNat cs.length)), .val (.ref d), .val (.int (Int32.ofNat i))] [(.int (Int32.ofNat cs.length)), (.int (Int32.ofNat i))])
    refine Go.of (fun _ hr => XS.icmpNo X.here hx rfl (hb hby d57_11) rfl (tlt (oi_lt (by omega) (by omega) (by omega))).2.1 hr) ?_
    show Go p e s below _ _ _ _ T (mkF m 14 #[.val (.ref a1), .val (.int (Int32.ofNat i)), .val (.int (Int32.ofNat cs.length)), .val (.ref d), .val (.int (Int32.ofNat i))] [])
    refine Go.of (fun _ hr => XS.aloadN X.here hx rfl (hb hby d57_14) rfl rfl hr) ?_
    show Go p e s below _ _ _ _ T (mkF m 15 #[.val (.ref a1), .val (.int (Int32.ofNat i)), .val (.int (Int32.ofNat cs.length)), .val (.ref d), .val (.int (Int32.ofNat i))] [(.ref d)])
    refine Go.of (fun _ hr => XS.iload X.here hx rfl (hb hby d57_15) rfl  hr) ?_
    show Go p e s below _ _ _ _ T (mkF m 17 #[.val (.ref a1), .val (.int (Int32.ofNat i)), .val (.int (Int32.ofNat cs.length)), .val (.ref d), .val (.int (Int32.ofNat i))] [(.int (Int32.ofNat i)), (.ref d)])
    refine Go.of (fun _ hr => XS.aloadN X.here hx rfl (hb hby d57_17) rfl rfl hr) ?_
    show Go p e s below _ _ _ _ T (mkF m 18 #[.val (.ref a1), .val (.int (Int32.ofNat i)), .val (.int (Int32.ofNat cs.length)), .val (.ref d), .val (.int (Int32.ofNat i))] [(.ref a1), (.int (Int32.ofNat i)), (.ref d)])
    refine Go.of (fun _ hr => XS.iloadN X.here hx rfl (hb hby d57_18) rfl  hr) ?_
    show Go p e s below _ _ _ _ T (mkF m 19 #[.val (.ref a1), .val (.int (Int32.ofNat i)), .val (.int (Int32.ofNat cs.length)), .val (.ref d), .val (.int (Int32.ofNat i))] [(.int (Int32.ofNat i)), (.ref a1), (.int (Int32.ofNat i)), (.ref d)])
    obtain ⟨x, hxe⟩ : ∃ x, cs.getD i 0 = x := ⟨_, rfl⟩
    obtain ⟨cl101, Ar101, q101, S101, N101_, H101, G101⟩ := id V1
    have hin101 : ¬ ((Int32.ofNat i) < 0 ∨ cl101.slots.size ≤ ((Int32.ofNat i)).toNatClampNeg) := inb_of S101 ⟨oi_nn (by omega), oi_lt (by omega) (by omega) (by omega)⟩
    refine Go.of (fun _ hr => X.caload hx (j := (Int32.ofNat i)) (v := (.int x)) (by rw [eT]; exact Ar101.1) (State.isArrayOf_alike hZ.alike Ar101.2.1) Ar101.2.2 hin101 (H101.at hin101 (by rw [oi_nat (by omega), getD_int, hxe])) (g := (mkF m 19 #[.val (.ref a1), .val (.int (Int32.ofNat i)), .val (.int (Int32.ofNat cs.length)), .val (.ref d), .val (.int (Int32.ofNat i))] [(.int (Int32.ofNat i)), (.ref a1), (.int (Int32.ofNat i)), (.ref d)])) rfl rfl (hb hby d57_19) _ hr) ?_
    show Go p e s below _ _ _ _ T (mkF m 20 #[.val (.ref a1), .val (.int (Int32.ofNat i)), .val (.int (Int32.ofNat cs.length)), .val (.ref d), .val (.int (Int32.ofNat i))] [(.int x), (.int (Int32.ofNat i)), (.ref d)])
    obtain ⟨_, b102, T102, h102, L102, e102, Cc102, X102, B102, J102, g102, hQ102, st102⟩ := own_callS Cc B0 J0 X (hw _ (List.mem_of_getElem? (i := 201) rfl)) (hw _ (List.mem_of_getElem? (i := 202) rfl)) (hw _ (List.mem_of_getElem? (i := 199) rfl)) (hw _ (List.mem_of_getElem? (i := 203) rfl)) (by decide) (rm39 l Z a0 hw [] d _ (utf (cs.take i)) cs.length i x _ h n0 O0 nb hb0 (Nat.le_trans hnb K0.1) fr_d (List.mem_cons_self ..) S_D S_H S_L (by omega) (by omega) (by rw [utf_len, List.length_take]; omega) V2) eT (g := (mkF m 20 #[.val (.ref a1), .val (.int (Int32.ofNat i)), .val (.int (Int32.ofNat cs.length)), .val (.ref d), .val (.int (Int32.ofNat i))] [(.int x), (.int (Int32.ofNat i)), (.ref d)])) rfl (by rw [hml]; rfl) (argsL := [(.ref d), (.int (Int32.ofNat i)), (.int x)]) (rest := []) (lenOf pd1 rfl) rfl (W := 0) (by show 2 * 0 + _ ≤ _; exact Nat.le_of_eq rfl) (hb hby d57_20) (by decide) (by decide) (by decide) (by decide)
    obtain ⟨rfl, Nq102, Kq102, Vp102⟩ := hQ102
    have N102 := Fr.app N0 Nq102
    obtain ⟨hx, hZ, hown, hby, hml, hnm, hret, hlk⟩ := id Cc102
    have K102 := K0.trans Kq102 (allS (Or.inl (List.mem_of_getElem? (i := 0) rfl)) all0)
    have O102 := O0.keep Kq102 (allS (Nat.le_trans hb0 fr_d) all0)
    refine Go.of st102 ?_
    show Go p e s below _ _ _ _ T102 (mkF m 23 #[.val (.ref a1), .val (.int (Int32.ofNat i)), .val (.int (Int32.ofNat cs.length)), .val (.ref d), .val (.int (Int32.ofNat i))] [])
    refine Go.of (fun _ hr => XS.iinc X102.here hx rfl (hb hby d57_23) rfl (l' := #[.val (.ref a1), .val (.int ((Int32.ofNat i) + (1 : Int32))), .val (.int (Int32.ofNat cs.length)), .val (.ref d), .val (.int (Int32.ofNat i))]) rfl hr) ?_
    show Go p e s below _ _ _ _ T102 (mkF m 26 #[.val (.ref a1), .val (.int ((Int32.ofNat i) + (1 : Int32))), .val (.int (Int32.ofNat cs.length)), .val (.ref d), .val (.int (Int32.ofNat i))] [])
    refine Go.of (fun _ hr => XS.iinc X102.here hx rfl (hb hby d57_26) rfl (l' := #[.val (.ref a1), .val (.int ((Int32.ofNat i) + (1 : Int32))), .val (.int (Int32.ofNat cs.length)), .val (.ref d), .val (.int ((Int32.ofNat i) + (1 : Int32)))]) rfl hr) ?_
    show Go p e s below _ _ _ _ T102 (mkF m 29 #[.val (.ref a1), .val (.int ((Int32.ofNat i) + (1 : Int32))), .val (.int (Int32.ofNat cs.length)), .val (.ref d), .val (.int ((Int32.ofNat i) + (1 : Int32)))] [])
    refine Go.of (fun _ hr => XS.goto X102.here hx rfl (pc0 := 29) (pc' := 8) rfl (hb hby d57_29) (by decide) (by decide) hr) ?_
    show Go p e s below _ _ _ _ T102 (mkF m 8 #[.val (.ref a1), .val (.int ((Int32.ofNat i) + (1 : Int32))), .val (.int (Int32.ofNat cs.length)), .val (.ref d), .val (.int ((Int32.ofNat i) + (1 : Int32)))] [])
    simp only [oi_succ (show i + 1 < 2147483648 by omega)]
    have f103 := (V1.keep Kq102 (ninS ne12 nin0))
    exact ih (i + 1) (by omega) _ T102 h102 _ Cc102 X102 e102 O102 N102 K102 J102 B102 f103 (by have q := Vp102; rw [← hxe, utf_take cs (show i < cs.length by omega)] at q; exact q)

theorem d57_0 : decode jdk_52_method_14_code 0 = .ok (.iload_n 2, 1) := by decide +kernel
theorem d57_1 : decode jdk_52_method_14_code 1 = .ok (.invokestatic 107, 3) := by decide +kernel
theorem pd2 : parseMethodDescriptor "(I)[B" = some ⟨[.int], some (.array .byte)⟩ := by decide +kernel
theorem d57_4 : decode jdk_52_method_14_code 4 = .ok (.astore_n 3, 1) := by decide +kernel
theorem d57_5 : decode jdk_52_method_14_code 5 = .ok (.iconst 0, 1) := by decide +kernel
theorem d57_6 : decode jdk_52_method_14_code 6 = .ok (.istore 4, 2) := by decide +kernel
set_option maxRecDepth 65536 in
set_option maxHeartbeats 40000000 in
theorem rm57 (l : Launch) (Z : State) (a0 : Array Value) (hw : ∀ d ∈ tables_1, d.before a0 Z = true) (ws : List Jvm.Cond) (a1 : Addr) (k1 : ClassId) (cs : List Int32) (ms : List Addr) (h0 : Heap) (n0 : Nat) (O0 : Old Z n0 h0) (nb : Nat) (hb0 : n0 ≤ nb) (hnb : nb ≤ h0.size) (S_D : Sta Z Z.heap "java/lang/StringUTF16" "$assertionsDisabled" "Z" (.int 1)) (S_H : Sta Z Z.heap "java/lang/StringUTF16" "HI_BYTE_SHIFT" "I" (.int 0)) (S_L : Sta Z Z.heap "java/lang/StringUTF16" "LO_BYTE_SHIFT" "I" (.int 8)) (hn : cs.length ≤ 16) (V1 : Arv Z h0 a1 k1 .char (Int32.ofNat cs.length) (cs.map Value.int) (.int 0)) :
    Con l Z ms (⟨"java/lang/StringUTF16", "toBytes", "([CII)[B"⟩ : MethodName) jdk_52_method_14_code 5 (some (.array .byte)) ws ({ frames := 2, cells := 1, slots := 32, locals := 24 } : Room) #[(.ref a1), (.int (0 : Int32)), (.int (Int32.ofNat cs.length))] h0 (fun v vm h L => ∃ d k, v = some (.ref d) ∧ Fr nb L ∧ Ext h0 h ∧ h0.size ≤ d ∧ Arv Z h d k .byte (Int32.ofNat (2 * cs.length)) ((utf cs).map Value.int) (.int 0)) := by
  refine Con.mk (plainFor_of_name pn0) ?_
  intro p e s m below meth c s₁ Cc X0 e0 eb J0 B0 M0
  obtain ⟨hx, hZ, hown, hby, hml, hnm, hret, hlk⟩ := id Cc
  have N0 := Fr.nil h0.size
  have K0 := Keep.refl h0 []
  show Go p e s below _ _ _ _ s₁ (mkF m 0 #[.val (.ref a1), .val (.int (0 : Int32)), .val (.int (Int32.ofNat cs.length)), .unset, .unset] [])
  refine Go.of (fun _ hr => XS.iloadN X0.here hx rfl (hb hby d57_0) rfl  hr) ?_
  show Go p e s below _ _ _ _ s₁ (mkF m 1 #[.val (.ref a1), .val (.int (0 : Int32)), .val (.int (Int32.ofNat cs.length)), .unset, .unset] [(.int (Int32.ofNat cs.length))])
  obtain ⟨_, b101, T101, h101, L101, e101, Cc101, X101, B101, J101, g101, hQ101, st101⟩ := own_callS Cc B0 J0 X0 (hw _ (List.mem_of_getElem? (i := 271) rfl)) (hw _ (List.mem_of_getElem? (i := 214) rfl)) (hw _ (List.mem_of_getElem? (i := 199) rfl)) (hw _ (List.mem_of_getElem? (i := 215) rfl)) (by decide) (rm41 l Z a0 hw [] cs.length _ h0 n0 O0 h0.size (own_ole O0) K0.1 hn) e0 (g := (mkF m 1 #[.val (.ref a1), .val (.int (0 : Int32)), .val (.int (Int32.ofNat cs.length)), .unset, .unset] [(.int (Int32.ofNat cs.length))])) rfl (by rw [hml]; rfl) (argsL := [(.int (Int32.ofNat cs.length))]) (rest := []) (lenOf pd2 rfl) rfl (W := 0) (by show 2 * 0 + _ ≤ _; exact Nat.le_of_eq rfl) (hb hby d57_1) (by decide) (by decide) (by decide) (by decide)
  obtain ⟨d101, kd101, rfl, Nq101, Eq101, R_d101, Vd101, Jd101⟩ := hQ101
  have N101 := Fr.app N0 Nq101
  obtain ⟨hx, hZ, hown, hby, hml, hnm, hret, hlk⟩ := id Cc101
  have sz_d101 : h0.size ≤ d101 := Nat.le_trans K0.1 R_d101
  have fr_d101 : h0.size ≤ d101 := sz_d101
  have ne_a1_d101 : a1 ≠ d101 := Nat.ne_of_lt (Nat.lt_of_lt_of_le V1.lt R_d101)
  have K101 := K0.ext Eq101
  have O101 := O0.ext Eq101
  refine Go.of st101 ?_
  show Go p e s below _ _ _ _ T101 (mkF m 4 #[.val (.ref a1), .val (.int (0 : Int32)), .val (.int (Int32.ofNat cs.length)), .unset, .unset] [(.ref d101)])
  refine Go.of (fun _ hr => XS.astoreN X101.here hx rfl (hb hby d57_4) rfl rfl (l' := #[.val (.ref a1), .val (.int (0 : Int32)), .val (.int (Int32.ofNat cs.length)), .val (.ref d101), .unset]) rfl hr) ?_
  show Go p e s below _ _ _ _ T101 (mkF m 5 #[.val (.ref a1), .val (.int (0 : Int32)), .val (.int (Int32.ofNat cs.length)), .val (.ref d101), .unset] [])
  refine Go.of (fun _ hr => XS.iconst X101.here hx rfl (hb hby d57_5) hr) ?_
  show Go p e s below _ _ _ _ T101 (mkF m 6 #[.val (.ref a1), .val (.int (0 : Int32)), .val (.int (Int32.ofNat cs.length)), .val (.ref d101), .unset] [(.int (0 : Int32))])
  refine Go.of (fun _ hr => XS.istore X101.here hx rfl (hb hby d57_6) rfl (l' := #[.val (.ref a1), .val (.int (0 : Int32)), .val (.int (Int32.ofNat cs.length)), .val (.ref d101), .val (.int (0 : Int32))]) rfl hr) ?_
  show Go p e s below _ _ _ _ T101 (mkF m 8 #[.val (.ref a1), .val (.int (0 : Int32)), .val (.int (Int32.ofNat cs.length)), .val (.ref d101), .val (.int (0 : Int32))] [])
  have f102 := (V1.ext Eq101)
  exact tbloop hw (own_ole O0) K101.1 a1 d101 k1 _ cs S_D S_H S_L hn ne_a1_d101 fr_d101 (fun vm h L q1 q2 q3 => ⟨_, _, rfl, fun y hy => Nat.le_trans hnb (q2 y hy), keep_ext (K101.trans q1 (allS (Or.inr sz_d101) all0)), sz_d101, q3⟩) cs.length 0 (Nat.zero_add _) _ _ _ _ Cc101 X101 e101 O101 N101 (Keep.refl _ _) Jd101 B101 f102 Vd101

theorem d54_0 : decode jdk_52_method_16_code 0 = .ok (.iload_n 2, 1) := by decide +kernel
theorem d54_1 : decode jdk_52_method_16_code 1 = .ok (.newarray .byte, 2) := by decide +kernel
theorem d54_3 : decode jdk_52_method_16_code 3 = .ok (.astore_n 3, 1) := by decide +kernel
theorem d54_4 : decode jdk_52_method_16_code 4 = .ok (.aload_n 0, 1) := by decide +kernel
theorem d54_5 : decode jdk_52_method_16_code 5 = .ok (.iload_n 1, 1) := by decide +kernel
theorem d54_6 : decode jdk_52_method_16_code 6 = .ok (.aload_n 3, 1) := by decide +kernel
theorem d54_7 : decode jdk_52_method_16_code 7 = .ok (.iconst 0, 1) := by decide +kernel
theorem d54_8 : decode jdk_52_method_16_code 8 = .ok (.iload_n 2, 1) := by decide +kernel
theorem d54_9 : decode jdk_52_method_16_code 9 = .ok (.invokestatic 115, 3) := by decide +kernel
theorem pd3 : parseMethodDescriptor "([CI[BII)I" = some ⟨[(.array .char), .int, (.array .byte), .int, .int], some .int⟩ := by decide +kernel
theorem d54_12 : decode jdk_52_method_16_code 12 = .ok (.istore 4, 2) := by decide +kernel
theorem d54_14 : decode jdk_52_method_16_code 14 = .ok (.iload 4, 2) := by decide +kernel
theorem d54_16 : decode jdk_52_method_16_code 16 = .ok (.iload_n 2, 1) := by decide +kernel
theorem d54_17 : decode jdk_52_method_16_code 17 = .ok (.if_icmp .eq 40, 3) := by decide +kernel
theorem d54_57 : decode jdk_52_method_16_code 57 = .ok (.aload_n 3, 1) := by decide +kernel
theorem d54_58 : decode jdk_52_method_16_code 58 = .ok (.areturn, 1) := by decide +kernel
theorem d54_20 : decode jdk_52_method_16_code 20 = .ok (.aload_n 0, 1) := by decide +kernel
theorem d54_21 : decode jdk_52_method_16_code 21 = .ok (.iload_n 1, 1) := by decide +kernel
theorem d54_22 : decode jdk_52_method_16_code 22 = .ok (.iload_n 2, 1) := by decide +kernel
theorem d54_23 : decode jdk_52_method_16_code 23 = .ok (.invokestatic 119, 3) := by decide +kernel
theorem pd4 : parseMethodDescriptor "([CII)[B" = some ⟨[(.array .char), .int, .int], some (.array .byte)⟩ := by decide +kernel
theorem d54_26 : decode jdk_52_method_16_code 26 = .ok (.astore 5, 2) := by decide +kernel
theorem d54_28 : decode jdk_52_method_16_code 28 = .ok (.aload 5, 2) := by decide +kernel
theorem d54_30 : decode jdk_52_method_16_code 30 = .ok (.iload 4, 2) := by decide +kernel
theorem d54_32 : decode jdk_52_method_16_code 32 = .ok (.invokestatic 71, 3) := by decide +kernel
theorem pd5 : parseMethodDescriptor "([BI)C" = some ⟨[(.array .byte), .int], some .char⟩ := by decide +kernel
theorem d54_35 : decode jdk_52_method_16_code 35 = .ok (.sipush 255, 3) := by decide +kernel
theorem d54_38 : decode jdk_52_method_16_code 38 = .ok (.if_icmp .gt 16, 3) := by decide +kernel
theorem d54_54 : decode jdk_52_method_16_code 54 = .ok (.aload 5, 2) := by decide +kernel
theorem d54_56 : decode jdk_52_method_16_code 56 = .ok (.areturn, 1) := by decide +kernel
set_option maxRecDepth 65536 in
set_option maxHeartbeats 40000000 in
theorem rm54 (l : Launch) (Z : State) (a0 : Array Value) (hw : ∀ d ∈ tables_1, d.before a0 Z = true) (ws : List Jvm.Cond) (a1 : Addr) (k1 : ClassId) (cs : List Int32) (ms : List Addr) (h0 : Heap) (n0 : Nat) (O0 : Old Z n0 h0) (nb : Nat) (hb0 : n0 ≤ nb) (hnb : nb ≤ h0.size) (S_D : Sta Z Z.heap "java/lang/StringUTF16" "$assertionsDisabled" "Z" (.int 1)) (S_H : Sta Z Z.heap "java/lang/StringUTF16" "HI_BYTE_SHIFT" "I" (.int 0)) (S_L : Sta Z Z.heap "java/lang/StringUTF16" "LO_BYTE_SHIFT" "I" (.int 8)) (hn : cs.length ≤ 16) (hr : ∀ x ∈ cs, rng16 x) (V1 : Arv Z h0 a1 k1 .char (Int32.ofNat cs.length) (cs.map Value.int) (.int 0)) :
    Con l Z ms (⟨"java/lang/StringUTF16", "compress", "([CII)[B"⟩ : MethodName) jdk_52_method_16_code 6 (some (.array .byte)) ws ({ frames := 3, cells := 2, slots := 48, locals := 40 } : Room) #[(.ref a1), (.int (0 : Int32)), (.int (Int32.ofNat cs.length))] h0 (fun v vm h L => ∃ d k cd bb, v = some (.ref d) ∧ Fr nb L ∧ Ext h0 h ∧ h0.size ≤ d ∧ StrOf cs cd bb ∧ Arv Z h d k .byte (Int32.ofNat bb.length) (bb.map Value.int) (.int 0)) := by
  obtain ⟨j, hj, hlt, hend⟩ := first_big cs
  rcases id hend with he | he
  · refine Con.mk (plainFor_of_name pn0) ?_
    intro p e s m below meth c s₁ Cc X0 e0 eb J0 B0 M0
    obtain ⟨hx, hZ, hown, hby, hml, hnm, hret, hlk⟩ := id Cc
    have N0 := Fr.nil h0.size
    have K0 := Keep.refl h0 []
    show Go p e s below _ _ _ _ s₁ (mkF m 0 #[.val (.ref a1), .val (.int (0 : Int32)), .val (.int (Int32.ofNat cs.length)), .unset, .unset, .unset] [])
    refine Go.of (fun _ hr => XS.iloadN X0.here hx rfl (hb hby d54_0) rfl  hr) ?_
    show Go p e s below _ _ _ _ s₁ (mkF m 1 #[.val (.ref a1), .val (.int (0 : Int32)), .val (.int (Int32.ofNat cs.length)), .unset, .unset, .unset] [(.int (Int32.ofNat cs.length))])
    obtain ⟨T101, h101, k101, X101, e101, E101, A101, st101⟩ := newP X0 hx hZ (hw _ (List.mem_of_getElem? (i := 9) rfl)) e0 (g := (mkF m 1 #[.val (.ref a1), .val (.int (0 : Int32)), .val (.int (Int32.ofNat cs.length)), .unset, .unset, .unset] [(.int (Int32.ofNat cs.length))])) rfl (hb hby d54_1) rfl (oi_nn (by omega)) (cap := 16) (by rw [oi_nat (by omega)]; exact hn) (by decide) (by decide) (by decide)
    obtain ⟨o101, g101⟩ : ∃ z, z = h0.size := ⟨_, rfl⟩
    rw [← g101] at A101 st101
    have ne_a1_o101 : a1 ≠ o101 := Nat.ne_of_lt (Nat.lt_of_lt_of_le V1.lt (Nat.le_of_eq g101.symm))
    have V101 := Arv.new A101 (oi_nn (by omega))
    have lt101 : o101 < h101.size := A101.lt
    have J101 := J0.add E101 g101 lt101
    have B101 := B0.mono E101.1
    have O101 := O0.ext E101
    have sz101 : h0.size ≤ o101 := Nat.le_trans K0.1 (Nat.le_of_eq g101.symm)
    have fr101 : h0.size ≤ o101 := sz101
    have K101 := K0.ext E101
    refine Go.of (fun _ hr => st101 _ hr) ?_
    show Go p e s below _ _ _ _ T101 (mkF m 3 #[.val (.ref a1), .val (.int (0 : Int32)), .val (.int (Int32.ofNat cs.length)), .unset, .unset, .unset] [(.ref o101)])
    refine Go.of (fun _ hr => XS.astoreN X101.here hx rfl (hb hby d54_3) rfl rfl (l' := #[.val (.ref a1), .val (.int (0 : Int32)), .val (.int (Int32.ofNat cs.length)), .val (.ref o101), .unset, .unset]) rfl hr) ?_
    show Go p e s below _ _ _ _ T101 (mkF m 4 #[.val (.ref a1), .val (.int (0 : Int32)), .val (.int (Int32.ofNat cs.length)), .val (.ref o101), .unset, .unset] [])
    refine Go.of (fun _ hr => XS.aloadN X101.here hx rfl (hb hby d54_4) rfl rfl hr) ?_
    show Go p e s below _ _ _ _ T101 (mkF m 5 #[.val (.ref a1), .val (.int (0 : Int32)), .val (.int (Int32.ofNat cs.length)), .val (.ref o101), .unset, .unset] [(.ref a1)])
    refine Go.of (fun _ hr => XS.iloadN X101.here hx rfl (hb hby d54_5) rfl  hr) ?_
    show Go p e s below _ _ _ _ T101 (mkF m 6 #[.val (.ref a1), .val (.int (0 : Int32)), .val (.int (Int32.ofNat cs.length)), .val (.ref o101), .unset, .unset] [(.int (0 : Int32)), (.ref a1)])
    refine Go.of (fun _ hr => XS.aloadN X101.here hx rfl (hb hby d54_6) rfl rfl hr) ?_
    show Go p e s below _ _ _ _ T101 (mkF m 7 #[.val (.ref a1), .val (.int (0 : Int32)), .val (.int (Int32.ofNat cs.length)), .val (.ref o101), .unset, .unset] [(.ref o101), (.int (0 : Int32)), (.ref a1)])
    refine Go.of (fun _ hr => XS.iconst X101.here hx rfl (hb hby d54_7) hr) ?_
    show Go p e s below _ _ _ _ T101 (mkF m 8 #[.val (.ref a1), .val (.int (0 : Int32)), .val (.int (Int32.ofNat cs.length)), .val (.ref o101), .unset, .unset] [(.int (0 : Int32)), (.ref o101), (.int (0 : Int32)), (.ref a1)])
    refine Go.of (fun _ hr => XS.iloadN X101.here hx rfl (hb hby d54_8) rfl  hr) ?_
    show Go p e s below _ _ _ _ T101 (mkF m 9 #[.val (.ref a1), .val (.int (0 : Int32)), .val (.int (Int32.ofNat cs.length)), .val (.ref o101), .unset, .unset] [(.int (Int32.ofNat cs.length)), (.int (0 : Int32)), (.ref o101), (.int (0 : Int32)), (.ref a1)])
    have f103 := (V1.ext E101)
    obtain ⟨_, b102, T102, h102, L102, e102, Cc102, X102, B102, J102, g102, hQ102, st102⟩ := own_callS Cc B101 J101 X101 (hw _ (List.mem_of_getElem? (i := 262) rfl)) (hw _ (List.mem_of_getElem? (i := 263) rfl)) (hw _ (List.mem_of_getElem? (i := 199) rfl)) (hw _ (List.mem_of_getElem? (i := 264) rfl)) (by decide) (rm55 l Z a0 hw [] a1 o101 _ _ cs j _ h101 n0 O101 h0.size (own_ole O0) K101.1 fr101 (List.mem_cons_self ..) hn hr hj hlt hend ne_a1_o101 f103 V101) e101 (g := (mkF m 9 #[.val (.ref a1), .val (.int (0 : Int32)), .val (.int (Int32.ofNat cs.length)), .val (.ref o101), .unset, .unset] [(.int (Int32.ofNat cs.length)), (.int (0 : Int32)), (.ref o101), (.int (0 : Int32)), (.ref a1)])) rfl (by rw [hml]; rfl) (argsL := [(.ref a1), (.int (0 : Int32)), (.ref o101), (.int (0 : Int32)), (.int (Int32.ofNat cs.length))]) (rest := []) (lenOf pd3 rfl) rfl (W := 0) (by show 2 * 0 + _ ≤ _; exact Nat.le_of_eq rfl) (hb hby d54_9) (by decide) (by decide) (by decide) (by decide)
    obtain ⟨rfl, Nq102, Kq102, Vd102⟩ := hQ102
    have N102 := Fr.app N0 Nq102
    obtain ⟨hx, hZ, hown, hby, hml, hnm, hret, hlk⟩ := id Cc102
    have K102 := K101.trans Kq102 (allS (Or.inr sz101) all0)
    have O102 := O101.keep Kq102 (allS (Nat.le_trans (own_ole O0) fr101) all0)
    refine Go.of st102 ?_
    show Go p e s below _ _ _ _ T102 (mkF m 12 #[.val (.ref a1), .val (.int (0 : Int32)), .val (.int (Int32.ofNat cs.length)), .val (.ref o101), .unset, .unset] [(.int (Int32.ofNat j))])
    refine Go.of (fun _ hr => XS.istore X102.here hx rfl (hb hby d54_12) rfl (l' := #[.val (.ref a1), .val (.int (0 : Int32)), .val (.int (Int32.ofNat cs.length)), .val (.ref o101), .val (.int (Int32.ofNat j)), .unset]) rfl hr) ?_
    show Go p e s below _ _ _ _ T102 (mkF m 14 #[.val (.ref a1), .val (.int (0 : Int32)), .val (.int (Int32.ofNat cs.length)), .val (.ref o101), .val (.int (Int32.ofNat j)), .unset] [])
    refine Go.of (fun _ hr => XS.iload X102.here hx rfl (hb hby d54_14) rfl  hr) ?_
    show Go p e s below _ _ _ _ T102 (mkF m 16 #[.val (.ref a1), .val (.int (0 : Int32)), .val (.int (Int32.ofNat cs.length)), .val (.ref o101), .val (.int (Int32.ofNat j)), .unset] [(.int (Int32.ofNat j))])
    refine Go.of (fun _ hr => XS.iloadN X102.here hx rfl (hb hby d54_16) rfl  hr) ?_
    show Go p e s below _ _ _ _ T102 (mkF m 17 #[.val (.ref a1), .val (.int (0 : Int32)), .val (.int (Int32.ofNat cs.length)), .val (.ref o101), .val (.int (Int32.ofNat j)), .unset] [(.int (Int32.ofNat cs.length)), (.int (Int32.ofNat j))])
    refine Go.of (fun _ hr => XS.icmpYes X102.here hx rfl (pc0 := 17) (pc' := 57) rfl (hb hby d54_17) rfl (teq (by rw [he])).1 (by decide) (by decide) hr) ?_
    show Go p e s below _ _ _ _ T102 (mkF m 57 #[.val (.ref a1), .val (.int (0 : Int32)), .val (.int (Int32.ofNat cs.length)), .val (.ref o101), .val (.int (Int32.ofNat j)), .unset] [])
    refine Go.of (fun _ hr => XS.aloadN X102.here hx rfl (hb hby d54_57) rfl rfl hr) ?_
    show Go p e s below _ _ _ _ T102 (mkF m 58 #[.val (.ref a1), .val (.int (0 : Int32)), .val (.int (Int32.ofNat cs.length)), .val (.ref o101), .val (.int (Int32.ofNat j)), .unset] [(.ref o101)])
    exact Go.retA X102 hx hlk B102 (J102.sub fun x hx => (List.mem_cons_of_mem _ hx)) e102 hret rfl rfl (hb hby d54_58) (by decide) (by decide) (fun vm_ hw_ => ⟨_, _, 0, (cs.map lo8), rfl, (fun y hy => Nat.le_trans hnb (N102 y hy)), keep_ext K102, sz101, Or.inl ⟨rfl, rfl, all_le he hlt⟩, asB (by have q := Vd102; rw [he, List.take_length] at q; exact q)⟩)
  · have hjl := big_in he
    have hch : 255 < ch16 ((utf cs).getD (2 * j) 0) ((utf cs).getD (2 * j + 1) 0) := by rw [utf_ch hr hjl]; exact he
    refine Con.mk (plainFor_of_name pn0) ?_
    intro p e s m below meth c s₁ Cc X0 e0 eb J0 B0 M0
    obtain ⟨hx, hZ, hown, hby, hml, hnm, hret, hlk⟩ := id Cc
    have N0 := Fr.nil h0.size
    have K0 := Keep.refl h0 []
    show Go p e s below _ _ _ _ s₁ (mkF m 0 #[.val (.ref a1), .val (.int (0 : Int32)), .val (.int (Int32.ofNat cs.length)), .unset, .unset, .unset] [])
    refine Go.of (fun _ hr => XS.iloadN X0.here hx rfl (hb hby d54_0) rfl  hr) ?_
    show Go p e s below _ _ _ _ s₁ (mkF m 1 #[.val (.ref a1), .val (.int (0 : Int32)), .val (.int (Int32.ofNat cs.length)), .unset, .unset, .unset] [(.int (Int32.ofNat cs.length))])
    obtain ⟨T101, h101, k101, X101, e101, E101, A101, st101⟩ := newP X0 hx hZ (hw _ (List.mem_of_getElem? (i := 9) rfl)) e0 (g := (mkF m 1 #[.val (.ref a1), .val (.int (0 : Int32)), .val (.int (Int32.ofNat cs.length)), .unset, .unset, .unset] [(.int (Int32.ofNat cs.length))])) rfl (hb hby d54_1) rfl (oi_nn (by omega)) (cap := 16) (by rw [oi_nat (by omega)]; exact hn) (by decide) (by decide) (by decide)
    obtain ⟨o101, g101⟩ : ∃ z, z = h0.size := ⟨_, rfl⟩
    rw [← g101] at A101 st101
    have ne_a1_o101 : a1 ≠ o101 := Nat.ne_of_lt (Nat.lt_of_lt_of_le V1.lt (Nat.le_of_eq g101.symm))
    have V101 := Arv.new A101 (oi_nn (by omega))
    have lt101 : o101 < h101.size := A101.lt
    have J101 := J0.add E101 g101 lt101
    have B101 := B0.mono E101.1
    have O101 := O0.ext E101
    have sz101 : h0.size ≤ o101 := Nat.le_trans K0.1 (Nat.le_of_eq g101.symm)
    have fr101 : h0.size ≤ o101 := sz101
    have K101 := K0.ext E101
    refine Go.of (fun _ hr => st101 _ hr) ?_
    show Go p e s below _ _ _ _ T101 (mkF m 3 #[.val (.ref a1), .val (.int (0 : Int32)), .val (.int (Int32.ofNat cs.length)), .unset, .unset, .unset] [(.ref o101)])
    refine Go.of (fun _ hr => XS.astoreN X101.here hx rfl (hb hby d54_3) rfl rfl (l' := #[.val (.ref a1), .val (.int (0 : Int32)), .val (.int (Int32.ofNat cs.length)), .val (.ref o101), .unset, .unset]) rfl hr) ?_
    show Go p e s below _ _ _ _ T101 (mkF m 4 #[.val (.ref a1), .val (.int (0 : Int32)), .val (.int (Int32.ofNat cs.length)), .val (.ref o101), .unset, .unset] [])
    refine Go.of (fun _ hr => XS.aloadN X101.here hx rfl (hb hby d54_4) rfl rfl hr) ?_
    show Go p e s below _ _ _ _ T101 (mkF m 5 #[.val (.ref a1), .val (.int (0 : Int32)), .val (.int (Int32.ofNat cs.length)), .val (.ref o101), .unset, .unset] [(.ref a1)])
    refine Go.of (fun _ hr => XS.iloadN X101.here hx rfl (hb hby d54_5) rfl  hr) ?_
    show Go p e s below _ _ _ _ T101 (mkF m 6 #[.val (.ref a1), .val (.int (0 : Int32)), .val (.int (Int32.ofNat cs.length)), .val (.ref o101), .unset, .unset] [(.int (0 : Int32)), (.ref a1)])
    refine Go.of (fun _ hr => XS.aloadN X101.here hx rfl (hb hby d54_6) rfl rfl hr) ?_
    show Go p e s below _ _ _ _ T101 (mkF m 7 #[.val (.ref a1), .val (.int (0 : Int32)), .val (.int (Int32.ofNat cs.length)), .val (.ref o101), .unset, .unset] [(.ref o101), (.int (0 : Int32)), (.ref a1)])
    refine Go.of (fun _ hr => XS.iconst X101.here hx rfl (hb hby d54_7) hr) ?_
    show Go p e s below _ _ _ _ T101 (mkF m 8 #[.val (.ref a1), .val (.int (0 : Int32)), .val (.int (Int32.ofNat cs.length)), .val (.ref o101), .unset, .unset] [(.int (0 : Int32)), (.ref o101), (.int (0 : Int32)), (.ref a1)])
    refine Go.of (fun _ hr => XS.iloadN X101.here hx rfl (hb hby d54_8) rfl  hr) ?_
    show Go p e s below _ _ _ _ T101 (mkF m 9 #[.val (.ref a1), .val (.int (0 : Int32)), .val (.int (Int32.ofNat cs.length)), .val (.ref o101), .unset, .unset] [(.int (Int32.ofNat cs.length)), (.int (0 : Int32)), (.ref o101), (.int (0 : Int32)), (.ref a1)])
    have f103 := (V1.ext E101)
    obtain ⟨_, b102, T102, h102, L102, e102, Cc102, X102, B102, J102, g102, hQ102, st102⟩ := own_callS Cc B101 J101 X101 (hw _ (List.mem_of_getElem? (i := 262) rfl)) (hw _ (List.mem_of_getElem? (i := 263) rfl)) (hw _ (List.mem_of_getElem? (i := 199) rfl)) (hw _ (List.mem_of_getElem? (i := 264) rfl)) (by decide) (rm55 l Z a0 hw [] a1 o101 _ _ cs j _ h101 n0 O101 h0.size (own_ole O0) K101.1 fr101 (List.mem_cons_self ..) hn hr hj hlt hend ne_a1_o101 f103 V101) e101 (g := (mkF m 9 #[.val (.ref a1), .val (.int (0 : Int32)), .val (.int (Int32.ofNat cs.length)), .val (.ref o101), .unset, .unset] [(.int (Int32.ofNat cs.length)), (.int (0 : Int32)), (.ref o101), (.int (0 : Int32)), (.ref a1)])) rfl (by rw [hml]; rfl) (argsL := [(.ref a1), (.int (0 : Int32)), (.ref o101), (.int (0 : Int32)), (.int (Int32.ofNat cs.length))]) (rest := []) (lenOf pd3 rfl) rfl (W := 0) (by show 2 * 0 + _ ≤ _; exact Nat.le_of_eq rfl) (hb hby d54_9) (by decide) (by decide) (by decide) (by decide)
    obtain ⟨rfl, Nq102, Kq102, Vd102⟩ := hQ102
    have N102 := Fr.app N0 Nq102
    obtain ⟨hx, hZ, hown, hby, hml, hnm, hret, hlk⟩ := id Cc102
    have K102 := K101.trans Kq102 (allS (Or.inr sz101) all0)
    have O102 := O101.keep Kq102 (allS (Nat.le_trans (own_ole O0) fr101) all0)
    refine Go.of st102 ?_
    show Go p e s below _ _ _ _ T102 (mkF m 12 #[.val (.ref a1), .val (.int (0 : Int32)), .val (.int (Int32.ofNat cs.length)), .val (.ref o101), .unset, .unset] [(.int (Int32.ofNat j))])
    refine Go.of (fun _ hr => XS.istore X102.here hx rfl (hb hby d54_12) rfl (l' := #[.val (.ref a1), .val (.int (0 : Int32)), .val (.int (Int32.ofNat cs.length)), .val (.ref o101), .val (.int (Int32.ofNat j)), .unset]) rfl hr) ?_
    show Go p e s below _ _ _ _ T102 (mkF m 14 #[.val (.ref a1), .val (.int (0 : Int32)), .val (.int (Int32.ofNat cs.length)), .val (.ref o101), .val (.int (Int32.ofNat j)), .unset] [])
    refine Go.of (fun _ hr => XS.iload X102.here hx rfl (hb hby d54_14) rfl  hr) ?_
    show Go p e s below _ _ _ _ T102 (mkF m 16 #[.val (.ref a1), .val (.int (0 : Int32)), .val (.int (Int32.ofNat cs.length)), .val (.ref o101), .val (.int (Int32.ofNat j)), .unset] [(.int (Int32.ofNat j))])
    refine Go.of (fun _ hr => XS.iloadN X102.here hx rfl (hb hby d54_16) rfl  hr) ?_
    show Go p e s below _ _ _ _ T102 (mkF m 17 #[.val (.ref a1), .val (.int (0 : Int32)), .val (.int (Int32.ofNat cs.length)), .val (.ref o101), .val (.int (Int32.ofNat j)), .unset] [(.int (Int32.ofNat cs.length)), (.int (Int32.ofNat j))])
    refine Go.of (fun _ hr => XS.icmpNo X102.here hx rfl (hb hby d54_17) rfl (feq (fun q => absurd (oi_inj (by omega) (by omega) q) (by omega))).1 hr) ?_
    show Go p e s below _ _ _ _ T102 (mkF m 20 #[.val (.ref a1), .val (.int (0 : Int32)), .val (.int (Int32.ofNat cs.length)), .val (.ref o101), .val (.int (Int32.ofNat j)), .unset] [])
    refine Go.of (fun _ hr => XS.aloadN X102.here hx rfl (hb hby d54_20) rfl rfl hr) ?_
    show Go p e s below _ _ _ _ T102 (mkF m 21 #[.val (.ref a1), .val (.int (0 : Int32)), .val (.int (Int32.ofNat cs.length)), .val (.ref o101), .val (.int (Int32.ofNat j)), .unset] [(.ref a1)])
    refine Go.of (fun _ hr => XS.iloadN X102.here hx rfl (hb hby d54_21) rfl  hr) ?_
    show Go p e s below _ _ _ _ T102 (mkF m 22 #[.val (.ref a1), .val (.int (0 : Int32)), .val (.int (Int32.ofNat cs.length)), .val (.ref o101), .val (.int (Int32.ofNat j)), .unset] [(.int (0 : Int32)), (.ref a1)])
    refine Go.of (fun _ hr => XS.iloadN X102.here hx rfl (hb hby d54_22) rfl  hr) ?_
    show Go p e s below _ _ _ _ T102 (mkF m 23 #[.val (.ref a1), .val (.int (0 : Int32)), .val (.int (Int32.ofNat cs.length)), .val (.ref o101), .val (.int (Int32.ofNat j)), .unset] [(.int (Int32.ofNat cs.length)), (.int (0 : Int32)), (.ref a1)])
    have f105 := (f103.keep Kq102 (ninS ne_a1_o101 nin0))
    obtain ⟨_, b104, T104, h104, L104, e104, Cc104, X104, B104, J104, g104, hQ104, st104⟩ := own_callS Cc102 B102 J102 X102 (hw _ (List.mem_of_getElem? (i := 268) rfl)) (hw _ (List.mem_of_getElem? (i := 269) rfl)) (hw _ (List.mem_of_getElem? (i := 199) rfl)) (hw _ (List.mem_of_getElem? (i := 270) rfl)) (by decide) (rm57 l Z a0 hw [] a1 _ cs _ h102 n0 O102 h0.size (own_ole O0) K102.1 S_D S_H S_L hn f105) e102 (g := (mkF m 23 #[.val (.ref a1), .val (.int (0 : Int32)), .val (.int (Int32.ofNat cs.length)), .val (.ref o101), .val (.int (Int32.ofNat j)), .unset] [(.int (Int32.ofNat cs.length)), (.int (0 : Int32)), (.ref a1)])) rfl (by rw [hml]; rfl) (argsL := [(.ref a1), (.int (0 : Int32)), (.int (Int32.ofNat cs.length))]) (rest := []) (lenOf pd4 rfl) rfl (W := 0) (by show 2 * 0 + _ ≤ _; exact Nat.le_of_eq rfl) (hb hby d54_23) (by decide) (by decide) (by decide) (by decide)
    obtain ⟨u104, ku104, rfl, Nq104, Eq104, R_u104, Vu104⟩ := hQ104
    have N104 := Fr.app N102 Nq104
    obtain ⟨hx, hZ, hown, hby, hml, hnm, hret, hlk⟩ := id Cc104
    have sz_u104 : h0.size ≤ u104 := Nat.le_trans K102.1 R_u104
    have fr_u104 : h0.size ≤ u104 := sz_u104
    have ne_a1_u104 : a1 ≠ u104 := Nat.ne_of_lt (Nat.lt_of_lt_of_le f105.lt R_u104)
    have ne_o101_u104 : o101 ≠ u104 := Nat.ne_of_lt (Nat.lt_of_lt_of_le Vd102.lt R_u104)
    have K104 := K102.ext Eq104
    have O104 := O102.ext Eq104
    refine Go.of st104 ?_
    show Go p e s below _ _ _ _ T104 (mkF m 26 #[.val (.ref a1), .val (.int (0 : Int32)), .val (.int (Int32.ofNat cs.length)), .val (.ref o101), .val (.int (Int32.ofNat j)), .unset] [(.ref u104)])
    refine Go.of (fun _ hr => XS.astore X104.here hx rfl (hb hby d54_26) rfl rfl (l' := #[.val (.ref a1), .val (.int (0 : Int32)), .val (.int (Int32.ofNat cs.length)), .val (.ref o101), .val (.int (Int32.ofNat j)), .val (.ref u104)]) rfl hr) ?_
    show Go p e s below _ _ _ _ T104 (mkF m 28 #[.val (.ref a1), .val (.int (0 : Int32)), .val (.int (Int32.ofNat cs.length)), .val (.ref o101), .val (.int (Int32.ofNat j)), .val (.ref u104)] [])
    refine Go.of (fun _ hr => XS.aload X104.here hx rfl (hb hby d54_28) rfl rfl hr) ?_
    show Go p e s below _ _ _ _ T104 (mkF m 30 #[.val (.ref a1), .val (.int (0 : Int32)), .val (.int (Int32.ofNat cs.length)), .val (.ref o101), .val (.int (Int32.ofNat j)), .val (.ref u104)] [(.ref u104)])
    refine Go.of (fun _ hr => XS.iload X104.here hx rfl (hb hby d54_30) rfl  hr) ?_
    show Go p e s below _ _ _ _ T104 (mkF m 32 #[.val (.ref a1), .val (.int (0 : Int32)), .val (.int (Int32.ofNat cs.length)), .val (.ref o101), .val (.int (Int32.ofNat j)), .val (.ref u104)] [(.int (Int32.ofNat j)), (.ref u104)])
    obtain ⟨_, b106, T106, h106, L106, e106, Cc106, X106, B106, J106, g106, hQ106, st106⟩ := own_callS Cc104 B104 J104 X104 (hw _ (List.mem_of_getElem? (i := 248) rfl)) (hw _ (List.mem_of_getElem? (i := 249) rfl)) (hw _ (List.mem_of_getElem? (i := 199) rfl)) (hw _ (List.mem_of_getElem? (i := 250) rfl)) (by decide) (rm51 l Z a0 hw [] u104 _ (utf cs) cs.length j _ h104 n0 O104 h0.size (own_ole O0) K104.1 S_D S_H S_L (by omega) hjl Vu104) e104 (g := (mkF m 32 #[.val (.ref a1), .val (.int (0 : Int32)), .val (.int (Int32.ofNat cs.length)), .val (.ref o101), .val (.int (Int32.ofNat j)), .val (.ref u104)] [(.int (Int32.ofNat j)), (.ref u104)])) rfl (by rw [hml]; rfl) (argsL := [(.ref u104), (.int (Int32.ofNat j))]) (rest := []) (lenOf pd5 rfl) rfl (W := 0) (by show 2 * 0 + _ ≤ _; exact Nat.le_of_eq rfl) (hb hby d54_32) (by decide) (by decide) (by decide) (by decide)
    obtain ⟨rfl, Nq106, hh106⟩ := hQ106
    have N106 := Fr.app N104 Nq106
    obtain ⟨hx, hZ, hown, hby, hml, hnm, hret, hlk⟩ := id Cc106
    rw [hh106] at e106 B106 J106
    refine Go.of st106 ?_
    show Go p e s below _ _ _ _ T106 (mkF m 35 #[.val (.ref a1), .val (.int (0 : Int32)), .val (.int (Int32.ofNat cs.length)), .val (.ref o101), .val (.int (Int32.ofNat j)), .val (.ref u104)] [(.int (ch16 ((utf cs).getD (2 * j) 0) ((utf cs).getD (2 * j + 1) 0)))])
    refine Go.of (fun _ hr => XS.sipush X106.here hx rfl (hb hby d54_35) hr) ?_
    show Go p e s below _ _ _ _ T106 (mkF m 38 #[.val (.ref a1), .val (.int (0 : Int32)), .val (.int (Int32.ofNat cs.length)), .val (.ref o101), .val (.int (Int32.ofNat j)), .val (.ref u104)] [(.int (255 : Int32)), (.int (ch16 ((utf cs).getD (2 * j) 0) ((utf cs).getD (2 * j + 1) 0)))])
    refine Go.of (fun _ hr => XS.icmpYes X106.here hx rfl (pc0 := 38) (pc' := 54) rfl (hb hby d54_38) rfl (tlt hch).2.2.1 (by decide) (by decide) hr) ?_
    show Go p e s below _ _ _ _ T106 (mkF m 54 #[.val (.ref a1), .val (.int (0 : Int32)), .val (.int (Int32.ofNat cs.length)), .val (.ref o101), .val (.int (Int32.ofNat j)), .val (.ref u104)] [])
    refine Go.of (fun _ hr => XS.aload X106.here hx rfl (hb hby d54_54) rfl rfl hr) ?_
    show Go p e s below _ _ _ _ T106 (mkF m 56 #[.val (.ref a1), .val (.int (0 : Int32)), .val (.int (Int32.ofNat cs.length)), .val (.ref o101), .val (.int (Int32.ofNat j)), .val (.ref u104)] [(.ref u104)])
    exact Go.retA X106 hx hlk B106 (J106.sub fun x hx => (List.mem_cons_of_mem _ hx)) e106 hret rfl rfl (hb hby d54_56) (by decide) (by decide) (fun vm_ hw_ => ⟨_, _, 1, (utf cs), rfl, (fun y hy => Nat.le_trans hnb (N106 y hy)), keep_ext K104, sz_u104, Or.inr ⟨rfl, rfl⟩, (by rw [utf_len]; exact Vu104)⟩)

theorem d56_0 : decode jdk_52_method_15_code 0 = .ok (.iload_n 1, 1) := by decide +kernel
theorem d56_1 : decode jdk_52_method_15_code 1 = .ok (.aload_n 0, 1) := by decide +kernel
theorem d56_2 : decode jdk_52_method_15_code 2 = .ok (.arraylength, 1) := by decide +kernel
theorem d56_3 : decode jdk_52_method_15_code 3 = .ok (.isub, 1) := by decide +kernel
theorem d56_4 : decode jdk_52_method_15_code 4 = .ok (.bipush 31, 2) := by decide +kernel
theorem d56_6 : decode jdk_52_method_15_code 6 = .ok (.iushr, 1) := by decide +kernel
theorem d56_7 : decode jdk_52_method_15_code 7 = .ok (.i2b, 1) := by decide +kernel
theorem d56_8 : decode jdk_52_method_15_code 8 = .ok (.ireturn, 1) := by decide +kernel
set_option maxRecDepth 65536 in
set_option maxHeartbeats 40000000 in
theorem rm56 (l : Launch) (Z : State) (a0 : Array Value) (hw : ∀ d ∈ tables_1, d.before a0 Z = true) (ws : List Jvm.Cond) (a1 : Addr) (k1 : ClassId) (cs : List Int32) (cd : Int32) (bb : List Int32) (ms : List Addr) (h0 : Heap) (n0 : Nat) (O0 : Old Z n0 h0) (nb : Nat) (hb0 : n0 ≤ nb) (hnb : nb ≤ h0.size) (V1 : Arv Z h0 a1 k1 .byte (Int32.ofNat bb.length) (bb.map Value.int) (.int 0)) (hso : StrOf cs cd bb) (hpos : 0 < cs.length) (hn : cs.length ≤ 16) :
    Con l Z ms (⟨"java/lang/StringUTF16", "coderFromArrayLen", "([BI)B"⟩ : MethodName) jdk_52_method_15_code 2 (some .byte) ws ({ frames := 0, cells := 0, slots := 0, locals := 0 } : Room) #[(.ref a1), (.int (Int32.ofNat cs.length))] h0 (fun v vm h L => v = some (.int cd) ∧ Fr nb L ∧ h = h0) := by
  rcases id hso with ⟨rfl, rfl, hl⟩ | ⟨rfl, rfl⟩
  · refine Con.mk (plainFor_of_name pn0) ?_
    intro p e s m below meth c s₁ Cc X0 e0 eb J0 B0 M0
    obtain ⟨hx, hZ, hown, hby, hml, hnm, hret, hlk⟩ := id Cc
    have N0 := Fr.nil h0.size
    have K0 := Keep.refl h0 []
    show Go p e s below _ _ _ _ s₁ (mkF m 0 #[.val (.ref a1), .val (.int (Int32.ofNat cs.length))] [])
    refine Go.of (fun _ hr => XS.iloadN X0.here hx rfl (hb hby d56_0) rfl  hr) ?_
    show Go p e s below _ _ _ _ s₁ (mkF m 1 #[.val (.ref a1), .val (.int (Int32.ofNat cs.length))] [(.int (Int32.ofNat cs.length))])
    refine Go.of (fun _ hr => XS.aloadN X0.here hx rfl (hb hby d56_1) rfl rfl hr) ?_
    show Go p e s below _ _ _ _ s₁ (mkF m 2 #[.val (.ref a1), .val (.int (Int32.ofNat cs.length))] [(.ref a1), (.int (Int32.ofNat cs.length))])
    obtain ⟨cl101, Ar101, q101, S101, N101_, H101, G101⟩ := id V1
    refine Go.of (fun _ hr => X0.arraylength hx (by rw [e0]; exact Ar101.1) (State.isArrayOf_alike hZ.alike Ar101.2.1) (g := (mkF m 2 #[.val (.ref a1), .val (.int (Int32.ofNat cs.length))] [(.ref a1), (.int (Int32.ofNat cs.length))])) rfl rfl (hb hby d56_2) _ hr) ?_
    rw [len_of S101 N101_]
    show Go p e s below _ _ _ _ s₁ (mkF m 3 #[.val (.ref a1), .val (.int (Int32.ofNat cs.length))] [(.int (Int32.ofNat (cs.map lo8).length)), (.int (Int32.ofNat cs.length))])
    refine Go.of (fun _ hr => XS.isub X0.here hx rfl (hb hby d56_3) rfl hr) ?_
    show Go p e s below _ _ _ _ s₁ (mkF m 4 #[.val (.ref a1), .val (.int (Int32.ofNat cs.length))] [(.int ((Int32.ofNat cs.length) - (Int32.ofNat (cs.map lo8).length)))])
    refine Go.of (fun _ hr => XS.bipush X0.here hx rfl (hb hby d56_4) hr) ?_
    show Go p e s below _ _ _ _ s₁ (mkF m 6 #[.val (.ref a1), .val (.int (Int32.ofNat cs.length))] [(.int (31 : Int32)), (.int ((Int32.ofNat cs.length) - (Int32.ofNat (cs.map lo8).length)))])
    refine Go.of (fun _ hr => XS.iushr X0.here hx rfl (hb hby d56_6) rfl hr) ?_
    show Go p e s below _ _ _ _ s₁ (mkF m 7 #[.val (.ref a1), .val (.int (Int32.ofNat cs.length))] [(.int ((((Int32.ofNat cs.length) - (Int32.ofNat (cs.map lo8).length)).toUInt32 >>> ((31 : Int32) &&& 31).toUInt32).toInt32))])
    rw [List.length_map, own_cd0]
    show Go p e s below _ _ _ _ s₁ (mkF m 7 #[.val (.ref a1), .val (.int (Int32.ofNat cs.length))] [(.int (0 : Int32))])
    refine Go.of (fun _ hr => XS.i2b X0.here hx rfl (hb hby d56_7) rfl hr) ?_
    show Go p e s below _ _ _ _ s₁ (mkF m 8 #[.val (.ref a1), .val (.int (Int32.ofNat cs.length))] [(.int ((0 : Int32).toInt8.toInt32))])
    exact Go.retN X0 hx hlk B0 J0 e0 (t := .byte) (z' := (0 : Int32)) hret (by simp) (hb hby d56_8) (by decide) (by decide) (by decide) (fun vm_ hw_ => ⟨rfl, (fun y hy => Nat.le_trans hnb (N0 y hy)), rfl⟩)
  · refine Con.mk (plainFor_of_name pn0) ?_
    intro p e s m below meth c s₁ Cc X0 e0 eb J0 B0 M0
    obtain ⟨hx, hZ, hown, hby, hml, hnm, hret, hlk⟩ := id Cc
    have N0 := Fr.nil h0.size
    have K0 := Keep.refl h0 []
    show Go p e s below _ _ _ _ s₁ (mkF m 0 #[.val (.ref a1), .val (.int (Int32.ofNat cs.length))] [])
    refine Go.of (fun _ hr => XS.iloadN X0.here hx rfl (hb hby d56_0) rfl  hr) ?_
    show Go p e s below _ _ _ _ s₁ (mkF m 1 #[.val (.ref a1), .val (.int (Int32.ofNat cs.length))] [(.int (Int32.ofNat cs.length))])
    refine Go.of (fun _ hr => XS.aloadN X0.here hx rfl (hb hby d56_1) rfl rfl hr) ?_
    show Go p e s below _ _ _ _ s₁ (mkF m 2 #[.val (.ref a1), .val (.int (Int32.ofNat cs.length))] [(.ref a1), (.int (Int32.ofNat cs.length))])
    obtain ⟨cl101, Ar101, q101, S101, N101_, H101, G101⟩ := id V1
    refine Go.of (fun _ hr => X0.arraylength hx (by rw [e0]; exact Ar101.1) (State.isArrayOf_alike hZ.alike Ar101.2.1) (g := (mkF m 2 #[.val (.ref a1), .val (.int (Int32.ofNat cs.length))] [(.ref a1), (.int (Int32.ofNat cs.length))])) rfl rfl (hb hby d56_2) _ hr) ?_
    rw [len_of S101 N101_]
    show Go p e s below _ _ _ _ s₁ (mkF m 3 #[.val (.ref a1), .val (.int (Int32.ofNat cs.length))] [(.int (Int32.ofNat (utf cs).length)), (.int (Int32.ofNat cs.length))])
    refine Go.of (fun _ hr => XS.isub X0.here hx rfl (hb hby d56_3) rfl hr) ?_
    show Go p e s below _ _ _ _ s₁ (mkF m 4 #[.val (.ref a1), .val (.int (Int32.ofNat cs.length))] [(.int ((Int32.ofNat cs.length) - (Int32.ofNat (utf cs).length)))])
    refine Go.of (fun _ hr => XS.bipush X0.here hx rfl (hb hby d56_4) hr) ?_
    show Go p e s below _ _ _ _ s₁ (mkF m 6 #[.val (.ref a1), .val (.int (Int32.ofNat cs.length))] [(.int (31 : Int32)), (.int ((Int32.ofNat cs.length) - (Int32.ofNat (utf cs).length)))])
    refine Go.of (fun _ hr => XS.iushr X0.here hx rfl (hb hby d56_6) rfl hr) ?_
    show Go p e s below _ _ _ _ s₁ (mkF m 7 #[.val (.ref a1), .val (.int (Int32.ofNat cs.length))] [(.int ((((Int32.ofNat cs.length) - (Int32.ofNat (utf cs).length)).toUInt32 >>> ((31 : Int32) &&& 31).toUInt32).toInt32))])
    rw [utf_len, own_cd1 hpos (by omega)]
    show Go p e s below _ _ _ _ s₁ (mkF m 7 #[.val (.ref a1), .val (.int (Int32.ofNat cs.length))] [(.int (1 : Int32))])
    refine Go.of (fun _ hr => XS.i2b X0.here hx rfl (hb hby d56_7) rfl hr) ?_
    show Go p e s below _ _ _ _ s₁ (mkF m 8 #[.val (.ref a1), .val (.int (Int32.ofNat cs.length))] [(.int ((1 : Int32).toInt8.toInt32))])
    exact Go.retN X0 hx hlk B0 J0 e0 (t := .byte) (z' := (1 : Int32)) hret (by simp) (hb hby d56_8) (by decide) (by decide) (by decide) (fun vm_ hw_ => ⟨rfl, (fun y hy => Nat.le_trans hnb (N0 y hy)), rfl⟩)

theorem pn1 : plainName "java/lang/String" = true := by first | (simp [plainName, overriddenIn]; done) | decide +kernel
theorem d53_0 : decode jdk_42_method_149_code 0 = .ok (.aload_n 0, 1) := by decide +kernel
theorem d53_1 : decode jdk_42_method_149_code 1 = .ok (.invokespecial 1, 3) := by decide +kernel
theorem d53_4 : decode jdk_42_method_149_code 4 = .ok (.iload_n 3, 1) := by decide +kernel
theorem d53_5 : decode jdk_42_method_149_code 5 = .ok (.ifCond .ne 22, 3) := by decide +kernel
theorem d53_27 : decode jdk_42_method_149_code 27 = .ok (.getstatic 38, 3) := by decide +kernel
theorem d53_30 : decode jdk_42_method_149_code 30 = .ok (.ifCond .eq 28, 3) := by decide +kernel
theorem d53_33 : decode jdk_42_method_149_code 33 = .ok (.aload_n 1, 1) := by decide +kernel
theorem d53_34 : decode jdk_42_method_149_code 34 = .ok (.iload_n 2, 1) := by decide +kernel
theorem d53_35 : decode jdk_42_method_149_code 35 = .ok (.iload_n 3, 1) := by decide +kernel
theorem d53_36 : decode jdk_42_method_149_code 36 = .ok (.invokestatic 177, 3) := by decide +kernel
theorem d53_39 : decode jdk_42_method_149_code 39 = .ok (.astore 5, 2) := by decide +kernel
theorem d53_41 : decode jdk_42_method_149_code 41 = .ok (.aload_n 0, 1) := by decide +kernel
theorem d53_42 : decode jdk_42_method_149_code 42 = .ok (.aload 5, 2) := by decide +kernel
theorem d53_44 : decode jdk_42_method_149_code 44 = .ok (.iload_n 3, 1) := by decide +kernel
theorem d53_45 : decode jdk_42_method_149_code 45 = .ok (.invokestatic 47, 3) := by decide +kernel
theorem pd6 : parseMethodDescriptor "([BI)B" = some ⟨[(.array .byte), .int], some .byte⟩ := by decide +kernel
theorem d53_48 : decode jdk_42_method_149_code 48 = .ok (.putfield 15, 3) := by decide +kernel
theorem d53_51 : decode jdk_42_method_149_code 51 = .ok (.aload_n 0, 1) := by decide +kernel
theorem d53_52 : decode jdk_42_method_149_code 52 = .ok (.aload 5, 2) := by decide +kernel
theorem d53_54 : decode jdk_42_method_149_code 54 = .ok (.putfield 9, 3) := by decide +kernel
theorem d53_57 : decode jdk_42_method_149_code 57 = .ok (.return_, 1) := by decide +kernel
set_option maxRecDepth 65536 in
set_option maxHeartbeats 40000000 in
theorem rm53 (l : Launch) (Z : State) (a0 : Array Value) (hw : ∀ d ∈ tables_1, d.before a0 Z = true) (ws : List Jvm.Cond) (a1 a2 : Addr) (k2 : ClassId) (cs : List Int32) (u1 u2 : Value) (zc : Int32) (ms : List Addr) (h0 : Heap) (n0 : Nat) (O0 : Old Z n0 h0) (nb : Nat) (hb0 : n0 ≤ nb) (hnb : nb ≤ h0.size) (fr_a1 : nb ≤ a1) (hm_a1 : a1 ∈ ms) (S_D : Sta Z Z.heap "java/lang/StringUTF16" "$assertionsDisabled" "Z" (.int 1)) (S_H : Sta Z Z.heap "java/lang/StringUTF16" "HI_BYTE_SHIFT" "I" (.int 0)) (S_L : Sta Z Z.heap "java/lang/StringUTF16" "LO_BYTE_SHIFT" "I" (.int 8)) (hn : cs.length ≤ 16) (hr : ∀ x ∈ cs, rng16 x) (V1 : Arv Z h0 a2 k2 .char (Int32.ofNat cs.length) (cs.map Value.int) (.int 0)) (ne12 : a2 ≠ a1) (E1 : Exa Z h0 a1 "java/lang/String") (F1 : Fld Z h0 a1 "java/lang/String" "value" "[B" u1) (F2 : Fld Z h0 a1 "java/lang/String" "coder" "B" u2) (hne : ¬ (Int32.ofNat cs.length) = (0 : Int32)) (S_C : Sta Z Z.heap "java/lang/String" "COMPACT_STRINGS" "Z" (.int zc)) (hzc : ¬ zc = 0) :
    Con l Z ms (⟨"java/lang/String", "<init>", "([CIILjava/lang/Void;)V"⟩ : MethodName) jdk_42_method_149_code 6 none ws ({ frames := 4, cells := 2, slots := 48, locals := 57 } : Room) #[(.ref a1), (.ref a2), (.int (0 : Int32)), (.int (Int32.ofNat cs.length)), .null] h0 (fun v vm h L => v = none ∧ Fr nb L ∧ Keep h0 h [a1] ∧ ∃ t k cd bb, t ∉ ms ∧ Fld Z h a1 "java/lang/String" "value" "[B" (.ref t) ∧ Fld Z h a1 "java/lang/String" "coder" "B" (.int cd) ∧ StrOf cs cd bb ∧ Arv Z h t k .byte (Int32.ofNat bb.length) (bb.map Value.int) (.int 0)) := by
  refine Con.mk (plainFor_of_name pn1) ?_
  intro p e s m below meth c s₁ Cc X0 e0 eb J0 B0 M0
  obtain ⟨hx, hZ, hown, hby, hml, hnm, hret, hlk⟩ := id Cc
  have N0 := Fr.nil nb
  have K0 := Keep.refl h0 [a1]
  show Go p e s below _ _ _ _ s₁ (mkF m 0 #[.val (.ref a1), .val (.ref a2), .val (.int (0 : Int32)), .val (.int (Int32.ofNat cs.length)), .val .null, .unset] [])
  refine Go.of (fun _ hr => XS.aloadN X0.here hx rfl (hb hby d53_0) rfl rfl hr) ?_
  show Go p e s below _ _ _ _ s₁ (mkF m 1 #[.val (.ref a1), .val (.ref a2), .val (.int (0 : Int32)), .val (.int (Int32.ofNat cs.length)), .val .null, .unset] [(.ref a1)])
  obtain ⟨T101, X101, e101, st101⟩ := initO X0 hx hZ hown (hw _ (List.mem_of_getElem? (i := 121) rfl)) (hw _ (List.mem_of_getElem? (i := 21) rfl)) (hw _ (List.mem_of_getElem? (i := 22) rfl)) e0 (g := (mkF m 1 #[.val (.ref a1), .val (.ref a2), .val (.int (0 : Int32)), .val (.int (Int32.ofNat cs.length)), .val .null, .unset] [(.ref a1)])) rfl (by rw [hml]; rfl) rfl (hb hby d53_1) (by decide) (W := 0) (by show 2 * 0 + _ ≤ _; exact Nat.le_of_eq rfl) (by decide)
  refine Go.of (fun _ hr => st101 _ hr) ?_
  show Go p e s below _ _ _ _ T101 (mkF m 4 #[.val (.ref a1), .val (.ref a2), .val (.int (0 : Int32)), .val (.int (Int32.ofNat cs.length)), .val .null, .unset] [])
  refine Go.of (fun _ hr => XS.iloadN X101.here hx rfl (hb hby d53_4) rfl  hr) ?_
  show Go p e s below _ _ _ _ T101 (mkF m 5 #[.val (.ref a1), .val (.ref a2), .val (.int (0 : Int32)), .val (.int (Int32.ofNat cs.length)), .val .null, .unset] [(.int (Int32.ofNat cs.length))])
  refine Go.of (fun _ hr => XS.ifYes X101.here hx rfl (pc0 := 5) (pc' := 27) rfl (hb hby d53_5) rfl ((if0 _ _).trans (feq hne).2) (by decide) (by decide) hr) ?_
  show Go p e s below _ _ _ _ T101 (mkF m 27 #[.val (.ref a1), .val (.ref a2), .val (.int (0 : Int32)), .val (.int (Int32.ofNat cs.length)), .val .null, .unset] [])
  obtain ⟨T102, X102, e102, st102⟩ := getS2 X101 hx hZ hown (host := "") (Or.inl (hw _ (List.mem_of_getElem? (i := 79) rfl))) Via.refl e101 (S_C.ext O0.2) (g := (mkF m 27 #[.val (.ref a1), .val (.ref a2), .val (.int (0 : Int32)), .val (.int (Int32.ofNat cs.length)), .val .null, .unset] [])) rfl (hb hby d53_27)
  refine Go.of (fun _ hr => st102 _ hr) ?_
  show Go p e s below _ _ _ _ T102 (mkF m 30 #[.val (.ref a1), .val (.ref a2), .val (.int (0 : Int32)), .val (.int (Int32.ofNat cs.length)), .val .null, .unset] [(.int zc)])
  refine Go.of (fun _ hr => XS.ifNo X102.here hx rfl (hb hby d53_30) rfl ((if0 _ _).trans (feq hzc).1) hr) ?_
  show Go p e s below _ _ _ _ T102 (mkF m 33 #[.val (.ref a1), .val (.ref a2), .val (.int (0 : Int32)), .val (.int (Int32.ofNat cs.length)), .val .null, .unset] [])
  refine Go.of (fun _ hr => XS.aloadN X102.here hx rfl (hb hby d53_33) rfl rfl hr) ?_
  show Go p e s below _ _ _ _ T102 (mkF m 34 #[.val (.ref a1), .val (.ref a2), .val (.int (0 : Int32)), .val (.int (Int32.ofNat cs.length)), .val .null, .unset] [(.ref a2)])
  refine Go.of (fun _ hr => XS.iloadN X102.here hx rfl (hb hby d53_34) rfl  hr) ?_
  show Go p e s below _ _ _ _ T102 (mkF m 35 #[.val (.ref a1), .val (.ref a2), .val (.int (0 : Int32)), .val (.int (Int32.ofNat cs.length)), .val .null, .unset] [(.int (0 : Int32)), (.ref a2)])
  refine Go.of (fun _ hr => XS.iloadN X102.here hx rfl (hb hby d53_35) rfl  hr) ?_
  show Go p e s below _ _ _ _ T102 (mkF m 36 #[.val (.ref a1), .val (.ref a2), .val (.int (0 : Int32)), .val (.int (Int32.ofNat cs.length)), .val .null, .unset] [(.int (Int32.ofNat cs.length)), (.int (0 : Int32)), (.ref a2)])
  obtain ⟨_, b103, T103, h103, L103, e103, Cc103, X103, B103, J103, g103, hQ103, st103⟩ := own_callS Cc B0 J0 X102 (hw _ (List.mem_of_getElem? (i := 259) rfl)) (hw _ (List.mem_of_getElem? (i := 260) rfl)) (hw _ (List.mem_of_getElem? (i := 199) rfl)) (hw _ (List.mem_of_getElem? (i := 261) rfl)) (by decide) (rm54 l Z a0 hw [] a2 _ cs _ h0 n0 O0 h0.size (own_ole O0) K0.1 S_D S_H S_L hn hr V1) e102 (g := (mkF m 36 #[.val (.ref a1), .val (.ref a2), .val (.int (0 : Int32)), .val (.int (Int32.ofNat cs.length)), .val .null, .unset] [(.int (Int32.ofNat cs.length)), (.int (0 : Int32)), (.ref a2)])) rfl (by rw [hml]; rfl) (argsL := [(.ref a2), (.int (0 : Int32)), (.int (Int32.ofNat cs.length))]) (rest := []) (lenOf pd4 rfl) rfl (W := 0) (by show 2 * 0 + _ ≤ _; exact Nat.le_of_eq rfl) (hb hby d53_36) (by decide) (by decide) (by decide) (by decide)
  obtain ⟨r103, kr103, cd103, bb103, rfl, Nq103, Eq103, R_r103, So103, Vr103⟩ := hQ103
  have N103 := Fr.app N0 (show Fr nb _ from fun y hy => Nat.le_trans hnb (Nq103 y hy))
  have NS103 := Fr.app (Fr.nil _) Nq103
  obtain ⟨hx, hZ, hown, hby, hml, hnm, hret, hlk⟩ := id Cc103
  have sz_r103 : h0.size ≤ r103 := Nat.le_trans K0.1 R_r103
  have fr_r103 : nb ≤ r103 := Nat.le_trans hnb sz_r103
  have ne_a1_r103 : a1 ≠ r103 := Nat.ne_of_lt (Nat.lt_of_lt_of_le E1.lt R_r103)
  have ne_a2_r103 : a2 ≠ r103 := Nat.ne_of_lt (Nat.lt_of_lt_of_le V1.lt R_r103)
  have K103 := K0.ext Eq103
  have O103 := O0.ext Eq103
  refine Go.of st103 ?_
  show Go p e s below _ _ _ _ T103 (mkF m 39 #[.val (.ref a1), .val (.ref a2), .val (.int (0 : Int32)), .val (.int (Int32.ofNat cs.length)), .val .null, .unset] [(.ref r103)])
  refine Go.of (fun _ hr => XS.astore X103.here hx rfl (hb hby d53_39) rfl rfl (l' := #[.val (.ref a1), .val (.ref a2), .val (.int (0 : Int32)), .val (.int (Int32.ofNat cs.length)), .val .null, .val (.ref r103)]) rfl hr) ?_
  show Go p e s below _ _ _ _ T103 (mkF m 41 #[.val (.ref a1), .val (.ref a2), .val (.int (0 : Int32)), .val (.int (Int32.ofNat cs.length)), .val .null, .val (.ref r103)] [])
  refine Go.of (fun _ hr => XS.aloadN X103.here hx rfl (hb hby d53_41) rfl rfl hr) ?_
  show Go p e s below _ _ _ _ T103 (mkF m 42 #[.val (.ref a1), .val (.ref a2), .val (.int (0 : Int32)), .val (.int (Int32.ofNat cs.length)), .val .null, .val (.ref r103)] [(.ref a1)])
  refine Go.of (fun _ hr => XS.aload X103.here hx rfl (hb hby d53_42) rfl rfl hr) ?_
  show Go p e s below _ _ _ _ T103 (mkF m 44 #[.val (.ref a1), .val (.ref a2), .val (.int (0 : Int32)), .val (.int (Int32.ofNat cs.length)), .val .null, .val (.ref r103)] [(.ref r103), (.ref a1)])
  refine Go.of (fun _ hr => XS.iloadN X103.here hx rfl (hb hby d53_44) rfl  hr) ?_
  show Go p e s below _ _ _ _ T103 (mkF m 45 #[.val (.ref a1), .val (.ref a2), .val (.int (0 : Int32)), .val (.int (Int32.ofNat cs.length)), .val .null, .val (.ref r103)] [(.int (Int32.ofNat cs.length)), (.ref r103), (.ref a1)])
  obtain ⟨_, b104, T104, h104, L104, e104, Cc104, X104, B104, J104, g104, hQ104, st104⟩ := own_callS Cc103 B103 J103 X103 (hw _ (List.mem_of_getElem? (i := 265) rfl)) (hw _ (List.mem_of_getElem? (i := 266) rfl)) (hw _ (List.mem_of_getElem? (i := 199) rfl)) (hw _ (List.mem_of_getElem? (i := 267) rfl)) (by decide) (rm56 l Z a0 hw [] r103 _ cs cd103 bb103 _ h103 n0 O103 h0.size (own_ole O0) K103.1 Vr103 So103 (oi_pos hne) hn) e103 (g := (mkF m 45 #[.val (.ref a1), .val (.ref a2), .val (.int (0 : Int32)), .val (.int (Int32.ofNat cs.length)), .val .null, .val (.ref r103)] [(.int (Int32.ofNat cs.length)), (.ref r103), (.ref a1)])) rfl (by rw [hml]; rfl) (argsL := [(.ref r103), (.int (Int32.ofNat cs.length))]) (rest := [(.ref a1)]) (lenOf pd6 rfl) rfl (W := 1) (by show 2 * 0 + _ ≤ _; exact Nat.le_of_eq rfl) (hb hby d53_45) (by decide) (by decide) (by decide) (by decide)
  obtain ⟨rfl, Nq104, hh104⟩ := hQ104
  have N104 := Fr.app N103 (show Fr nb _ from fun y hy => Nat.le_trans hnb (Nq104 y hy))
  have NS104 := Fr.app NS103 Nq104
  obtain ⟨hx, hZ, hown, hby, hml, hnm, hret, hlk⟩ := id Cc104
  rw [hh104] at e104 B104 J104
  refine Go.of st104 ?_
  show Go p e s below _ _ _ _ T104 (mkF m 48 #[.val (.ref a1), .val (.ref a2), .val (.int (0 : Int32)), .val (.int (Int32.ofNat cs.length)), .val .null, .val (.ref r103)] [(.int cd103), (.ref a1)])
  have f106 := (F2.ext Eq103)
  have f107 := (E1.ext Eq103)
  obtain ⟨T105, h105, X105, e105, W105, st105⟩ := putFN X104 hx hZ hown (hw _ (List.mem_of_getElem? (i := 80) rfl)) Via.refl e104 f106 f107 (Or.inr ⟨(hw _ (List.mem_of_getElem? (i := 11) rfl)), rfl, hnm⟩) (hw _ (List.mem_of_getElem? (i := 8) rfl)) (ty := .byte) (v := (.int cd103)) (v' := (.int cd103)) (by decide) (congrArg Value.int (nar_cd So103)) (fits_cd So103) (g := (mkF m 48 #[.val (.ref a1), .val (.ref a2), .val (.int (0 : Int32)), .val (.int (Int32.ofNat cs.length)), .val .null, .val (.ref r103)] [(.int cd103), (.ref a1)])) rfl rfl (hb hby d53_48)
  have N105 := Fr.snoc X105 N104 fr_a1
  have J105 := J104.wr W105 hm_a1
  have B105 := B104.mono (Nat.le_of_eq W105.size.symm)
  have O105 := O103.wr W105 (Nat.le_trans hb0 fr_a1)
  have K105 := K103.wr W105 (Or.inl (List.mem_of_getElem? (i := 0) rfl))
  have Fw105 := f106.same W105
  refine Go.of (fun _ hr => st105 _ hr) ?_
  show Go p e s below _ _ _ _ T105 (mkF m 51 #[.val (.ref a1), .val (.ref a2), .val (.int (0 : Int32)), .val (.int (Int32.ofNat cs.length)), .val .null, .val (.ref r103)] [])
  refine Go.of (fun _ hr => XS.aloadN X105.here hx rfl (hb hby d53_51) rfl rfl hr) ?_
  show Go p e s below _ _ _ _ T105 (mkF m 52 #[.val (.ref a1), .val (.ref a2), .val (.int (0 : Int32)), .val (.int (Int32.ofNat cs.length)), .val .null, .val (.ref r103)] [(.ref a1)])
  refine Go.of (fun _ hr => XS.aload X105.here hx rfl (hb hby d53_52) rfl rfl hr) ?_
  show Go p e s below _ _ _ _ T105 (mkF m 54 #[.val (.ref a1), .val (.ref a2), .val (.int (0 : Int32)), .val (.int (Int32.ofNat cs.length)), .val .null, .val (.ref r103)] [(.ref r103), (.ref a1)])
  have f109 := ((F1.ext Eq103).other W105 (Or.inr (slot_ne (Or.inr (hw _ (List.mem_of_getElem? (i := 10) rfl))) (Or.inr (hw _ (List.mem_of_getElem? (i := 11) rfl))) (by decide) (t := (.array .byte)) (t' := .byte) (by decide) (by decide))))
  have f110 := (f107.wr W105)
  obtain ⟨T108, h108, X108, e108, W108, st108⟩ := putF X105 hx hZ hown (host := "") (Or.inl (hw _ (List.mem_of_getElem? (i := 73) rfl))) Via.refl e105 f109 f110 (Or.inr ⟨(hw _ (List.mem_of_getElem? (i := 10) rfl)), rfl, hnm⟩) (hw _ (List.mem_of_getElem? (i := 8) rfl)) (ty := (.array .byte)) (by decide) rfl rfl (g := (mkF m 54 #[.val (.ref a1), .val (.ref a2), .val (.int (0 : Int32)), .val (.int (Int32.ofNat cs.length)), .val .null, .val (.ref r103)] [(.ref r103), (.ref a1)])) rfl rfl (hb hby d53_54)
  have N108 := Fr.snoc X108 N105 fr_a1
  have J108 := J105.wr W108 hm_a1
  have B108 := B105.mono (Nat.le_of_eq W108.size.symm)
  have O108 := O105.wr W108 (Nat.le_trans hb0 fr_a1)
  have K108 := K105.wr W108 (Or.inl (List.mem_of_getElem? (i := 0) rfl))
  have Fw108 := f109.same W108
  refine Go.of (fun _ hr => st108 _ hr) ?_
  show Go p e s below _ _ _ _ T108 (mkF m 57 #[.val (.ref a1), .val (.ref a2), .val (.int (0 : Int32)), .val (.int (Int32.ofNat cs.length)), .val .null, .val (.ref r103)] [])
  have f111 := ((Vr103.other W105 (Ne.symm ne_a1_r103)).other W108 (Ne.symm ne_a1_r103))
  have f112 := (Fw105.other W108 (Or.inr (slot_ne (Or.inr (hw _ (List.mem_of_getElem? (i := 11) rfl))) (Or.inr (hw _ (List.mem_of_getElem? (i := 10) rfl))) (by decide) (t := .byte) (t' := (.array .byte)) (by decide) (by decide))))
  exact Go.retV X108 hx hlk B108 J108 e108 hret (hb hby d53_57) (by decide) (by decide) (fun vm_ hw_ => ⟨rfl, N108, K108, _, _, _, _, (J0.nms sz_r103), Fw108, f112, So103, f111⟩)

theorem d52_0 : decode jdk_42_method_3_code 0 = .ok (.aload_n 0, 1) := by decide +kernel
theorem d52_1 : decode jdk_42_method_3_code 1 = .ok (.aload_n 1, 1) := by decide +kernel
theorem d52_2 : decode jdk_42_method_3_code 2 = .ok (.iconst 0, 1) := by decide +kernel
theorem d52_3 : decode jdk_42_method_3_code 3 = .ok (.aload_n 1, 1) := by decide +kernel
theorem d52_4 : decode jdk_42_method_3_code 4 = .ok (.arraylength, 1) := by decide +kernel
theorem d52_5 : decode jdk_42_method_3_code 5 = .ok (.aconst_null, 1) := by decide +kernel
theorem d52_6 : decode jdk_42_method_3_code 6 = .ok (.invokespecial 27, 3) := by decide +kernel
theorem pd7 : parseMethodDescriptor "([CIILjava/lang/Void;)V" = some ⟨[(.array .char), .int, .int, (.object "java/lang/Void")], none⟩ := by decide +kernel
theorem d52_9 : decode jdk_42_method_3_code 9 = .ok (.return_, 1) := by decide +kernel
set_option maxRecDepth 65536 in
set_option maxHeartbeats 40000000 in
theorem rm52 (l : Launch) (Z : State) (a0 : Array Value) (hw : ∀ d ∈ tables_1, d.before a0 Z = true) (ws : List Jvm.Cond) (a1 a2 : Addr) (k2 : ClassId) (cs : List Int32) (u1 u2 : Value) (zc : Int32) (ms : List Addr) (h0 : Heap) (n0 : Nat) (O0 : Old Z n0 h0) (nb : Nat) (hb0 : n0 ≤ nb) (hnb : nb ≤ h0.size) (fr_a1 : nb ≤ a1) (hm_a1 : a1 ∈ ms) (S_D : Sta Z Z.heap "java/lang/StringUTF16" "$assertionsDisabled" "Z" (.int 1)) (S_H : Sta Z Z.heap "java/lang/StringUTF16" "HI_BYTE_SHIFT" "I" (.int 0)) (S_L : Sta Z Z.heap "java/lang/StringUTF16" "LO_BYTE_SHIFT" "I" (.int 8)) (hn : cs.length ≤ 16) (hr : ∀ x ∈ cs, rng16 x) (V1 : Arv Z h0 a2 k2 .char (Int32.ofNat cs.length) (cs.map Value.int) (.int 0)) (ne12 : a2 ≠ a1) (E1 : Exa Z h0 a1 "java/lang/String") (F1 : Fld Z h0 a1 "java/lang/String" "value" "[B" u1) (F2 : Fld Z h0 a1 "java/lang/String" "coder" "B" u2) (hne : ¬ (Int32.ofNat cs.length) = (0 : Int32)) (S_C : Sta Z Z.heap "java/lang/String" "COMPACT_STRINGS" "Z" (.int zc)) (hzc : ¬ zc = 0) :
    Con l Z ms (⟨"java/lang/String", "<init>", "([C)V"⟩ : MethodName) jdk_42_method_3_code 2 none ws ({ frames := 5, cells := 2, slots := 48, locals := 74 } : Room) #[(.ref a1), (.ref a2)] h0 (fun v vm h L => v = none ∧ Fr nb L ∧ Keep h0 h [a1] ∧ ∃ t k cd bb, t ∉ ms ∧ Fld Z h a1 "java/lang/String" "value" "[B" (.ref t) ∧ Fld Z h a1 "java/lang/String" "coder" "B" (.int cd) ∧ StrOf cs cd bb ∧ Arv Z h t k .byte (Int32.ofNat bb.length) (bb.map Value.int) (.int 0)) := by
  refine Con.mk (plainFor_of_name pn1) ?_
  intro p e s m below meth c s₁ Cc X0 e0 eb J0 B0 M0
  obtain ⟨hx, hZ, hown, hby, hml, hnm, hret, hlk⟩ := id Cc
  have N0 := Fr.nil nb
  have K0 := Keep.refl h0 [a1]
  show Go p e s below _ _ _ _ s₁ (mkF m 0 #[.val (.ref a1), .val (.ref a2)] [])
  refine Go.of (fun _ hr => XS.aloadN X0.here hx rfl (hb hby d52_0) rfl rfl hr) ?_
  show Go p e s below _ _ _ _ s₁ (mkF m 1 #[.val (.ref a1), .val (.ref a2)] [(.ref a1)])
  refine Go.of (fun _ hr => XS.aloadN X0.here hx rfl (hb hby d52_1) rfl rfl hr) ?_
  show Go p e s below _ _ _ _ s₁ (mkF m 2 #[.val (.ref a1), .val (.ref a2)] [(.ref a2), (.ref a1)])
  refine Go.of (fun _ hr => XS.iconst X0.here hx rfl (hb hby d52_2) hr) ?_
  show Go p e s below _ _ _ _ s₁ (mkF m 3 #[.val (.ref a1), .val (.ref a2)] [(.int (0 : Int32)), (.ref a2), (.ref a1)])
  refine Go.of (fun _ hr => XS.aloadN X0.here hx rfl (hb hby d52_3) rfl rfl hr) ?_
  show Go p e s below _ _ _ _ s₁ (mkF m 4 #[.val (.ref a1), .val (.ref a2)] [(.ref a2), (.int (0 : Int32)), (.ref a2), (.ref a1)])
  obtain ⟨cl101, Ar101, q101, S101, N101_, H101, G101⟩ := id V1
  refine Go.of (fun _ hr => X0.arraylength hx (by rw [e0]; exact Ar101.1) (State.isArrayOf_alike hZ.alike Ar101.2.1) (g := (mkF m 4 #[.val (.ref a1), .val (.ref a2)] [(.ref a2), (.int (0 : Int32)), (.ref a2), (.ref a1)])) rfl rfl (hb hby d52_4) _ hr) ?_
  rw [len_of S101 N101_]
  show Go p e s below _ _ _ _ s₁ (mkF m 5 #[.val (.ref a1), .val (.ref a2)] [(.int (Int32.ofNat cs.length)), (.int (0 : Int32)), (.ref a2), (.ref a1)])
  refine Go.of (fun _ hr => XS.aconstNull X0.here hx rfl (hb hby d52_5) hr) ?_
  show Go p e s below _ _ _ _ s₁ (mkF m 6 #[.val (.ref a1), .val (.ref a2)] [.null, (.int (Int32.ofNat cs.length)), (.int (0 : Int32)), (.ref a2), (.ref a1)])
  obtain ⟨_, b102, T102, h102, L102, e102, Cc102, X102, B102, J102, g102, hQ102, st102⟩ := own_callI Cc B0 J0 X0 rfl (hw _ (List.mem_of_getElem? (i := 256) rfl)) (hw _ (List.mem_of_getElem? (i := 257) rfl)) (hw _ (List.mem_of_getElem? (i := 7) rfl)) (hw _ (List.mem_of_getElem? (i := 258) rfl)) (by decide) (rm53 l Z a0 hw [] a1 a2 _ cs _ _ zc _ h0 n0 O0 nb hb0 (Nat.le_trans hnb K0.1) fr_a1 hm_a1 S_D S_H S_L hn hr V1 ne12 E1 F1 F2 hne S_C hzc) e0 (g := (mkF m 6 #[.val (.ref a1), .val (.ref a2)] [.null, (.int (Int32.ofNat cs.length)), (.int (0 : Int32)), (.ref a2), (.ref a1)])) rfl (by rw [hml]; rfl) (argsL := [(.ref a2), (.int (0 : Int32)), (.int (Int32.ofNat cs.length)), .null]) (rest := []) (lenOf pd7 rfl) rfl (W := 0) (by show 2 * 0 + _ ≤ _; exact Nat.le_of_eq rfl) (hb hby d52_6) (by decide) (by decide) (by decide) (by decide)
  obtain ⟨rfl, Nq102, Kq102, t102, kt102, cd102, bb102, nt102, Fv102, Fc102, So102, Vt102⟩ := hQ102
  have N102 := Fr.app N0 Nq102
  obtain ⟨hx, hZ, hown, hby, hml, hnm, hret, hlk⟩ := id Cc102
  have K102 := K0.trans Kq102 (allS (Or.inl (List.mem_of_getElem? (i := 0) rfl)) all0)
  have O102 := O0.keep Kq102 (allS (Nat.le_trans hb0 fr_a1) all0)
  refine Go.of st102 ?_
  have nx_t102_a1 : t102 ≠ a1 := fun q => nt102 (by rw [q]; exact hm_a1)
  show Go p e s below _ _ _ _ T102 (mkF m 9 #[.val (.ref a1), .val (.ref a2)] [])
  exact Go.retV X102 hx hlk B102 J102 e102 hret (hb hby d52_9) (by decide) (by decide) (fun vm_ hw_ => ⟨rfl, N102, K102, _, _, _, _, (fun hz => nt102 hz), Fv102, Fc102, So102, Vt102⟩)

theorem d11_0 : decode jdk_42_method_152_code 0 = .ok (.getstatic 38, 3) := by decide +kernel
theorem d11_3 : decode jdk_42_method_152_code 3 = .ok (.ifCond .eq 10, 3) := by decide +kernel
theorem d11_6 : decode jdk_42_method_152_code 6 = .ok (.aload_n 0, 1) := by decide +kernel
theorem d11_7 : decode jdk_42_method_152_code 7 = .ok (.getfield 15, 3) := by decide +kernel
theorem d11_10 : decode jdk_42_method_152_code 10 = .ok (.goto 4, 3) := by decide +kernel
theorem d11_14 : decode jdk_42_method_152_code 14 = .ok (.ireturn, 1) := by decide +kernel
set_option maxRecDepth 65536 in
set_option maxHeartbeats 40000000 in
theorem rm11 (l : Launch) (Z : State) (a0 : Array Value) (hw : ∀ d ∈ tables_1, d.before a0 Z = true) (ws : List Jvm.Cond) (s1 : Addr) (cs : List Int32) (cd : Int32) (bb : List Int32) (zc : Int32) (ms : List Addr) (h0 : Heap) (n0 : Nat) (O0 : Old Z n0 h0) (nb : Nat) (hb0 : n0 ≤ nb) (hnb : nb ≤ h0.size) (Fc1 : Fld Z h0 s1 "java/lang/String" "coder" "B" (.int cd)) (hso : StrOf cs cd bb) (S_C : Sta Z Z.heap "java/lang/String" "COMPACT_STRINGS" "Z" (.int zc)) (hzc : ¬ zc = 0) :
    Con l Z ms (⟨"java/lang/String", "coder", "()B"⟩ : MethodName) jdk_42_method_152_code 1 (some .byte) ws ({ frames := 0, cells := 0, slots := 0, locals := 0 } : Room) #[(.ref s1)] h0 (fun v vm h L => v = some (.int cd) ∧ Fr nb L ∧ h = h0) := by
  refine Con.mk (plainFor_of_name pn1) ?_
  intro p e s m below meth c s₁ Cc X0 e0 eb J0 B0 M0
  obtain ⟨hx, hZ, hown, hby, hml, hnm, hret, hlk⟩ := id Cc
  have N0 := Fr.nil h0.size
  have K0 := Keep.refl h0 []
  show Go p e s below _ _ _ _ s₁ (mkF m 0 #[.val (.ref s1)] [])
  obtain ⟨T101, X101, e101, st101⟩ := getS2 X0 hx hZ hown (host := "") (Or.inl (hw _ (List.mem_of_getElem? (i := 79) rfl))) Via.refl e0 (S_C.ext O0.2) (g := (mkF m 0 #[.val (.ref s1)] [])) rfl (hb hby d11_0)
  refine Go.of (fun _ hr => st101 _ hr) ?_
  show Go p e s below _ _ _ _ T101 (mkF m 3 #[.val (.ref s1)] [(.int zc)])
  refine Go.of (fun _ hr => XS.ifNo X101.here hx rfl (hb hby d11_3) rfl ((if0 _ _).trans (feq hzc).1) hr) ?_
  show Go p e s below _ _ _ _ T101 (mkF m 6 #[.val (.ref s1)] [])
  refine Go.of (fun _ hr => XS.aloadN X101.here hx rfl (hb hby d11_6) rfl rfl hr) ?_
  show Go p e s below _ _ _ _ T101 (mkF m 7 #[.val (.ref s1)] [(.ref s1)])
  obtain ⟨T102, X102, e102, st102⟩ := getF X101 hx hZ hown (host := "") (Or.inl (hw _ (List.mem_of_getElem? (i := 80) rfl))) Via.refl e101 Fc1 (g := (mkF m 7 #[.val (.ref s1)] [(.ref s1)])) rfl rfl (hb hby d11_7)
  refine Go.of (fun _ hr => st102 _ hr) ?_
  show Go p e s below _ _ _ _ T102 (mkF m 10 #[.val (.ref s1)] [(.int cd)])
  refine Go.of (fun _ hr => XS.goto X102.here hx rfl (pc0 := 10) (pc' := 14) rfl (hb hby d11_10) (by decide) (by decide) hr) ?_
  show Go p e s below _ _ _ _ T102 (mkF m 14 #[.val (.ref s1)] [(.int cd)])
  exact Go.retN X102 hx hlk B0 J0 e102 (t := .byte) (z' := cd) hret (by simp) (hb hby d11_14) (nar_cd hso) (by decide) (by decide) (fun vm_ hw_ => ⟨rfl, (fun y hy => Nat.le_trans hnb (N0 y hy)), rfl⟩)

theorem d10_0 : decode jdk_42_method_54_code 0 = .ok (.aload_n 0, 1) := by decide +kernel
theorem d10_1 : decode jdk_42_method_54_code 1 = .ok (.getfield 9, 3) := by decide +kernel
theorem d10_4 : decode jdk_42_method_54_code 4 = .ok (.arraylength, 1) := by decide +kernel
theorem d10_5 : decode jdk_42_method_54_code 5 = .ok (.aload_n 0, 1) := by decide +kernel
theorem d10_6 : decode jdk_42_method_54_code 6 = .ok (.invokevirtual 335, 3) := by decide +kernel
theorem pd8 : parseMethodDescriptor "()B" = some ⟨[], some .byte⟩ := by decide +kernel
theorem d10_9 : decode jdk_42_method_54_code 9 = .ok (.ishr, 1) := by decide +kernel
theorem d10_10 : decode jdk_42_method_54_code 10 = .ok (.ireturn, 1) := by decide +kernel
set_option maxRecDepth 65536 in
set_option maxHeartbeats 40000000 in
theorem rm10 (l : Launch) (Z : State) (a0 : Array Value) (hw : ∀ d ∈ tables_1, d.before a0 Z = true) (ws : List Jvm.Cond) (s1 t1 : Addr) (k1 : ClassId) (cs : List Int32) (cd : Int32) (bb : List Int32) (zc : Int32) (ms : List Addr) (h0 : Heap) (n0 : Nat) (O0 : Old Z n0 h0) (nb : Nat) (hb0 : n0 ≤ nb) (hnb : nb ≤ h0.size) (Es1 : Exa Z h0 s1 "java/lang/String") (Fv1 : Fld Z h0 s1 "java/lang/String" "value" "[B" (.ref t1)) (Fc1 : Fld Z h0 s1 "java/lang/String" "coder" "B" (.int cd)) (hso : StrOf cs cd bb) (V1 : Arv Z h0 t1 k1 .byte (Int32.ofNat bb.length) (bb.map Value.int) (.int 0)) (hn : cs.length ≤ 16) (hr : ∀ x ∈ cs, rng16 x) (S_C : Sta Z Z.heap "java/lang/String" "COMPACT_STRINGS" "Z" (.int zc)) (hzc : ¬ zc = 0) :
    Con l Z ms (⟨"java/lang/String", "length", "()I"⟩ : MethodName) jdk_42_method_54_code 1 (some .int) ws ({ frames := 1, cells := 0, slots := 0, locals := 14 } : Room) #[(.ref s1)] h0 (fun v vm h L => v = some (.int (Int32.ofNat cs.length)) ∧ Fr nb L ∧ h = h0) := by
  rcases id hso with ⟨rfl, rfl, hl⟩ | ⟨rfl, rfl⟩
  · refine Con.mk (plainFor_of_name pn1) ?_
    intro p e s m below meth c s₁ Cc X0 e0 eb J0 B0 M0
    obtain ⟨hx, hZ, hown, hby, hml, hnm, hret, hlk⟩ := id Cc
    have N0 := Fr.nil h0.size
    have K0 := Keep.refl h0 []
    show Go p e s below _ _ _ _ s₁ (mkF m 0 #[.val (.ref s1)] [])
    refine Go.of (fun _ hr => XS.aloadN X0.here hx rfl (hb hby d10_0) rfl rfl hr) ?_
    show Go p e s below _ _ _ _ s₁ (mkF m 1 #[.val (.ref s1)] [(.ref s1)])
    obtain ⟨T101, X101, e101, st101⟩ := getF X0 hx hZ hown (host := "") (Or.inl (hw _ (List.mem_of_getElem? (i := 73) rfl))) Via.refl e0 Fv1 (g := (mkF m 1 #[.val (.ref s1)] [(.ref s1)])) rfl rfl (hb hby d10_1)
    refine Go.of (fun _ hr => st101 _ hr) ?_
    show Go p e s below _ _ _ _ T101 (mkF m 4 #[.val (.ref s1)] [(.ref t1)])
    obtain ⟨cl102, Ar102, q102, S102, N102_, H102, G102⟩ := id V1
    refine Go.of (fun _ hr => X101.arraylength hx (by rw [e101]; exact Ar102.1) (State.isArrayOf_alike hZ.alike Ar102.2.1) (g := (mkF m 4 #[.val (.ref s1)] [(.ref t1)])) rfl rfl (hb hby d10_4) _ hr) ?_
    rw [len_of S102 N102_]
    show Go p e s below _ _ _ _ T101 (mkF m 5 #[.val (.ref s1)] [(.int (Int32.ofNat (cs.map lo8).length))])
    refine Go.of (fun _ hr => XS.aloadN X101.here hx rfl (hb hby d10_5) rfl rfl hr) ?_
    show Go p e s below _ _ _ _ T101 (mkF m 6 #[.val (.ref s1)] [(.ref s1), (.int (Int32.ofNat (cs.map lo8).length))])
    obtain ⟨_, b103, T103, h103, L103, e103, Cc103, X103, B103, J103, g103, hQ103, st103⟩ := own_callV Cc B0 J0 X101 (hw _ (List.mem_of_getElem? (i := 74) rfl)) (hw _ (List.mem_of_getElem? (i := 75) rfl)) (notFace_of_selects (args := #[]) (mvT hZ (hw _ (List.mem_of_getElem? (i := 77) rfl)))) (hw _ (List.mem_of_getElem? (i := 77) rfl)) (hw _ (List.mem_of_getElem? (i := 76) rfl)) (hw _ (List.mem_of_getElem? (i := 7) rfl)) (hw _ (List.mem_of_getElem? (i := 78) rfl)) (by decide) Es1 (rm11 l Z a0 hw [] s1 cs (0 : Int32) (cs.map lo8) zc _ h0 n0 O0 h0.size (own_ole O0) K0.1 Fc1 hso S_C hzc) e101 (g := (mkF m 6 #[.val (.ref s1)] [(.ref s1), (.int (Int32.ofNat (cs.map lo8).length))])) rfl (by rw [hml]; rfl) (argsL := []) (rest := [(.int (Int32.ofNat (cs.map lo8).length))]) (lenOf pd8 rfl) rfl (W := 1) (by show 2 * 0 + _ ≤ _; exact Nat.le_of_eq rfl) (hb hby d10_6) (by decide) (by decide) (by decide) (by decide)
    obtain ⟨rfl, Nq103, hh103⟩ := hQ103
    have N103 := Fr.app N0 Nq103
    obtain ⟨hx, hZ, hown, hby, hml, hnm, hret, hlk⟩ := id Cc103
    rw [hh103] at e103 B103 J103
    refine Go.of st103 ?_
    show Go p e s below _ _ _ _ T103 (mkF m 9 #[.val (.ref s1)] [(.int (0 : Int32)), (.int (Int32.ofNat (cs.map lo8).length))])
    refine Go.of (fun _ hr => XS.ishr X103.here hx rfl (hb hby d10_9) rfl hr) ?_
    show Go p e s below _ _ _ _ T103 (mkF m 10 #[.val (.ref s1)] [(.int ((Int32.ofNat (cs.map lo8).length) >>> ((0 : Int32) &&& 31)))])
    rw [own_sh0, List.length_map]
    show Go p e s below _ _ _ _ T103 (mkF m 10 #[.val (.ref s1)] [(.int (Int32.ofNat cs.length))])
    exact Go.retI X103 hx hlk B103 J103 e103 hret (hb hby d10_10) (by decide) (by decide) (fun vm_ hw_ => ⟨rfl, (fun y hy => Nat.le_trans hnb (N103 y hy)), rfl⟩)
  · refine Con.mk (plainFor_of_name pn1) ?_
    intro p e s m below meth c s₁ Cc X0 e0 eb J0 B0 M0
    obtain ⟨hx, hZ, hown, hby, hml, hnm, hret, hlk⟩ := id Cc
    have N0 := Fr.nil h0.size
    have K0 := Keep.refl h0 []
    show Go p e s below _ _ _ _ s₁ (mkF m 0 #[.val (.ref s1)] [])
    refine Go.of (fun _ hr => XS.aloadN X0.here hx rfl (hb hby d10_0) rfl rfl hr) ?_
    show Go p e s below _ _ _ _ s₁ (mkF m 1 #[.val (.ref s1)] [(.ref s1)])
    obtain ⟨T101, X101, e101, st101⟩ := getF X0 hx hZ hown (host := "") (Or.inl (hw _ (List.mem_of_getElem? (i := 73) rfl))) Via.refl e0 Fv1 (g := (mkF m 1 #[.val (.ref s1)] [(.ref s1)])) rfl rfl (hb hby d10_1)
    refine Go.of (fun _ hr => st101 _ hr) ?_
    show Go p e s below _ _ _ _ T101 (mkF m 4 #[.val (.ref s1)] [(.ref t1)])
    obtain ⟨cl102, Ar102, q102, S102, N102_, H102, G102⟩ := id V1
    refine Go.of (fun _ hr => X101.arraylength hx (by rw [e101]; exact Ar102.1) (State.isArrayOf_alike hZ.alike Ar102.2.1) (g := (mkF m 4 #[.val (.ref s1)] [(.ref t1)])) rfl rfl (hb hby d10_4) _ hr) ?_
    rw [len_of S102 N102_]
    show Go p e s below _ _ _ _ T101 (mkF m 5 #[.val (.ref s1)] [(.int (Int32.ofNat (utf cs).length))])
    refine Go.of (fun _ hr => XS.aloadN X101.here hx rfl (hb hby d10_5) rfl rfl hr) ?_
    show Go p e s below _ _ _ _ T101 (mkF m 6 #[.val (.ref s1)] [(.ref s1), (.int (Int32.ofNat (utf cs).length))])
    obtain ⟨_, b103, T103, h103, L103, e103, Cc103, X103, B103, J103, g103, hQ103, st103⟩ := own_callV Cc B0 J0 X101 (hw _ (List.mem_of_getElem? (i := 74) rfl)) (hw _ (List.mem_of_getElem? (i := 75) rfl)) (notFace_of_selects (args := #[]) (mvT hZ (hw _ (List.mem_of_getElem? (i := 77) rfl)))) (hw _ (List.mem_of_getElem? (i := 77) rfl)) (hw _ (List.mem_of_getElem? (i := 76) rfl)) (hw _ (List.mem_of_getElem? (i := 7) rfl)) (hw _ (List.mem_of_getElem? (i := 78) rfl)) (by decide) Es1 (rm11 l Z a0 hw [] s1 cs (1 : Int32) (utf cs) zc _ h0 n0 O0 h0.size (own_ole O0) K0.1 Fc1 hso S_C hzc) e101 (g := (mkF m 6 #[.val (.ref s1)] [(.ref s1), (.int (Int32.ofNat (utf cs).length))])) rfl (by rw [hml]; rfl) (argsL := []) (rest := [(.int (Int32.ofNat (utf cs).length))]) (lenOf pd8 rfl) rfl (W := 1) (by show 2 * 0 + _ ≤ _; exact Nat.le_of_eq rfl) (hb hby d10_6) (by decide) (by decide) (by decide) (by decide)
    obtain ⟨rfl, Nq103, hh103⟩ := hQ103
    have N103 := Fr.app N0 Nq103
    obtain ⟨hx, hZ, hown, hby, hml, hnm, hret, hlk⟩ := id Cc103
    rw [hh103] at e103 B103 J103
    refine Go.of st103 ?_
    show Go p e s below _ _ _ _ T103 (mkF m 9 #[.val (.ref s1)] [(.int (1 : Int32)), (.int (Int32.ofNat (utf cs).length))])
    refine Go.of (fun _ hr => XS.ishr X103.here hx rfl (hb hby d10_9) rfl hr) ?_
    show Go p e s below _ _ _ _ T103 (mkF m 10 #[.val (.ref s1)] [(.int ((Int32.ofNat (utf cs).length) >>> ((1 : Int32) &&& 31)))])
    rw [utf_len, oi_shr1 (by omega)]
    show Go p e s below _ _ _ _ T103 (mkF m 10 #[.val (.ref s1)] [(.int (Int32.ofNat cs.length))])
    exact Go.retI X103 hx hlk B103 J103 e103 hret (hb hby d10_10) (by decide) (by decide) (fun vm_ hw_ => ⟨rfl, (fun y hy => Nat.le_trans hnb (N103 y hy)), rfl⟩)

theorem d29_0 : decode jdk_42_method_154_code 0 = .ok (.getstatic 38, 3) := by decide +kernel
theorem d29_3 : decode jdk_42_method_154_code 3 = .ok (.ifCond .eq 14, 3) := by decide +kernel
theorem d29_6 : decode jdk_42_method_154_code 6 = .ok (.aload_n 0, 1) := by decide +kernel
theorem d29_7 : decode jdk_42_method_154_code 7 = .ok (.getfield 15, 3) := by decide +kernel
theorem d29_10 : decode jdk_42_method_154_code 10 = .ok (.ifCond .ne 7, 3) := by decide +kernel
theorem d29_13 : decode jdk_42_method_154_code 13 = .ok (.iconst 1, 1) := by decide +kernel
theorem d29_14 : decode jdk_42_method_154_code 14 = .ok (.goto 4, 3) := by decide +kernel
theorem d29_18 : decode jdk_42_method_154_code 18 = .ok (.ireturn, 1) := by decide +kernel
set_option maxRecDepth 65536 in
set_option maxHeartbeats 40000000 in
theorem rm29 (l : Launch) (Z : State) (a0 : Array Value) (hw : ∀ d ∈ tables_1, d.before a0 Z = true) (ws : List Jvm.Cond) (s1 : Addr) (zc : Int32) (ms : List Addr) (h0 : Heap) (n0 : Nat) (O0 : Old Z n0 h0) (nb : Nat) (hb0 : n0 ≤ nb) (hnb : nb ≤ h0.size) (Fc1 : Fld Z h0 s1 "java/lang/String" "coder" "B" (.int 0)) (S_C : Sta Z Z.heap "java/lang/String" "COMPACT_STRINGS" "Z" (.int zc)) (hzc : ¬ zc = 0) :
    Con l Z ms (⟨"java/lang/String", "isLatin1", "()Z"⟩ : MethodName) jdk_42_method_154_code 1 (some .boolean) ws ({ frames := 0, cells := 0, slots := 0, locals := 0 } : Room) #[(.ref s1)] h0 (fun v vm h L => v = some (.int 1) ∧ Fr nb L ∧ h = h0) := by
  refine Con.mk (plainFor_of_name pn1) ?_
  intro p e s m below meth c s₁ Cc X0 e0 eb J0 B0 M0
  obtain ⟨hx, hZ, hown, hby, hml, hnm, hret, hlk⟩ := id Cc
  have N0 := Fr.nil h0.size
  have K0 := Keep.refl h0 []
  show Go p e s below _ _ _ _ s₁ (mkF m 0 #[.val (.ref s1)] [])
  obtain ⟨T101, X101, e101, st101⟩ := getS2 X0 hx hZ hown (host := "") (Or.inl (hw _ (List.mem_of_getElem? (i := 79) rfl))) Via.refl e0 (S_C.ext O0.2) (g := (mkF m 0 #[.val (.ref s1)] [])) rfl (hb hby d29_0)
  refine Go.of (fun _ hr => st101 _ hr) ?_
  show Go p e s below _ _ _ _ T101 (mkF m 3 #[.val (.ref s1)] [(.int zc)])
  refine Go.of (fun _ hr => XS.ifNo X101.here hx rfl (hb hby d29_3) rfl ((if0 _ _).trans (feq hzc).1) hr) ?_
  show Go p e s below _ _ _ _ T101 (mkF m 6 #[.val (.ref s1)] [])
  refine Go.of (fun _ hr => XS.aloadN X101.here hx rfl (hb hby d29_6) rfl rfl hr) ?_
  show Go p e s below _ _ _ _ T101 (mkF m 7 #[.val (.ref s1)] [(.ref s1)])
  obtain ⟨T102, X102, e102, st102⟩ := getF X101 hx hZ hown (host := "") (Or.inl (hw _ (List.mem_of_getElem? (i := 80) rfl))) Via.refl e101 Fc1 (g := (mkF m 7 #[.val (.ref s1)] [(.ref s1)])) rfl rfl (hb hby d29_7)
  refine Go.of (fun _ hr => st102 _ hr) ?_
  show Go p e s below _ _ _ _ T102 (mkF m 10 #[.val (.ref s1)] [(.int (0 : Int32))])
  refine Go.of (fun _ hr => XS.ifNo X102.here hx rfl (hb hby d29_10) rfl ((if0 _ _).trans (teq (by decide : ((0 : Int32) = (0 : Int32)))).2) hr) ?_
  show Go p e s below _ _ _ _ T102 (mkF m 13 #[.val (.ref s1)] [])
  refine Go.of (fun _ hr => XS.iconst X102.here hx rfl (hb hby d29_13) hr) ?_
  show Go p e s below _ _ _ _ T102 (mkF m 14 #[.val (.ref s1)] [(.int (1 : Int32))])
  refine Go.of (fun _ hr => XS.goto X102.here hx rfl (pc0 := 14) (pc' := 18) rfl (hb hby d29_14) (by decide) (by decide) hr) ?_
  show Go p e s below _ _ _ _ T102 (mkF m 18 #[.val (.ref s1)] [(.int (1 : Int32))])
  exact Go.retN X102 hx hlk B0 J0 e102 (t := .boolean) (z' := (1 : Int32)) hret (by simp) (hb hby d29_18) rfl (by decide) (by decide) (fun vm_ hw_ => ⟨rfl, (fun y hy => Nat.le_trans hnb (N0 y hy)), rfl⟩)

theorem d29_17 : decode jdk_42_method_154_code 17 = .ok (.iconst 0, 1) := by decide +kernel
set_option maxRecDepth 65536 in
set_option maxHeartbeats 40000000 in
theorem rmU29 (l : Launch) (Z : State) (a0 : Array Value) (hw : ∀ d ∈ tables_1, d.before a0 Z = true) (ws : List Jvm.Cond) (s1 : Addr) (zc : Int32) (ms : List Addr) (h0 : Heap) (n0 : Nat) (O0 : Old Z n0 h0) (nb : Nat) (hb0 : n0 ≤ nb) (hnb : nb ≤ h0.size) (Fc1 : Fld Z h0 s1 "java/lang/String" "coder" "B" (.int 1)) (S_C : Sta Z Z.heap "java/lang/String" "COMPACT_STRINGS" "Z" (.int zc)) (hzc : ¬ zc = 0) :
    Con l Z ms (⟨"java/lang/String", "isLatin1", "()Z"⟩ : MethodName) jdk_42_method_154_code 1 (some .boolean) ws ({ frames := 0, cells := 0, slots := 0, locals := 0 } : Room) #[(.ref s1)] h0 (fun v vm h L => v = some (.int 0) ∧ Fr nb L ∧ h = h0) := by
  refine Con.mk (plainFor_of_name pn1) ?_
  intro p e s m below meth c s₁ Cc X0 e0 eb J0 B0 M0
  obtain ⟨hx, hZ, hown, hby, hml, hnm, hret, hlk⟩ := id Cc
  have N0 := Fr.nil h0.size
  have K0 := Keep.refl h0 []
  show Go p e s below _ _ _ _ s₁ (mkF m 0 #[.val (.ref s1)] [])
  obtain ⟨T101, X101, e101, st101⟩ := getS2 X0 hx hZ hown (host := "") (Or.inl (hw _ (List.mem_of_getElem? (i := 79) rfl))) Via.refl e0 (S_C.ext O0.2) (g := (mkF m 0 #[.val (.ref s1)] [])) rfl (hb hby d29_0)
  refine Go.of (fun _ hr => st101 _ hr) ?_
  show Go p e s below _ _ _ _ T101 (mkF m 3 #[.val (.ref s1)] [(.int zc)])
  refine Go.of (fun _ hr => XS.ifNo X101.here hx rfl (hb hby d29_3) rfl ((if0 _ _).trans (feq hzc).1) hr) ?_
  show Go p e s below _ _ _ _ T101 (mkF m 6 #[.val (.ref s1)] [])
  refine Go.of (fun _ hr => XS.aloadN X101.here hx rfl (hb hby d29_6) rfl rfl hr) ?_
  show Go p e s below _ _ _ _ T101 (mkF m 7 #[.val (.ref s1)] [(.ref s1)])
  obtain ⟨T102, X102, e102, st102⟩ := getF X101 hx hZ hown (host := "") (Or.inl (hw _ (List.mem_of_getElem? (i := 80) rfl))) Via.refl e101 Fc1 (g := (mkF m 7 #[.val (.ref s1)] [(.ref s1)])) rfl rfl (hb hby d29_7)
  refine Go.of (fun _ hr => st102 _ hr) ?_
  show Go p e s below _ _ _ _ T102 (mkF m 10 #[.val (.ref s1)] [(.int (1 : Int32))])
  refine Go.of (fun _ hr => XS.ifYes X102.here hx rfl (pc0 := 10) (pc' := 17) rfl (hb hby d29_10) rfl ((if0 _ _).trans (feq (by decide : ¬ ((1 : Int32) = (0 : Int32)))).2) (by decide) (by decide) hr) ?_
  show Go p e s below _ _ _ _ T102 (mkF m 17 #[.val (.ref s1)] [])
  refine Go.of (fun _ hr => XS.iconst X102.here hx rfl (hb hby d29_17) hr) ?_
  show Go p e s below _ _ _ _ T102 (mkF m 18 #[.val (.ref s1)] [(.int (0 : Int32))])
  exact Go.retN X102 hx hlk B0 J0 e102 (t := .boolean) (z' := (0 : Int32)) hret (by simp) (hb hby d29_18) rfl (by decide) (by decide) (fun vm_ hw_ => ⟨rfl, (fun y hy => Nat.le_trans hnb (N0 y hy)), rfl⟩)

theorem pn2 : plainName "jdk/internal/util/Preconditions" = true := by first | (simp [plainName, overriddenIn]; done) | decide +kernel
theorem d32_0 : decode jdk_41_method_11_code 0 = .ok (.iload_n 0, 1) := by decide +kernel
theorem d32_1 : decode jdk_41_method_11_code 1 = .ok (.ifCond .lt 8, 3) := by decide +kernel
theorem d32_4 : decode jdk_41_method_11_code 4 = .ok (.iload_n 0, 1) := by decide +kernel
theorem d32_5 : decode jdk_41_method_11_code 5 = .ok (.iload_n 1, 1) := by decide +kernel
theorem d32_6 : decode jdk_41_method_11_code 6 = .ok (.if_icmp .lt 10, 3) := by decide +kernel
theorem d32_16 : decode jdk_41_method_11_code 16 = .ok (.iload_n 0, 1) := by decide +kernel
theorem d32_17 : decode jdk_41_method_11_code 17 = .ok (.ireturn, 1) := by decide +kernel
set_option maxRecDepth 65536 in
set_option maxHeartbeats 40000000 in
theorem rm32 (l : Launch) (Z : State) (a0 : Array Value) (hw : ∀ d ∈ tables_1, d.before a0 Z = true) (ws : List Jvm.Cond) (i1 j1 : Int32) (f1 : Value) (ms : List Addr) (h0 : Heap) (n0 : Nat) (O0 : Old Z n0 h0) (nb : Nat) (hb0 : n0 ≤ nb) (hnb : nb ≤ h0.size) (hfs : f1 = .null ∨ ∃ a, f1 = .ref a) (i0 : ¬ i1 < 0) (i9 : i1 < j1) :
    Con l Z ms (⟨"jdk/internal/util/Preconditions", "checkIndex", "(IILjava/util/function/BiFunction;)I"⟩ : MethodName) jdk_41_method_11_code 3 (some .int) ws ({ frames := 0, cells := 0, slots := 0, locals := 0 } : Room) #[(.int i1), (.int j1), f1] h0 (fun v vm h L => v = some (.int i1) ∧ Fr nb L ∧ h = h0) := by
  rcases hfs with rfl | ⟨fa, rfl⟩
  · refine Con.mk (plainFor_of_name pn2) ?_
    intro p e s m below meth c s₁ Cc X0 e0 eb J0 B0 M0
    obtain ⟨hx, hZ, hown, hby, hml, hnm, hret, hlk⟩ := id Cc
    have N0 := Fr.nil h0.size
    have K0 := Keep.refl h0 []
    show Go p e s below _ _ _ _ s₁ (mkF m 0 #[.val (.int i1), .val (.int j1), .val _] [])
    refine Go.of (fun _ hr => XS.iloadN X0.here hx rfl (hb hby d32_0) rfl  hr) ?_
    show Go p e s below _ _ _ _ s₁ (mkF m 1 #[.val (.int i1), .val (.int j1), .val _] [(.int i1)])
    refine Go.of (fun _ hr => XS.ifNo X0.here hx rfl (hb hby d32_1) rfl ((if0 _ _).trans (flt i0).1) hr) ?_
    show Go p e s below _ _ _ _ s₁ (mkF m 4 #[.val (.int i1), .val (.int j1), .val _] [])
    refine Go.of (fun _ hr => XS.iloadN X0.here hx rfl (hb hby d32_4) rfl  hr) ?_
    show Go p e s below _ _ _ _ s₁ (mkF m 5 #[.val (.int i1), .val (.int j1), .val _] [(.int i1)])
    refine Go.of (fun _ hr => XS.iloadN X0.here hx rfl (hb hby d32_5) rfl  hr) ?_
    show Go p e s below _ _ _ _ s₁ (mkF m 6 #[.val (.int i1), .val (.int j1), .val _] [(.int j1), (.int i1)])
    refine Go.of (fun _ hr => XS.icmpYes X0.here hx rfl (pc0 := 6) (pc' := 16) rfl (hb hby d32_6) rfl (tlt i9).1 (by decide) (by decide) hr) ?_
    show Go p e s below _ _ _ _ s₁ (mkF m 16 #[.val (.int i1), .val (.int j1), .val _] [])
    refine Go.of (fun _ hr => XS.iloadN X0.here hx rfl (hb hby d32_16) rfl  hr) ?_
    show Go p e s below _ _ _ _ s₁ (mkF m 17 #[.val (.int i1), .val (.int j1), .val _] [(.int i1)])
    exact Go.retI X0 hx hlk B0 J0 e0 hret (hb hby d32_17) (by decide) (by decide) (fun vm_ hw_ => ⟨rfl, (fun y hy => Nat.le_trans hnb (N0 y hy)), rfl⟩)
  · refine Con.mk (plainFor_of_name pn2) ?_
    intro p e s m below meth c s₁ Cc X0 e0 eb J0 B0 M0
    obtain ⟨hx, hZ, hown, hby, hml, hnm, hret, hlk⟩ := id Cc
    have N0 := Fr.nil h0.size
    have K0 := Keep.refl h0 []
    show Go p e s below _ _ _ _ s₁ (mkF m 0 #[.val (.int i1), .val (.int j1), .val _] [])
    refine Go.of (fun _ hr => XS.iloadN X0.here hx rfl (hb hby d32_0) rfl  hr) ?_
    show Go p e s below _ _ _ _ s₁ (mkF m 1 #[.val (.int i1), .val (.int j1), .val _] [(.int i1)])
    refine Go.of (fun _ hr => XS.ifNo X0.here hx rfl (hb hby d32_1) rfl ((if0 _ _).trans (flt i0).1) hr) ?_
    show Go p e s below _ _ _ _ s₁ (mkF m 4 #[.val (.int i1), .val (.int j1), .val _] [])
    refine Go.of (fun _ hr => XS.iloadN X0.here hx rfl (hb hby d32_4) rfl  hr) ?_
    show Go p e s below _ _ _ _ s₁ (mkF m 5 #[.val (.int i1), .val (.int j1), .val _] [(.int i1)])
    refine Go.of (fun _ hr => XS.iloadN X0.here hx rfl (hb hby d32_5) rfl  hr) ?_
    show Go p e s below _ _ _ _ s₁ (mkF m 6 #[.val (.int i1), .val (.int j1), .val _] [(.int j1), (.int i1)])
    refine Go.of (fun _ hr => XS.icmpYes X0.here hx rfl (pc0 := 6) (pc' := 16) rfl (hb hby d32_6) rfl (tlt i9).1 (by decide) (by decide) hr) ?_
    show Go p e s below _ _ _ _ s₁ (mkF m 16 #[.val (.int i1), .val (.int j1), .val _] [])
    refine Go.of (fun _ hr => XS.iloadN X0.here hx rfl (hb hby d32_16) rfl  hr) ?_
    show Go p e s below _ _ _ _ s₁ (mkF m 17 #[.val (.int i1), .val (.int j1), .val _] [(.int i1)])
    exact Go.retI X0 hx hlk B0 J0 e0 hret (hb hby d32_17) (by decide) (by decide) (fun vm_ hw_ => ⟨rfl, (fun y hy => Nat.le_trans hnb (N0 y hy)), rfl⟩)

theorem d31_0 : decode jdk_42_method_155_code 0 = .ok (.iload_n 0, 1) := by decide +kernel
theorem d31_1 : decode jdk_42_method_155_code 1 = .ok (.iload_n 1, 1) := by decide +kernel
theorem d31_2 : decode jdk_42_method_155_code 2 = .ok (.getstatic 1053, 3) := by decide +kernel
theorem d31_5 : decode jdk_42_method_155_code 5 = .ok (.invokestatic 1059, 3) := by decide +kernel
theorem pd9 : parseMethodDescriptor "(IILjava/util/function/BiFunction;)I" = some ⟨[.int, .int, (.object "java/util/function/BiFunction")], some .int⟩ := by decide +kernel
theorem d31_8 : decode jdk_42_method_155_code 8 = .ok (.pop, 1) := by decide +kernel
theorem d31_9 : decode jdk_42_method_155_code 9 = .ok (.return_, 1) := by decide +kernel
set_option maxRecDepth 65536 in
set_option maxHeartbeats 40000000 in
theorem rm31 (l : Launch) (Z : State) (a0 : Array Value) (hw : ∀ d ∈ tables_1, d.before a0 Z = true) (ws : List Jvm.Cond) (i1 j1 : Int32) (ms : List Addr) (h0 : Heap) (n0 : Nat) (O0 : Old Z n0 h0) (nb : Nat) (hb0 : n0 ≤ nb) (hnb : nb ≤ h0.size) (fs : Value) (hfs : fs = .null ∨ ∃ a, fs = .ref a) (S_F : Sta Z Z.heap "jdk/internal/util/Preconditions" "SIOOBE_FORMATTER" "Ljava/util/function/BiFunction;" fs) (i0 : ¬ i1 < 0) (i9 : i1 < j1) :
    Con l Z ms (⟨"java/lang/String", "checkIndex", "(II)V"⟩ : MethodName) jdk_42_method_155_code 2 none ws ({ frames := 1, cells := 0, slots := 0, locals := 14 } : Room) #[(.int i1), (.int j1)] h0 (fun v vm h L => v = none ∧ Fr nb L ∧ h = h0) := by
  refine Con.mk (plainFor_of_name pn1) ?_
  intro p e s m below meth c s₁ Cc X0 e0 eb J0 B0 M0
  obtain ⟨hx, hZ, hown, hby, hml, hnm, hret, hlk⟩ := id Cc
  have N0 := Fr.nil h0.size
  have K0 := Keep.refl h0 []
  show Go p e s below _ _ _ _ s₁ (mkF m 0 #[.val (.int i1), .val (.int j1)] [])
  refine Go.of (fun _ hr => XS.iloadN X0.here hx rfl (hb hby d31_0) rfl  hr) ?_
  show Go p e s below _ _ _ _ s₁ (mkF m 1 #[.val (.int i1), .val (.int j1)] [(.int i1)])
  refine Go.of (fun _ hr => XS.iloadN X0.here hx rfl (hb hby d31_1) rfl  hr) ?_
  show Go p e s below _ _ _ _ s₁ (mkF m 2 #[.val (.int i1), .val (.int j1)] [(.int j1), (.int i1)])
  obtain ⟨T101, X101, e101, st101⟩ := getS2 X0 hx hZ hown (host := "") (Or.inl (hw _ (List.mem_of_getElem? (i := 176) rfl))) Via.refl e0 (S_F.ext O0.2) (g := (mkF m 2 #[.val (.int i1), .val (.int j1)] [(.int j1), (.int i1)])) rfl (hb hby d31_2)
  refine Go.of (fun _ hr => st101 _ hr) ?_
  show Go p e s below _ _ _ _ T101 (mkF m 5 #[.val (.int i1), .val (.int j1)] [fs, (.int j1), (.int i1)])
  obtain ⟨_, b102, T102, h102, L102, e102, Cc102, X102, B102, J102, g102, hQ102, st102⟩ := own_callS Cc B0 J0 X101 (hw _ (List.mem_of_getElem? (i := 178) rfl)) (hw _ (List.mem_of_getElem? (i := 179) rfl)) (hw _ (List.mem_of_getElem? (i := 177) rfl)) (hw _ (List.mem_of_getElem? (i := 180) rfl)) (by decide) (rm32 l Z a0 hw [] i1 j1 fs _ h0 n0 O0 h0.size (own_ole O0) K0.1 hfs i0 i9) e101 (g := (mkF m 5 #[.val (.int i1), .val (.int j1)] [fs, (.int j1), (.int i1)])) rfl (by rw [hml]; rfl) (argsL := [(.int i1), (.int j1), fs]) (rest := []) (lenOf pd9 rfl) rfl (W := 0) (by show 2 * 0 + _ ≤ _; exact Nat.le_of_eq rfl) (hb hby d31_5) (by decide) (by decide) (by decide) (by decide)
  obtain ⟨rfl, Nq102, hh102⟩ := hQ102
  have N102 := Fr.app N0 Nq102
  obtain ⟨hx, hZ, hown, hby, hml, hnm, hret, hlk⟩ := id Cc102
  rw [hh102] at e102 B102 J102
  refine Go.of st102 ?_
  show Go p e s below _ _ _ _ T102 (mkF m 8 #[.val (.int i1), .val (.int j1)] [(.int i1)])
  refine Go.of (fun _ hr => XS.pop X102.here hx rfl (hb hby d31_8) rfl rfl hr) ?_
  show Go p e s below _ _ _ _ T102 (mkF m 9 #[.val (.int i1), .val (.int j1)] [])
  exact Go.retV X102 hx hlk B102 J102 e102 hret (hb hby d31_9) (by decide) (by decide) (fun vm_ hw_ => ⟨rfl, (fun y hy => Nat.le_trans hnb (N102 y hy)), rfl⟩)

theorem pn3 : plainName "java/lang/StringLatin1" = true := by first | (simp [plainName, overriddenIn]; done) | decide +kernel
theorem d30_0 : decode jdk_43_method_2_code 0 = .ok (.iload_n 1, 1) := by decide +kernel
theorem d30_1 : decode jdk_43_method_2_code 1 = .ok (.aload_n 0, 1) := by decide +kernel
theorem d30_2 : decode jdk_43_method_2_code 2 = .ok (.arraylength, 1) := by decide +kernel
theorem d30_3 : decode jdk_43_method_2_code 3 = .ok (.invokestatic 9, 3) := by decide +kernel
theorem pd10 : parseMethodDescriptor "(II)V" = some ⟨[.int, .int], none⟩ := by decide +kernel
theorem d30_6 : decode jdk_43_method_2_code 6 = .ok (.aload_n 0, 1) := by decide +kernel
theorem d30_7 : decode jdk_43_method_2_code 7 = .ok (.iload_n 1, 1) := by decide +kernel
theorem d30_8 : decode jdk_43_method_2_code 8 = .ok (.baload, 1) := by decide +kernel
theorem d30_9 : decode jdk_43_method_2_code 9 = .ok (.sipush 255, 3) := by decide +kernel
theorem d30_12 : decode jdk_43_method_2_code 12 = .ok (.iand, 1) := by decide +kernel
theorem d30_13 : decode jdk_43_method_2_code 13 = .ok (.i2c, 1) := by decide +kernel
theorem d30_14 : decode jdk_43_method_2_code 14 = .ok (.ireturn, 1) := by decide +kernel
set_option maxRecDepth 65536 in
set_option maxHeartbeats 40000000 in
theorem rm30 (l : Launch) (Z : State) (a0 : Array Value) (hw : ∀ d ∈ tables_1, d.before a0 Z = true) (ws : List Jvm.Cond) (t1 : Addr) (k1 : ClassId) (b1 : List Int32) (i1 : Int32) (ms : List Addr) (h0 : Heap) (n0 : Nat) (O0 : Old Z n0 h0) (nb : Nat) (hb0 : n0 ≤ nb) (hnb : nb ≤ h0.size) (fs : Value) (hfs : fs = .null ∨ ∃ a, fs = .ref a) (S_F : Sta Z Z.heap "jdk/internal/util/Preconditions" "SIOOBE_FORMATTER" "Ljava/util/function/BiFunction;" fs) (V1 : Arv Z h0 t1 k1 .byte (Int32.ofNat b1.length) (b1.map Value.int) (.int 0)) (i0 : ¬ i1 < 0) (i9 : i1 < Int32.ofNat b1.length) :
    Con l Z ms (⟨"java/lang/StringLatin1", "charAt", "([BI)C"⟩ : MethodName) jdk_43_method_2_code 2 (some .char) ws ({ frames := 2, cells := 0, slots := 0, locals := 27 } : Room) #[(.ref t1), (.int i1)] h0 (fun v vm h L => v = some (.int (chV b1 i1)) ∧ Fr nb L ∧ h = h0) := by
  refine Con.mk (plainFor_of_name pn3) ?_
  intro p e s m below meth c s₁ Cc X0 e0 eb J0 B0 M0
  obtain ⟨hx, hZ, hown, hby, hml, hnm, hret, hlk⟩ := id Cc
  have N0 := Fr.nil h0.size
  have K0 := Keep.refl h0 []
  show Go p e s below _ _ _ _ s₁ (mkF m 0 #[.val (.ref t1), .val (.int i1)] [])
  refine Go.of (fun _ hr => XS.iloadN X0.here hx rfl (hb hby d30_0) rfl  hr) ?_
  show Go p e s below _ _ _ _ s₁ (mkF m 1 #[.val (.ref t1), .val (.int i1)] [(.int i1)])
  refine Go.of (fun _ hr => XS.aloadN X0.here hx rfl (hb hby d30_1) rfl rfl hr) ?_
  show Go p e s below _ _ _ _ s₁ (mkF m 2 #[.val (.ref t1), .val (.int i1)] [(.ref t1), (.int i1)])
  obtain ⟨cl101, Ar101, q101, S101, N101_, H101, G101⟩ := id V1
  refine Go.of (fun _ hr => X0.arraylength hx (by rw [e0]; exact Ar101.1) (State.isArrayOf_alike hZ.alike Ar101.2.1) (g := (mkF m 2 #[.val (.ref t1), .val (.int i1)] [(.ref t1), (.int i1)])) rfl rfl (hb hby d30_2) _ hr) ?_
  rw [len_of S101 N101_]
  show Go p e s below _ _ _ _ s₁ (mkF m 3 #[.val (.ref t1), .val (.int i1)] [(.int (Int32.ofNat b1.length)), (.int i1)])
  obtain ⟨_, b102, T102, h102, L102, e102, Cc102, X102, B102, J102, g102, hQ102, st102⟩ := own_callS Cc B0 J0 X0 (hw _ (List.mem_of_getElem? (i := 173) rfl)) (hw _ (List.mem_of_getElem? (i := 174) rfl)) (hw _ (List.mem_of_getElem? (i := 7) rfl)) (hw _ (List.mem_of_getElem? (i := 175) rfl)) (by decide) (rm31 l Z a0 hw [] i1 (Int32.ofNat b1.length) _ h0 n0 O0 h0.size (own_ole O0) K0.1 fs hfs S_F i0 i9) e0 (g := (mkF m 3 #[.val (.ref t1), .val (.int i1)] [(.int (Int32.ofNat b1.length)), (.int i1)])) rfl (by rw [hml]; rfl) (argsL := [(.int i1), (.int (Int32.ofNat b1.length))]) (rest := []) (lenOf pd10 rfl) rfl (W := 0) (by show 2 * 0 + _ ≤ _; exact Nat.le_of_eq rfl) (hb hby d30_3) (by decide) (by decide) (by decide) (by decide)
  obtain ⟨rfl, Nq102, hh102⟩ := hQ102
  have N102 := Fr.app N0 Nq102
  obtain ⟨hx, hZ, hown, hby, hml, hnm, hret, hlk⟩ := id Cc102
  rw [hh102] at e102 B102 J102
  refine Go.of st102 ?_
  show Go p e s below _ _ _ _ T102 (mkF m 6 #[.val (.ref t1), .val (.int i1)] [])
  refine Go.of (fun _ hr => XS.aloadN X102.here hx rfl (hb hby d30_6) rfl rfl hr) ?_
  show Go p e s below _ _ _ _ T102 (mkF m 7 #[.val (.ref t1), .val (.int i1)] [(.ref t1)])
  refine Go.of (fun _ hr => XS.iloadN X102.here hx rfl (hb hby d30_7) rfl  hr) ?_
  show Go p e s below _ _ _ _ T102 (mkF m 8 #[.val (.ref t1), .val (.int i1)] [(.int i1), (.ref t1)])
  obtain ⟨cl103, Ar103, q103, S103, N103_, H103, G103⟩ := id V1
  have hin103 : ¬ (i1 < 0 ∨ cl103.slots.size ≤ (i1).toNatClampNeg) := inb_of S103 ⟨i0, i9⟩
  refine Go.of (fun _ hr => X102.baloadBytes hx (j := i1) (v := (.int (b1.getD i1.toNatClampNeg 0))) (by rw [e102]; exact Ar103.1) (State.isArrayOf_alike hZ.alike Ar103.2.1) Ar103.2.2 hin103 (H103.at hin103 (getD_int b1 _)) (g := (mkF m 8 #[.val (.ref t1), .val (.int i1)] [(.int i1), (.ref t1)])) rfl rfl (hb hby d30_8) _ hr) ?_
  show Go p e s below _ _ _ _ T102 (mkF m 9 #[.val (.ref t1), .val (.int i1)] [(.int (b1.getD i1.toNatClampNeg 0))])
  refine Go.of (fun _ hr => XS.sipush X102.here hx rfl (hb hby d30_9) hr) ?_
  show Go p e s below _ _ _ _ T102 (mkF m 12 #[.val (.ref t1), .val (.int i1)] [(.int (255 : Int32)), (.int (b1.getD i1.toNatClampNeg 0))])
  refine Go.of (fun _ hr => XS.iand X102.here hx rfl (hb hby d30_12) rfl hr) ?_
  show Go p e s below _ _ _ _ T102 (mkF m 13 #[.val (.ref t1), .val (.int i1)] [(.int ((b1.getD i1.toNatClampNeg 0) &&& (255 : Int32)))])
  refine Go.of (fun _ hr => XS.i2c X102.here hx rfl (hb hby d30_13) rfl hr) ?_
  show Go p e s below _ _ _ _ T102 (mkF m 14 #[.val (.ref t1), .val (.int i1)] [(.int (((b1.getD i1.toNatClampNeg 0) &&& (255 : Int32)).toUInt32.toUInt16.toUInt32.toInt32))])
  exact Go.retN X102 hx hlk B102 J102 e102 (t := .char) (z' := (((b1.getD i1.toNatClampNeg 0) &&& (255 : Int32)).toUInt32.toUInt16.toUInt32.toInt32)) hret (by simp) (hb hby d30_14) (own_c2 _) (by decide) (by decide) (fun vm_ hw_ => ⟨rfl, (fun y hy => Nat.le_trans hnb (N102 y hy)), rfl⟩)

theorem d46_0 : decode jdk_52_method_6_code 0 = .ok (.aload_n 0, 1) := by decide +kernel
theorem d46_1 : decode jdk_52_method_6_code 1 = .ok (.arraylength, 1) := by decide +kernel
theorem d46_2 : decode jdk_52_method_6_code 2 = .ok (.iconst 1, 1) := by decide +kernel
theorem d46_3 : decode jdk_52_method_6_code 3 = .ok (.ishr, 1) := by decide +kernel
theorem d46_4 : decode jdk_52_method_6_code 4 = .ok (.ireturn, 1) := by decide +kernel
set_option maxRecDepth 65536 in
set_option maxHeartbeats 40000000 in
theorem rm46 (l : Launch) (Z : State) (a0 : Array Value) (hw : ∀ d ∈ tables_1, d.before a0 Z = true) (ws : List Jvm.Cond) (t1 : Addr) (k1 : ClassId) (us : List Int32) (q : Nat) (ms : List Addr) (h0 : Heap) (n0 : Nat) (O0 : Old Z n0 h0) (nb : Nat) (hb0 : n0 ≤ nb) (hnb : nb ≤ h0.size) (hq : q ≤ 1000) (V1 : Arv Z h0 t1 k1 .byte (Int32.ofNat (2 * q)) (us.map Value.int) (.int 0)) :
    Con l Z ms (⟨"java/lang/StringUTF16", "length", "([B)I"⟩ : MethodName) jdk_52_method_6_code 1 (some .int) ws ({ frames := 0, cells := 0, slots := 0, locals := 0 } : Room) #[(.ref t1)] h0 (fun v vm h L => v = some (.int (Int32.ofNat q)) ∧ Fr nb L ∧ h = h0) := by
  refine Con.mk (plainFor_of_name pn0) ?_
  intro p e s m below meth c s₁ Cc X0 e0 eb J0 B0 M0
  obtain ⟨hx, hZ, hown, hby, hml, hnm, hret, hlk⟩ := id Cc
  have N0 := Fr.nil h0.size
  have K0 := Keep.refl h0 []
  show Go p e s below _ _ _ _ s₁ (mkF m 0 #[.val (.ref t1)] [])
  refine Go.of (fun _ hr => XS.aloadN X0.here hx rfl (hb hby d46_0) rfl rfl hr) ?_
  show Go p e s below _ _ _ _ s₁ (mkF m 1 #[.val (.ref t1)] [(.ref t1)])
  obtain ⟨cl101, Ar101, q101, S101, N101_, H101, G101⟩ := id V1
  refine Go.of (fun _ hr => X0.arraylength hx (by rw [e0]; exact Ar101.1) (State.isArrayOf_alike hZ.alike Ar101.2.1) (g := (mkF m 1 #[.val (.ref t1)] [(.ref t1)])) rfl rfl (hb hby d46_1) _ hr) ?_
  rw [len_of S101 N101_]
  show Go p e s below _ _ _ _ s₁ (mkF m 2 #[.val (.ref t1)] [(.int (Int32.ofNat (2 * q)))])
  refine Go.of (fun _ hr => XS.iconst X0.here hx rfl (hb hby d46_2) hr) ?_
  show Go p e s below _ _ _ _ s₁ (mkF m 3 #[.val (.ref t1)] [(.int (1 : Int32)), (.int (Int32.ofNat (2 * q)))])
  refine Go.of (fun _ hr => XS.ishr X0.here hx rfl (hb hby d46_3) rfl hr) ?_
  show Go p e s below _ _ _ _ s₁ (mkF m 4 #[.val (.ref t1)] [(.int ((Int32.ofNat (2 * q)) >>> ((1 : Int32) &&& 31)))])
  rw [oi_shr1 (by omega)]
  show Go p e s below _ _ _ _ s₁ (mkF m 4 #[.val (.ref t1)] [(.int (Int32.ofNat q))])
  exact Go.retI X0 hx hlk B0 J0 e0 hret (hb hby d46_4) (by decide) (by decide) (fun vm_ hw_ => ⟨rfl, (fun y hy => Nat.le_trans hnb (N0 y hy)), rfl⟩)

theorem d50_0 : decode jdk_52_method_91_code 0 = .ok (.iload_n 0, 1) := by decide +kernel
theorem d50_1 : decode jdk_52_method_91_code 1 = .ok (.aload_n 1, 1) := by decide +kernel
theorem d50_2 : decode jdk_52_method_91_code 2 = .ok (.invokestatic 48, 3) := by decide +kernel
theorem pd11 : parseMethodDescriptor "([B)I" = some ⟨[(.array .byte)], some .int⟩ := by decide +kernel
theorem d50_5 : decode jdk_52_method_91_code 5 = .ok (.invokestatic 414, 3) := by decide +kernel
theorem d50_8 : decode jdk_52_method_91_code 8 = .ok (.return_, 1) := by decide +kernel
set_option maxRecDepth 65536 in
set_option maxHeartbeats 40000000 in
theorem rm50 (l : Launch) (Z : State) (a0 : Array Value) (hw : ∀ d ∈ tables_1, d.before a0 Z = true) (ws : List Jvm.Cond) (t1 : Addr) (k1 : ClassId) (us : List Int32) (q i : Nat) (ms : List Addr) (h0 : Heap) (n0 : Nat) (O0 : Old Z n0 h0) (nb : Nat) (hb0 : n0 ≤ nb) (hnb : nb ≤ h0.size) (fs : Value) (hfs : fs = .null ∨ ∃ a, fs = .ref a) (S_F : Sta Z Z.heap "jdk/internal/util/Preconditions" "SIOOBE_FORMATTER" "Ljava/util/function/BiFunction;" fs) (hq : q ≤ 1000) (hi : i < q) (V1 : Arv Z h0 t1 k1 .byte (Int32.ofNat (2 * q)) (us.map Value.int) (.int 0)) :
    Con l Z ms (⟨"java/lang/StringUTF16", "checkIndex", "(I[B)V"⟩ : MethodName) jdk_52_method_91_code 2 none ws ({ frames := 2, cells := 0, slots := 0, locals := 27 } : Room) #[(.int (Int32.ofNat i)), (.ref t1)] h0 (fun v vm h L => v = none ∧ Fr nb L ∧ h = h0) := by
  refine Con.mk (plainFor_of_name pn0) ?_
  intro p e s m below meth c s₁ Cc X0 e0 eb J0 B0 M0
  obtain ⟨hx, hZ, hown, hby, hml, hnm, hret, hlk⟩ := id Cc
  have N0 := Fr.nil h0.size
  have K0 := Keep.refl h0 []
  show Go p e s below _ _ _ _ s₁ (mkF m 0 #[.val (.int (Int32.ofNat i)), .val (.ref t1)] [])
  refine Go.of (fun _ hr => XS.iloadN X0.here hx rfl (hb hby d50_0) rfl  hr) ?_
  show Go p e s below _ _ _ _ s₁ (mkF m 1 #[.val (.int (Int32.ofNat i)), .val (.ref t1)] [(.int (Int32.ofNat i))])
  refine Go.of (fun _ hr => XS.aloadN X0.here hx rfl (hb hby d50_1) rfl rfl hr) ?_
  show Go p e s below _ _ _ _ s₁ (mkF m 2 #[.val (.int (Int32.ofNat i)), .val (.ref t1)] [(.ref t1), (.int (Int32.ofNat i))])
  obtain ⟨_, b101, T101, h101, L101, e101, Cc101, X101, B101, J101, g101, hQ101, st101⟩ := own_callS Cc B0 J0 X0 (hw _ (List.mem_of_getElem? (i := 229) rfl)) (hw _ (List.mem_of_getElem? (i := 230) rfl)) (hw _ (List.mem_of_getElem? (i := 199) rfl)) (hw _ (List.mem_of_getElem? (i := 231) rfl)) (by decide) (rm46 l Z a0 hw [] t1 _ us q _ h0 n0 O0 h0.size (own_ole O0) K0.1 hq V1) e0 (g := (mkF m 2 #[.val (.int (Int32.ofNat i)), .val (.ref t1)] [(.ref t1), (.int (Int32.ofNat i))])) rfl (by rw [hml]; rfl) (argsL := [(.ref t1)]) (rest := [(.int (Int32.ofNat i))]) (lenOf pd11 rfl) rfl (W := 1) (by show 2 * 0 + _ ≤ _; exact Nat.le_of_eq rfl) (hb hby d50_2) (by decide) (by decide) (by decide) (by decide)
  obtain ⟨rfl, Nq101, hh101⟩ := hQ101
  have N101 := Fr.app N0 Nq101
  obtain ⟨hx, hZ, hown, hby, hml, hnm, hret, hlk⟩ := id Cc101
  rw [hh101] at e101 B101 J101
  refine Go.of st101 ?_
  show Go p e s below _ _ _ _ T101 (mkF m 5 #[.val (.int (Int32.ofNat i)), .val (.ref t1)] [(.int (Int32.ofNat q)), (.int (Int32.ofNat i))])
  obtain ⟨_, b102, T102, h102, L102, e102, Cc102, X102, B102, J102, g102, hQ102, st102⟩ := own_callS Cc101 B101 J101 X101 (hw _ (List.mem_of_getElem? (i := 247) rfl)) (hw _ (List.mem_of_getElem? (i := 174) rfl)) (hw _ (List.mem_of_getElem? (i := 7) rfl)) (hw _ (List.mem_of_getElem? (i := 175) rfl)) (by decide) (rm31 l Z a0 hw [] (Int32.ofNat i) (Int32.ofNat q) _ h0 n0 O0 h0.size (own_ole O0) K0.1 fs hfs S_F (oi_nn (by omega)) (oi_lt (by omega) (by omega) hi)) e101 (g := (mkF m 5 #[.val (.int (Int32.ofNat i)), .val (.ref t1)] [(.int (Int32.ofNat q)), (.int (Int32.ofNat i))])) rfl (by rw [hml]; rfl) (argsL := [(.int (Int32.ofNat i)), (.int (Int32.ofNat q))]) (rest := []) (lenOf pd10 rfl) rfl (W := 0) (by show 2 * 0 + _ ≤ _; exact Nat.le_of_eq rfl) (hb hby d50_5) (by decide) (by decide) (by decide) (by decide)
  obtain ⟨rfl, Nq102, hh102⟩ := hQ102
  have N102 := Fr.app N101 Nq102
  obtain ⟨hx, hZ, hown, hby, hml, hnm, hret, hlk⟩ := id Cc102
  rw [hh102] at e102 B102 J102
  refine Go.of st102 ?_
  show Go p e s below _ _ _ _ T102 (mkF m 8 #[.val (.int (Int32.ofNat i)), .val (.ref t1)] [])
  exact Go.retV X102 hx hlk B102 J102 e102 hret (hb hby d50_8) (by decide) (by decide) (fun vm_ hw_ => ⟨rfl, (fun y hy => Nat.le_trans hnb (N102 y hy)), rfl⟩)

theorem d49_0 : decode jdk_52_method_83_code 0 = .ok (.iload_n 1, 1) := by decide +kernel
theorem d49_1 : decode jdk_52_method_83_code 1 = .ok (.aload_n 0, 1) := by decide +kernel
theorem d49_2 : decode jdk_52_method_83_code 2 = .ok (.invokestatic 67, 3) := by decide +kernel
theorem pd12 : parseMethodDescriptor "(I[B)V" = some ⟨[.int, (.array .byte)], none⟩ := by decide +kernel
theorem d49_5 : decode jdk_52_method_83_code 5 = .ok (.aload_n 0, 1) := by decide +kernel
theorem d49_6 : decode jdk_52_method_83_code 6 = .ok (.iload_n 1, 1) := by decide +kernel
theorem d49_7 : decode jdk_52_method_83_code 7 = .ok (.invokestatic 71, 3) := by decide +kernel
theorem d49_10 : decode jdk_52_method_83_code 10 = .ok (.ireturn, 1) := by decide +kernel
set_option maxRecDepth 65536 in
set_option maxHeartbeats 40000000 in
theorem rm49 (l : Launch) (Z : State) (a0 : Array Value) (hw : ∀ d ∈ tables_1, d.before a0 Z = true) (ws : List Jvm.Cond) (t1 : Addr) (k1 : ClassId) (us : List Int32) (q i : Nat) (ms : List Addr) (h0 : Heap) (n0 : Nat) (O0 : Old Z n0 h0) (nb : Nat) (hb0 : n0 ≤ nb) (hnb : nb ≤ h0.size) (fs : Value) (hfs : fs = .null ∨ ∃ a, fs = .ref a) (S_F : Sta Z Z.heap "jdk/internal/util/Preconditions" "SIOOBE_FORMATTER" "Ljava/util/function/BiFunction;" fs) (S_D : Sta Z Z.heap "java/lang/StringUTF16" "$assertionsDisabled" "Z" (.int 1)) (S_H : Sta Z Z.heap "java/lang/StringUTF16" "HI_BYTE_SHIFT" "I" (.int 0)) (S_L : Sta Z Z.heap "java/lang/StringUTF16" "LO_BYTE_SHIFT" "I" (.int 8)) (hq : q ≤ 1000) (hi : i < q) (V1 : Arv Z h0 t1 k1 .byte (Int32.ofNat (2 * q)) (us.map Value.int) (.int 0)) :
    Con l Z ms (⟨"java/lang/StringUTF16", "charAt", "([BI)C"⟩ : MethodName) jdk_52_method_83_code 2 (some .char) ws ({ frames := 3, cells := 0, slots := 0, locals := 40 } : Room) #[(.ref t1), (.int (Int32.ofNat i))] h0 (fun v vm h L => v = some (.int (ch16 (us.getD (2 * i) 0) (us.getD (2 * i + 1) 0))) ∧ Fr nb L ∧ h = h0) := by
  refine Con.mk (plainFor_of_name pn0) ?_
  intro p e s m below meth c s₁ Cc X0 e0 eb J0 B0 M0
  obtain ⟨hx, hZ, hown, hby, hml, hnm, hret, hlk⟩ := id Cc
  have N0 := Fr.nil h0.size
  have K0 := Keep.refl h0 []
  show Go p e s below _ _ _ _ s₁ (mkF m 0 #[.val (.ref t1), .val (.int (Int32.ofNat i))] [])
  refine Go.of (fun _ hr => XS.iloadN X0.here hx rfl (hb hby d49_0) rfl  hr) ?_
  show Go p e s below _ _ _ _ s₁ (mkF m 1 #[.val (.ref t1), .val (.int (Int32.ofNat i))] [(.int (Int32.ofNat i))])
  refine Go.of (fun _ hr => XS.aloadN X0.here hx rfl (hb hby d49_1) rfl rfl hr) ?_
  show Go p e s below _ _ _ _ s₁ (mkF m 2 #[.val (.ref t1), .val (.int (Int32.ofNat i))] [(.ref t1), (.int (Int32.ofNat i))])
  obtain ⟨_, b101, T101, h101, L101, e101, Cc101, X101, B101, J101, g101, hQ101, st101⟩ := own_callS Cc B0 J0 X0 (hw _ (List.mem_of_getElem? (i := 244) rfl)) (hw _ (List.mem_of_getElem? (i := 245) rfl)) (hw _ (List.mem_of_getElem? (i := 199) rfl)) (hw _ (List.mem_of_getElem? (i := 246) rfl)) (by decide) (rm50 l Z a0 hw [] t1 _ us q i _ h0 n0 O0 h0.size (own_ole O0) K0.1 fs hfs S_F hq hi V1) e0 (g := (mkF m 2 #[.val (.ref t1), .val (.int (Int32.ofNat i))] [(.ref t1), (.int (Int32.ofNat i))])) rfl (by rw [hml]; rfl) (argsL := [(.int (Int32.ofNat i)), (.ref t1)]) (rest := []) (lenOf pd12 rfl) rfl (W := 0) (by show 2 * 0 + _ ≤ _; exact Nat.le_of_eq rfl) (hb hby d49_2) (by decide) (by decide) (by decide) (by decide)
  obtain ⟨rfl, Nq101, hh101⟩ := hQ101
  have N101 := Fr.app N0 Nq101
  obtain ⟨hx, hZ, hown, hby, hml, hnm, hret, hlk⟩ := id Cc101
  rw [hh101] at e101 B101 J101
  refine Go.of st101 ?_
  show Go p e s below _ _ _ _ T101 (mkF m 5 #[.val (.ref t1), .val (.int (Int32.ofNat i))] [])
  refine Go.of (fun _ hr => XS.aloadN X101.here hx rfl (hb hby d49_5) rfl rfl hr) ?_
  show Go p e s below _ _ _ _ T101 (mkF m 6 #[.val (.ref t1), .val (.int (Int32.ofNat i))] [(.ref t1)])
  refine Go.of (fun _ hr => XS.iloadN X101.here hx rfl (hb hby d49_6) rfl  hr) ?_
  show Go p e s below _ _ _ _ T101 (mkF m 7 #[.val (.ref t1), .val (.int (Int32.ofNat i))] [(.int (Int32.ofNat i)), (.ref t1)])
  obtain ⟨_, b102, T102, h102, L102, e102, Cc102, X102, B102, J102, g102, hQ102, st102⟩ := own_callS Cc101 B101 J101 X101 (hw _ (List.mem_of_getElem? (i := 248) rfl)) (hw _ (List.mem_of_getElem? (i := 249) rfl)) (hw _ (List.mem_of_getElem? (i := 199) rfl)) (hw _ (List.mem_of_getElem? (i := 250) rfl)) (by decide) (rm51 l Z a0 hw [] t1 _ us q i _ h0 n0 O0 h0.size (own_ole O0) K0.1 S_D S_H S_L hq hi V1) e101 (g := (mkF m 7 #[.val (.ref t1), .val (.int (Int32.ofNat i))] [(.int (Int32.ofNat i)), (.ref t1)])) rfl (by rw [hml]; rfl) (argsL := [(.ref t1), (.int (Int32.ofNat i))]) (rest := []) (lenOf pd5 rfl) rfl (W := 0) (by show 2 * 0 + _ ≤ _; exact Nat.le_of_eq rfl) (hb hby d49_7) (by decide) (by decide) (by decide) (by decide)
  obtain ⟨rfl, Nq102, hh102⟩ := hQ102
  have N102 := Fr.app N101 Nq102
  obtain ⟨hx, hZ, hown, hby, hml, hnm, hret, hlk⟩ := id Cc102
  rw [hh102] at e102 B102 J102
  refine Go.of st102 ?_
  show Go p e s below _ _ _ _ T102 (mkF m 10 #[.val (.ref t1), .val (.int (Int32.ofNat i))] [(.int (ch16 (us.getD (2 * i) 0) (us.getD (2 * i + 1) 0)))])
  exact Go.retN X102 hx hlk B102 J102 e102 (t := .char) (z' := (ch16 (us.getD (2 * i) 0) (us.getD (2 * i + 1) 0))) hret (by simp) (hb hby d49_10) (own_c16 _) (by decide) (by decide) (fun vm_ hw_ => ⟨rfl, (fun y hy => Nat.le_trans hnb (N102 y hy)), rfl⟩)

theorem d28_0 : decode jdk_42_method_56_code 0 = .ok (.aload_n 0, 1) := by decide +kernel
theorem d28_1 : decode jdk_42_method_56_code 1 = .ok (.invokevirtual 492, 3) := by decide +kernel
theorem pd13 : parseMethodDescriptor "()Z" = some ⟨[], some .boolean⟩ := by decide +kernel
theorem d28_4 : decode jdk_42_method_56_code 4 = .ok (.ifCond .eq 12, 3) := by decide +kernel
theorem d28_7 : decode jdk_42_method_56_code 7 = .ok (.aload_n 0, 1) := by decide +kernel
theorem d28_8 : decode jdk_42_method_56_code 8 = .ok (.getfield 9, 3) := by decide +kernel
theorem d28_11 : decode jdk_42_method_56_code 11 = .ok (.iload_n 1, 1) := by decide +kernel
theorem d28_12 : decode jdk_42_method_56_code 12 = .ok (.invokestatic 495, 3) := by decide +kernel
theorem d28_15 : decode jdk_42_method_56_code 15 = .ok (.ireturn, 1) := by decide +kernel
theorem d28_16 : decode jdk_42_method_56_code 16 = .ok (.aload_n 0, 1) := by decide +kernel
theorem d28_17 : decode jdk_42_method_56_code 17 = .ok (.getfield 9, 3) := by decide +kernel
theorem d28_20 : decode jdk_42_method_56_code 20 = .ok (.iload_n 1, 1) := by decide +kernel
theorem d28_21 : decode jdk_42_method_56_code 21 = .ok (.invokestatic 498, 3) := by decide +kernel
theorem d28_24 : decode jdk_42_method_56_code 24 = .ok (.ireturn, 1) := by decide +kernel
set_option maxRecDepth 65536 in
set_option maxHeartbeats 40000000 in
theorem rm28 (l : Launch) (Z : State) (a0 : Array Value) (hw : ∀ d ∈ tables_1, d.before a0 Z = true) (ws : List Jvm.Cond) (s1 t1 : Addr) (k1 : ClassId) (cs : List Int32) (cd : Int32) (bb : List Int32) (i : Nat) (zc : Int32) (ms : List Addr) (h0 : Heap) (n0 : Nat) (O0 : Old Z n0 h0) (nb : Nat) (hb0 : n0 ≤ nb) (hnb : nb ≤ h0.size) (fs : Value) (hfs : fs = .null ∨ ∃ a, fs = .ref a) (S_F : Sta Z Z.heap "jdk/internal/util/Preconditions" "SIOOBE_FORMATTER" "Ljava/util/function/BiFunction;" fs) (S_D : Sta Z Z.heap "java/lang/StringUTF16" "$assertionsDisabled" "Z" (.int 1)) (S_H : Sta Z Z.heap "java/lang/StringUTF16" "HI_BYTE_SHIFT" "I" (.int 0)) (S_L : Sta Z Z.heap "java/lang/StringUTF16" "LO_BYTE_SHIFT" "I" (.int 8)) (Es1 : Exa Z h0 s1 "java/lang/String") (Fv1 : Fld Z h0 s1 "java/lang/String" "value" "[B" (.ref t1)) (Fc1 : Fld Z h0 s1 "java/lang/String" "coder" "B" (.int cd)) (hso : StrOf cs cd bb) (V1 : Arv Z h0 t1 k1 .byte (Int32.ofNat bb.length) (bb.map Value.int) (.int 0)) (hn : cs.length ≤ 16) (hr : ∀ x ∈ cs, rng16 x) (hi : i < cs.length) (S_C : Sta Z Z.heap "java/lang/String" "COMPACT_STRINGS" "Z" (.int zc)) (hzc : ¬ zc = 0) :
    Con l Z ms (⟨"java/lang/String", "charAt", "(I)C"⟩ : MethodName) jdk_42_method_56_code 2 (some .char) ws ({ frames := 4, cells := 0, slots := 0, locals := 53 } : Room) #[(.ref s1), (.int (Int32.ofNat i))] h0 (fun v vm h L => v = some (.int (cs.getD i 0)) ∧ Fr nb L ∧ h = h0) := by
  rcases id hso with ⟨rfl, rfl, hl⟩ | ⟨rfl, rfl⟩
  · refine Con.mk (plainFor_of_name pn1) ?_
    intro p e s m below meth c s₁ Cc X0 e0 eb J0 B0 M0
    obtain ⟨hx, hZ, hown, hby, hml, hnm, hret, hlk⟩ := id Cc
    have N0 := Fr.nil h0.size
    have K0 := Keep.refl h0 []
    show Go p e s below _ _ _ _ s₁ (mkF m 0 #[.val (.ref s1), .val (.int (Int32.ofNat i))] [])
    refine Go.of (fun _ hr => XS.aloadN X0.here hx rfl (hb hby d28_0) rfl rfl hr) ?_
    show Go p e s below _ _ _ _ s₁ (mkF m 1 #[.val (.ref s1), .val (.int (Int32.ofNat i))] [(.ref s1)])
    obtain ⟨_, b101, T101, h101, L101, e101, Cc101, X101, B101, J101, g101, hQ101, st101⟩ := own_callV Cc B0 J0 X0 (hw _ (List.mem_of_getElem? (i := 164) rfl)) (hw _ (List.mem_of_getElem? (i := 165) rfl)) (notFace_of_selects (args := #[]) (mvT hZ (hw _ (List.mem_of_getElem? (i := 167) rfl)))) (hw _ (List.mem_of_getElem? (i := 167) rfl)) (hw _ (List.mem_of_getElem? (i := 166) rfl)) (hw _ (List.mem_of_getElem? (i := 7) rfl)) (hw _ (List.mem_of_getElem? (i := 168) rfl)) (by decide) Es1 (rm29 l Z a0 hw [] s1 zc _ h0 n0 O0 h0.size (own_ole O0) K0.1 Fc1 S_C hzc) e0 (g := (mkF m 1 #[.val (.ref s1), .val (.int (Int32.ofNat i))] [(.ref s1)])) rfl (by rw [hml]; rfl) (argsL := []) (rest := []) (lenOf pd13 rfl) rfl (W := 0) (by show 2 * 0 + _ ≤ _; exact Nat.le_of_eq rfl) (hb hby d28_1) (by decide) (by decide) (by decide) (by decide)
    obtain ⟨rfl, Nq101, hh101⟩ := hQ101
    have N101 := Fr.app N0 Nq101
    obtain ⟨hx, hZ, hown, hby, hml, hnm, hret, hlk⟩ := id Cc101
    rw [hh101] at e101 B101 J101
    refine Go.of st101 ?_
    show Go p e s below _ _ _ _ T101 (mkF m 4 #[.val (.ref s1), .val (.int (Int32.ofNat i))] [(.int (1 : Int32))])
    refine Go.of (fun _ hr => XS.ifNo X101.here hx rfl (hb hby d28_4) rfl ((if0 _ _).trans (feq (by decide : ¬ ((1 : Int32) = (0 : Int32)))).1) hr) ?_
    show Go p e s below _ _ _ _ T101 (mkF m 7 #[.val (.ref s1), .val (.int (Int32.ofNat i))] [])
    refine Go.of (fun _ hr => XS.aloadN X101.here hx rfl (hb hby d28_7) rfl rfl hr) ?_
    show Go p e s below _ _ _ _ T101 (mkF m 8 #[.val (.ref s1), .val (.int (Int32.ofNat i))] [(.ref s1)])
    obtain ⟨T102, X102, e102, st102⟩ := getF X101 hx hZ hown (host := "") (Or.inl (hw _ (List.mem_of_getElem? (i := 73) rfl))) Via.refl e101 Fv1 (g := (mkF m 8 #[.val (.ref s1), .val (.int (Int32.ofNat i))] [(.ref s1)])) rfl rfl (hb hby d28_8)
    refine Go.of (fun _ hr => st102 _ hr) ?_
    show Go p e s below _ _ _ _ T102 (mkF m 11 #[.val (.ref s1), .val (.int (Int32.ofNat i))] [(.ref t1)])
    refine Go.of (fun _ hr => XS.iloadN X102.here hx rfl (hb hby d28_11) rfl  hr) ?_
    show Go p e s below _ _ _ _ T102 (mkF m 12 #[.val (.ref s1), .val (.int (Int32.ofNat i))] [(.int (Int32.ofNat i)), (.ref t1)])
    obtain ⟨_, b103, T103, h103, L103, e103, Cc103, X103, B103, J103, g103, hQ103, st103⟩ := own_callS Cc101 B101 J101 X102 (hw _ (List.mem_of_getElem? (i := 169) rfl)) (hw _ (List.mem_of_getElem? (i := 170) rfl)) (hw _ (List.mem_of_getElem? (i := 171) rfl)) (hw _ (List.mem_of_getElem? (i := 172) rfl)) (by decide) (rm30 l Z a0 hw [] t1 _ (cs.map lo8) (Int32.ofNat i) _ h0 n0 O0 h0.size (own_ole O0) K0.1 fs hfs S_F V1 (oi_nn (by omega)) (by rw [List.length_map]; exact oi_lt (by omega) (by omega) hi)) e102 (g := (mkF m 12 #[.val (.ref s1), .val (.int (Int32.ofNat i))] [(.int (Int32.ofNat i)), (.ref t1)])) rfl (by rw [hml]; rfl) (argsL := [(.ref t1), (.int (Int32.ofNat i))]) (rest := []) (lenOf pd5 rfl) rfl (W := 0) (by show 2 * 0 + _ ≤ _; exact Nat.le_of_eq rfl) (hb hby d28_12) (by decide) (by decide) (by decide) (by decide)
    obtain ⟨rfl, Nq103, hh103⟩ := hQ103
    have N103 := Fr.app N101 Nq103
    obtain ⟨hx, hZ, hown, hby, hml, hnm, hret, hlk⟩ := id Cc103
    rw [hh103] at e103 B103 J103
    refine Go.of st103 ?_
    show Go p e s below _ _ _ _ T103 (mkF m 15 #[.val (.ref s1), .val (.int (Int32.ofNat i))] [(.int (chV (cs.map lo8) (Int32.ofNat i)))])
    exact Go.retN X103 hx hlk B103 J103 e103 (t := .char) (z' := (cs.getD i 0)) hret (by simp) (hb hby d28_15) (nar_l hl hr hi (by omega)) (by decide) (by decide) (fun vm_ hw_ => ⟨rfl, (fun y hy => Nat.le_trans hnb (N103 y hy)), rfl⟩)
  · refine Con.mk (plainFor_of_name pn1) ?_
    intro p e s m below meth c s₁ Cc X0 e0 eb J0 B0 M0
    obtain ⟨hx, hZ, hown, hby, hml, hnm, hret, hlk⟩ := id Cc
    have N0 := Fr.nil h0.size
    have K0 := Keep.refl h0 []
    show Go p e s below _ _ _ _ s₁ (mkF m 0 #[.val (.ref s1), .val (.int (Int32.ofNat i))] [])
    refine Go.of (fun _ hr => XS.aloadN X0.here hx rfl (hb hby d28_0) rfl rfl hr) ?_
    show Go p e s below _ _ _ _ s₁ (mkF m 1 #[.val (.ref s1), .val (.int (Int32.ofNat i))] [(.ref s1)])
    obtain ⟨_, b101, T101, h101, L101, e101, Cc101, X101, B101, J101, g101, hQ101, st101⟩ := own_callV Cc B0 J0 X0 (hw _ (List.mem_of_getElem? (i := 164) rfl)) (hw _ (List.mem_of_getElem? (i := 165) rfl)) (notFace_of_selects (args := #[]) (mvT hZ (hw _ (List.mem_of_getElem? (i := 167) rfl)))) (hw _ (List.mem_of_getElem? (i := 167) rfl)) (hw _ (List.mem_of_getElem? (i := 166) rfl)) (hw _ (List.mem_of_getElem? (i := 7) rfl)) (hw _ (List.mem_of_getElem? (i := 168) rfl)) (by decide) Es1 (rmU29 l Z a0 hw [] s1 zc _ h0 n0 O0 h0.size (own_ole O0) K0.1 Fc1 S_C hzc) e0 (g := (mkF m 1 #[.val (.ref s1), .val (.int (Int32.ofNat i))] [(.ref s1)])) rfl (by rw [hml]; rfl) (argsL := []) (rest := []) (lenOf pd13 rfl) rfl (W := 0) (by show 2 * 0 + _ ≤ _; exact Nat.le_of_eq rfl) (hb hby d28_1) (by decide) (by decide) (by decide) (by decide)
    obtain ⟨rfl, Nq101, hh101⟩ := hQ101
    have N101 := Fr.app N0 Nq101
    obtain ⟨hx, hZ, hown, hby, hml, hnm, hret, hlk⟩ := id Cc101
    rw [hh101] at e101 B101 J101
    refine Go.of st101 ?_
    show Go p e s below _ _ _ _ T101 (mkF m 4 #[.val (.ref s1), .val (.int (Int32.ofNat i))] [(.int (0 : Int32))])
    refine Go.of (fun _ hr => XS.ifYes X101.here hx rfl (pc0 := 4) (pc' := 16) rfl (hb hby d28_4) rfl ((if0 _ _).trans (teq (by decide : ((0 : Int32) = (0 : Int32)))).1) (by decide) (by decide) hr) ?_
    show Go p e s below _ _ _ _ T101 (mkF m 16 #[.val (.ref s1), .val (.int (Int32.ofNat i))] [])
    refine Go.of (fun _ hr => XS.aloadN X101.here hx rfl (hb hby d28_16) rfl rfl hr) ?_
    show Go p e s below _ _ _ _ T101 (mkF m 17 #[.val (.ref s1), .val (.int (Int32.ofNat i))] [(.ref s1)])
    obtain ⟨T102, X102, e102, st102⟩ := getF X101 hx hZ hown (host := "") (Or.inl (hw _ (List.mem_of_getElem? (i := 73) rfl))) Via.refl e101 Fv1 (g := (mkF m 17 #[.val (.ref s1), .val (.int (Int32.ofNat i))] [(.ref s1)])) rfl rfl (hb hby d28_17)
    refine Go.of (fun _ hr => st102 _ hr) ?_
    show Go p e s below _ _ _ _ T102 (mkF m 20 #[.val (.ref s1), .val (.int (Int32.ofNat i))] [(.ref t1)])
    refine Go.of (fun _ hr => XS.iloadN X102.here hx rfl (hb hby d28_20) rfl  hr) ?_
    show Go p e s below _ _ _ _ T102 (mkF m 21 #[.val (.ref s1), .val (.int (Int32.ofNat i))] [(.int (Int32.ofNat i)), (.ref t1)])
    obtain ⟨_, b103, T103, h103, L103, e103, Cc103, X103, B103, J103, g103, hQ103, st103⟩ := own_callS Cc101 B101 J101 X102 (hw _ (List.mem_of_getElem? (i := 241) rfl)) (hw _ (List.mem_of_getElem? (i := 242) rfl)) (hw _ (List.mem_of_getElem? (i := 199) rfl)) (hw _ (List.mem_of_getElem? (i := 243) rfl)) (by decide) (rm49 l Z a0 hw [] t1 _ (utf cs) cs.length i _ h0 n0 O0 h0.size (own_ole O0) K0.1 fs hfs S_F S_D S_H S_L (by omega) hi (by have q := V1; rw [utf_len] at q; exact q)) e102 (g := (mkF m 21 #[.val (.ref s1), .val (.int (Int32.ofNat i))] [(.int (Int32.ofNat i)), (.ref t1)])) rfl (by rw [hml]; rfl) (argsL := [(.ref t1), (.int (Int32.ofNat i))]) (rest := []) (lenOf pd5 rfl) rfl (W := 0) (by show 2 * 0 + _ ≤ _; exact Nat.le_of_eq rfl) (hb hby d28_21) (by decide) (by decide) (by decide) (by decide)
    obtain ⟨rfl, Nq103, hh103⟩ := hQ103
    have N103 := Fr.app N101 Nq103
    obtain ⟨hx, hZ, hown, hby, hml, hnm, hret, hlk⟩ := id Cc103
    rw [hh103] at e103 B103 J103
    refine Go.of st103 ?_
    show Go p e s below _ _ _ _ T103 (mkF m 24 #[.val (.ref s1), .val (.int (Int32.ofNat i))] [(.int (ch16 ((utf cs).getD (2 * i) 0) ((utf cs).getD (2 * i + 1) 0)))])
    exact Go.retN X103 hx hlk B103 J103 e103 (t := .char) (z' := (cs.getD i 0)) hret (by simp) (hb hby d28_24) (nar_u hr hi) (by decide) (by decide) (fun vm_ hw_ => ⟨rfl, (fun y hy => Nat.le_trans hnb (N103 y hy)), rfl⟩)

theorem d35_0 : decode jdk_43_method_3_code 0 = .ok (.iload_n 0, 1) := by decide +kernel
theorem d35_1 : decode jdk_43_method_3_code 1 = .ok (.sipush 255, 3) := by decide +kernel
theorem d35_4 : decode jdk_43_method_3_code 4 = .ok (.if_icmp .gt 7, 3) := by decide +kernel
theorem d35_7 : decode jdk_43_method_3_code 7 = .ok (.iconst 1, 1) := by decide +kernel
theorem d35_8 : decode jdk_43_method_3_code 8 = .ok (.goto 4, 3) := by decide +kernel
theorem d35_12 : decode jdk_43_method_3_code 12 = .ok (.ireturn, 1) := by decide +kernel
set_option maxRecDepth 65536 in
set_option maxHeartbeats 40000000 in
theorem rm35 (l : Launch) (Z : State) (a0 : Array Value) (hw : ∀ d ∈ tables_1, d.before a0 Z = true) (ws : List Jvm.Cond) (c1 : Int32) (ms : List Addr) (h0 : Heap) (n0 : Nat) (O0 : Old Z n0 h0) (nb : Nat) (hb0 : n0 ≤ nb) (hnb : nb ≤ h0.size) (q1 : ¬ 255 < c1) :
    Con l Z ms (⟨"java/lang/StringLatin1", "canEncode", "(C)Z"⟩ : MethodName) jdk_43_method_3_code 1 (some .boolean) ws ({ frames := 0, cells := 0, slots := 0, locals := 0 } : Room) #[(.int c1)] h0 (fun v vm h L => v = some (.int 1) ∧ Fr nb L ∧ h = h0) := by
  refine Con.mk (plainFor_of_name pn3) ?_
  intro p e s m below meth c s₁ Cc X0 e0 eb J0 B0 M0
  obtain ⟨hx, hZ, hown, hby, hml, hnm, hret, hlk⟩ := id Cc
  have N0 := Fr.nil h0.size
  have K0 := Keep.refl h0 []
  show Go p e s below _ _ _ _ s₁ (mkF m 0 #[.val (.int c1)] [])
  refine Go.of (fun _ hr => XS.iloadN X0.here hx rfl (hb hby d35_0) rfl  hr) ?_
  show Go p e s below _ _ _ _ s₁ (mkF m 1 #[.val (.int c1)] [(.int c1)])
  refine Go.of (fun _ hr => XS.sipush X0.here hx rfl (hb hby d35_1) hr) ?_
  show Go p e s below _ _ _ _ s₁ (mkF m 4 #[.val (.int c1)] [(.int (255 : Int32)), (.int c1)])
  refine Go.of (fun _ hr => XS.icmpNo X0.here hx rfl (hb hby d35_4) rfl (flt q1).2.2.1 hr) ?_
  show Go p e s below _ _ _ _ s₁ (mkF m 7 #[.val (.int c1)] [])
  refine Go.of (fun _ hr => XS.iconst X0.here hx rfl (hb hby d35_7) hr) ?_
  show Go p e s below _ _ _ _ s₁ (mkF m 8 #[.val (.int c1)] [(.int (1 : Int32))])
  refine Go.of (fun _ hr => XS.goto X0.here hx rfl (pc0 := 8) (pc' := 12) rfl (hb hby d35_8) (by decide) (by decide) hr) ?_
  show Go p e s below _ _ _ _ s₁ (mkF m 12 #[.val (.int c1)] [(.int (1 : Int32))])
  exact Go.retN X0 hx hlk B0 J0 e0 (t := .boolean) (z' := (1 : Int32)) hret (by simp) (hb hby d35_12) rfl (by decide) (by decide) (fun vm_ hw_ => ⟨rfl, (fun y hy => Nat.le_trans hnb (N0 y hy)), rfl⟩)

theorem d35_11 : decode jdk_43_method_3_code 11 = .ok (.iconst 0, 1) := by decide +kernel
set_option maxRecDepth 65536 in
set_option maxHeartbeats 40000000 in
theorem rmU35 (l : Launch) (Z : State) (a0 : Array Value) (hw : ∀ d ∈ tables_1, d.before a0 Z = true) (ws : List Jvm.Cond) (c1 : Int32) (ms : List Addr) (h0 : Heap) (n0 : Nat) (O0 : Old Z n0 h0) (nb : Nat) (hb0 : n0 ≤ nb) (hnb : nb ≤ h0.size) (q1 : 255 < c1) :
    Con l Z ms (⟨"java/lang/StringLatin1", "canEncode", "(C)Z"⟩ : MethodName) jdk_43_method_3_code 1 (some .boolean) ws ({ frames := 0, cells := 0, slots := 0, locals := 0 } : Room) #[(.int c1)] h0 (fun v vm h L => v = some (.int 0) ∧ Fr nb L ∧ h = h0) := by
  refine Con.mk (plainFor_of_name pn3) ?_
  intro p e s m below meth c s₁ Cc X0 e0 eb J0 B0 M0
  obtain ⟨hx, hZ, hown, hby, hml, hnm, hret, hlk⟩ := id Cc
  have N0 := Fr.nil h0.size
  have K0 := Keep.refl h0 []
  show Go p e s below _ _ _ _ s₁ (mkF m 0 #[.val (.int c1)] [])
  refine Go.of (fun _ hr => XS.iloadN X0.here hx rfl (hb hby d35_0) rfl  hr) ?_
  show Go p e s below _ _ _ _ s₁ (mkF m 1 #[.val (.int c1)] [(.int c1)])
  refine Go.of (fun _ hr => XS.sipush X0.here hx rfl (hb hby d35_1) hr) ?_
  show Go p e s below _ _ _ _ s₁ (mkF m 4 #[.val (.int c1)] [(.int (255 : Int32)), (.int c1)])
  refine Go.of (fun _ hr => XS.icmpYes X0.here hx rfl (pc0 := 4) (pc' := 11) rfl (hb hby d35_4) rfl (tlt q1).2.2.1 (by decide) (by decide) hr) ?_
  show Go p e s below _ _ _ _ s₁ (mkF m 11 #[.val (.int c1)] [])
  refine Go.of (fun _ hr => XS.iconst X0.here hx rfl (hb hby d35_11) hr) ?_
  show Go p e s below _ _ _ _ s₁ (mkF m 12 #[.val (.int c1)] [(.int (0 : Int32))])
  exact Go.retN X0 hx hlk B0 J0 e0 (t := .boolean) (z' := (0 : Int32)) hret (by simp) (hb hby d35_12) rfl (by decide) (by decide) (fun vm_ hw_ => ⟨rfl, (fun y hy => Nat.le_trans hnb (N0 y hy)), rfl⟩)

theorem d36_0 : decode jdk_43_method_46_code 0 = .ok (.iconst 1, 1) := by decide +kernel
theorem d36_1 : decode jdk_43_method_46_code 1 = .ok (.newarray .byte, 2) := by decide +kernel
theorem d36_3 : decode jdk_43_method_46_code 3 = .ok (.dup, 1) := by decide +kernel
theorem d36_4 : decode jdk_43_method_46_code 4 = .ok (.iconst 0, 1) := by decide +kernel
theorem d36_5 : decode jdk_43_method_46_code 5 = .ok (.iload_n 0, 1) := by decide +kernel
theorem d36_6 : decode jdk_43_method_46_code 6 = .ok (.i2b, 1) := by decide +kernel
theorem d36_7 : decode jdk_43_method_46_code 7 = .ok (.bastore, 1) := by decide +kernel
theorem d36_8 : decode jdk_43_method_46_code 8 = .ok (.areturn, 1) := by decide +kernel
set_option maxRecDepth 65536 in
set_option maxHeartbeats 40000000 in
theorem rm36 (l : Launch) (Z : State) (a0 : Array Value) (hw : ∀ d ∈ tables_1, d.before a0 Z = true) (ws : List Jvm.Cond) (c1 : Int32) (ms : List Addr) (h0 : Heap) (n0 : Nat) (O0 : Old Z n0 h0) (nb : Nat) (hb0 : n0 ≤ nb) (hnb : nb ≤ h0.size) :
    Con l Z ms (⟨"java/lang/StringLatin1", "toBytes", "(C)[B"⟩ : MethodName) jdk_43_method_46_code 1 (some (.array .byte)) ws ({ frames := 0, cells := 1, slots := 1, locals := 0 } : Room) #[(.int c1)] h0 (fun v vm h L => ∃ r k, v = some (.ref r) ∧ Fr nb L ∧ Ext h0 h ∧ h0.size ≤ r ∧ Arv Z h r k .byte 1 [.int (lo8 c1)] (.int 0)) := by
  refine Con.mk (plainFor_of_name pn3) ?_
  intro p e s m below meth c s₁ Cc X0 e0 eb J0 B0 M0
  obtain ⟨hx, hZ, hown, hby, hml, hnm, hret, hlk⟩ := id Cc
  have N0 := Fr.nil h0.size
  have K0 := Keep.refl h0 []
  show Go p e s below _ _ _ _ s₁ (mkF m 0 #[.val (.int c1)] [])
  refine Go.of (fun _ hr => XS.iconst X0.here hx rfl (hb hby d36_0) hr) ?_
  show Go p e s below _ _ _ _ s₁ (mkF m 1 #[.val (.int c1)] [(.int (1 : Int32))])
  obtain ⟨T101, h101, k101, X101, e101, E101, A101, st101⟩ := newP X0 hx hZ (hw _ (List.mem_of_getElem? (i := 9) rfl)) e0 (g := (mkF m 1 #[.val (.int c1)] [(.int (1 : Int32))])) rfl (hb hby d36_1) rfl (by decide) (cap := 1) (by decide) (by decide) (by decide) (by decide)
  obtain ⟨o101, g101⟩ : ∃ z, z = h0.size := ⟨_, rfl⟩
  rw [← g101] at A101 st101
  have V101 : Arv Z h101 o101 k101 .byte (1 : Int32) [(.int (0 : Int32))] (.int (0 : Int32)) := (Arv.new A101 (by decide)).pad (pad_rep [] (.int (0 : Int32)) 1)
  have lt101 : o101 < h101.size := A101.lt
  have J101 := J0.add E101 g101 lt101
  have B101 := B0.mono E101.1
  have O101 := O0.ext E101
  have sz101 : h0.size ≤ o101 := Nat.le_trans K0.1 (Nat.le_of_eq g101.symm)
  have fr101 : h0.size ≤ o101 := sz101
  have K101 := K0.ext E101
  refine Go.of (fun _ hr => st101 _ hr) ?_
  show Go p e s below _ _ _ _ T101 (mkF m 3 #[.val (.int c1)] [(.ref o101)])
  refine Go.of (fun _ hr => XS.dup X101.here hx rfl (hb hby d36_3) rfl rfl hr) ?_
  show Go p e s below _ _ _ _ T101 (mkF m 4 #[.val (.int c1)] [(.ref o101), (.ref o101)])
  refine Go.of (fun _ hr => XS.iconst X101.here hx rfl (hb hby d36_4) hr) ?_
  show Go p e s below _ _ _ _ T101 (mkF m 5 #[.val (.int c1)] [(.int (0 : Int32)), (.ref o101), (.ref o101)])
  refine Go.of (fun _ hr => XS.iloadN X101.here hx rfl (hb hby d36_5) rfl  hr) ?_
  show Go p e s below _ _ _ _ T101 (mkF m 6 #[.val (.int c1)] [(.int c1), (.int (0 : Int32)), (.ref o101), (.ref o101)])
  refine Go.of (fun _ hr => XS.i2b X101.here hx rfl (hb hby d36_6) rfl hr) ?_
  show Go p e s below _ _ _ _ T101 (mkF m 7 #[.val (.int c1)] [(.int (c1.toInt8.toInt32)), (.int (0 : Int32)), (.ref o101), (.ref o101)])
  obtain ⟨cl102, Ar102, q102, S102, N102_, H102, G102⟩ := id V101
  have hin102 : ¬ ((0 : Int32) < 0 ∨ cl102.slots.size ≤ ((0 : Int32)).toNatClampNeg) := inb_of S102 ⟨by decide, by decide⟩
  obtain ⟨T102, h102, X102, e102, W102, st102⟩ := stB X101 hx hZ e101 Ar102 (j := (0 : Int32)) hin102 (g := (mkF m 7 #[.val (.int c1)] [(.int (c1.toInt8.toInt32)), (.int (0 : Int32)), (.ref o101), (.ref o101)])) rfl rfl (hb hby d36_7)
  have W102' := W102
  rw [show nar .byte (c1.toInt8.toInt32) = (c1.toInt8.toInt32) from (nar_b _)] at W102'
  have V102 : Arv Z h102 o101 k101 .byte (1 : Int32) [(.int (c1.toInt8.toInt32))] (.int (0 : Int32)) := Arv.set Ar102 q102 S102 N102_ H102 G102 (fits_b _) W102' 0 rfl (by simp)
  have N102 := Fr.snoc X102 N0 fr101
  have J102 := J101.wr W102 (List.mem_cons_self ..)
  have B102 := B101.mono (Nat.le_of_eq W102.size.symm)
  have O102 := O101.wr W102 (Nat.le_trans (own_ole O0) fr101)
  have K102 := K101.wr W102 (Or.inr sz101)
  refine Go.of (fun _ hr => st102 _ hr) ?_
  show Go p e s below _ _ _ _ T102 (mkF m 8 #[.val (.int c1)] [(.ref o101)])
  exact Go.retA X102 hx hlk B102 (J102.sub fun x hx => (List.mem_cons_of_mem _ hx)) e102 hret rfl rfl (hb hby d36_8) (by decide) (by decide) (fun vm_ hw_ => ⟨_, _, rfl, (fun y hy => Nat.le_trans hnb (N102 y hy)), keep_ext K102, sz101, V102⟩)

theorem d38_0 : decode jdk_52_method_24_code 0 = .ok (.iconst 2, 1) := by decide +kernel
theorem d38_1 : decode jdk_52_method_24_code 1 = .ok (.newarray .byte, 2) := by decide +kernel
theorem d38_3 : decode jdk_52_method_24_code 3 = .ok (.astore_n 1, 1) := by decide +kernel
theorem d38_4 : decode jdk_52_method_24_code 4 = .ok (.aload_n 1, 1) := by decide +kernel
theorem d38_5 : decode jdk_52_method_24_code 5 = .ok (.iconst 0, 1) := by decide +kernel
theorem d38_6 : decode jdk_52_method_24_code 6 = .ok (.iload_n 0, 1) := by decide +kernel
theorem d38_7 : decode jdk_52_method_24_code 7 = .ok (.invokestatic 111, 3) := by decide +kernel
theorem d38_10 : decode jdk_52_method_24_code 10 = .ok (.aload_n 1, 1) := by decide +kernel
theorem d38_11 : decode jdk_52_method_24_code 11 = .ok (.areturn, 1) := by decide +kernel
set_option maxRecDepth 65536 in
set_option maxHeartbeats 40000000 in
theorem rm38 (l : Launch) (Z : State) (a0 : Array Value) (hw : ∀ d ∈ tables_1, d.before a0 Z = true) (ws : List Jvm.Cond) (c1 : Int32) (ms : List Addr) (h0 : Heap) (n0 : Nat) (O0 : Old Z n0 h0) (nb : Nat) (hb0 : n0 ≤ nb) (hnb : nb ≤ h0.size) (S_D : Sta Z Z.heap "java/lang/StringUTF16" "$assertionsDisabled" "Z" (.int 1)) (S_H : Sta Z Z.heap "java/lang/StringUTF16" "HI_BYTE_SHIFT" "I" (.int 0)) (S_L : Sta Z Z.heap "java/lang/StringUTF16" "LO_BYTE_SHIFT" "I" (.int 8)) :
    Con l Z ms (⟨"java/lang/StringUTF16", "toBytes", "(C)[B"⟩ : MethodName) jdk_52_method_24_code 2 (some (.array .byte)) ws ({ frames := 1, cells := 1, slots := 2, locals := 14 } : Room) #[(.int c1)] h0 (fun v vm h L => ∃ r k, v = some (.ref r) ∧ Fr nb L ∧ Ext h0 h ∧ h0.size ≤ r ∧ Arv Z h r k .byte (2 : Int32) ((utf [c1]).map Value.int) (.int 0)) := by
  refine Con.mk (plainFor_of_name pn0) ?_
  intro p e s m below meth c s₁ Cc X0 e0 eb J0 B0 M0
  obtain ⟨hx, hZ, hown, hby, hml, hnm, hret, hlk⟩ := id Cc
  have N0 := Fr.nil h0.size
  have K0 := Keep.refl h0 []
  show Go p e s below _ _ _ _ s₁ (mkF m 0 #[.val (.int c1), .unset] [])
  refine Go.of (fun _ hr => XS.iconst X0.here hx rfl (hb hby d38_0) hr) ?_
  show Go p e s below _ _ _ _ s₁ (mkF m 1 #[.val (.int c1), .unset] [(.int (2 : Int32))])
  obtain ⟨T101, h101, k101, X101, e101, E101, A101, st101⟩ := newP X0 hx hZ (hw _ (List.mem_of_getElem? (i := 9) rfl)) e0 (g := (mkF m 1 #[.val (.int c1), .unset] [(.int (2 : Int32))])) rfl (hb hby d38_1) rfl (by decide) (cap := 2) (by decide) (by decide) (by decide) (by decide)
  obtain ⟨o101, g101⟩ : ∃ z, z = h0.size := ⟨_, rfl⟩
  rw [← g101] at A101 st101
  have V101 := Arv.new A101 (by decide)
  have lt101 : o101 < h101.size := A101.lt
  have J101 := J0.add E101 g101 lt101
  have B101 := B0.mono E101.1
  have O101 := O0.ext E101
  have sz101 : h0.size ≤ o101 := Nat.le_trans K0.1 (Nat.le_of_eq g101.symm)
  have fr101 : h0.size ≤ o101 := sz101
  have K101 := K0.ext E101
  refine Go.of (fun _ hr => st101 _ hr) ?_
  show Go p e s below _ _ _ _ T101 (mkF m 3 #[.val (.int c1), .unset] [(.ref o101)])
  refine Go.of (fun _ hr => XS.astoreN X101.here hx rfl (hb hby d38_3) rfl rfl (l' := #[.val (.int c1), .val (.ref o101)]) rfl hr) ?_
  show Go p e s below _ _ _ _ T101 (mkF m 4 #[.val (.int c1), .val (.ref o101)] [])
  refine Go.of (fun _ hr => XS.aloadN X101.here hx rfl (hb hby d38_4) rfl rfl hr) ?_
  show Go p e s below _ _ _ _ T101 (mkF m 5 #[.val (.int c1), .val (.ref o101)] [(.ref o101)])
  refine Go.of (fun _ hr => XS.iconst X101.here hx rfl (hb hby d38_5) hr) ?_
  show Go p e s below _ _ _ _ T101 (mkF m 6 #[.val (.int c1), .val (.ref o101)] [(.int (0 : Int32)), (.ref o101)])
  refine Go.of (fun _ hr => XS.iloadN X101.here hx rfl (hb hby d38_6) rfl  hr) ?_
  show Go p e s below _ _ _ _ T101 (mkF m 7 #[.val (.int c1), .val (.ref o101)] [(.int c1), (.int (0 : Int32)), (.ref o101)])
  obtain ⟨_, b102, T102, h102, L102, e102, Cc102, X102, B102, J102, g102, hQ102, st102⟩ := own_callS Cc B101 J101 X101 (hw _ (List.mem_of_getElem? (i := 201) rfl)) (hw _ (List.mem_of_getElem? (i := 202) rfl)) (hw _ (List.mem_of_getElem? (i := 199) rfl)) (hw _ (List.mem_of_getElem? (i := 203) rfl)) (by decide) (rm39 l Z a0 hw [] o101 _ ([] : List Int32) 1 0 c1 _ h101 n0 O101 h0.size (own_ole O0) K101.1 fr101 (List.mem_cons_self ..) S_D S_H S_L (by decide) (by decide) rfl V101) e101 (g := (mkF m 7 #[.val (.int c1), .val (.ref o101)] [(.int c1), (.int (0 : Int32)), (.ref o101)])) rfl (by rw [hml]; rfl) (argsL := [(.ref o101), (.int (0 : Int32)), (.int c1)]) (rest := []) (lenOf pd1 rfl) rfl (W := 0) (by show 2 * 0 + _ ≤ _; exact Nat.le_of_eq rfl) (hb hby d38_7) (by decide) (by decide) (by decide) (by decide)
  obtain ⟨rfl, Nq102, Kq102, Vp102⟩ := hQ102
  have N102 := Fr.app N0 Nq102
  obtain ⟨hx, hZ, hown, hby, hml, hnm, hret, hlk⟩ := id Cc102
  have K102 := K101.trans Kq102 (allS (Or.inr sz101) all0)
  have O102 := O101.keep Kq102 (allS (Nat.le_trans (own_ole O0) fr101) all0)
  refine Go.of st102 ?_
  show Go p e s below _ _ _ _ T102 (mkF m 10 #[.val (.int c1), .val (.ref o101)] [])
  refine Go.of (fun _ hr => XS.aloadN X102.here hx rfl (hb hby d38_10) rfl rfl hr) ?_
  show Go p e s below _ _ _ _ T102 (mkF m 11 #[.val (.int c1), .val (.ref o101)] [(.ref o101)])
  exact Go.retA X102 hx hlk B102 (J102.sub fun x hx => (List.mem_cons_of_mem _ hx)) e102 hret rfl rfl (hb hby d38_11) (by decide) (by decide) (fun vm_ hw_ => ⟨_, _, rfl, (fun y hy => Nat.le_trans hnb (N102 y hy)), keep_ext K102, sz101, Vp102⟩)

theorem d37_0 : decode jdk_42_method_151_code 0 = .ok (.aload_n 0, 1) := by decide +kernel
theorem d37_1 : decode jdk_42_method_151_code 1 = .ok (.invokespecial 1, 3) := by decide +kernel
theorem d37_4 : decode jdk_42_method_151_code 4 = .ok (.aload_n 0, 1) := by decide +kernel
theorem d37_5 : decode jdk_42_method_151_code 5 = .ok (.aload_n 1, 1) := by decide +kernel
theorem d37_6 : decode jdk_42_method_151_code 6 = .ok (.putfield 9, 3) := by decide +kernel
theorem d37_9 : decode jdk_42_method_151_code 9 = .ok (.aload_n 0, 1) := by decide +kernel
theorem d37_10 : decode jdk_42_method_151_code 10 = .ok (.iload_n 2, 1) := by decide +kernel
theorem d37_11 : decode jdk_42_method_151_code 11 = .ok (.putfield 15, 3) := by decide +kernel
theorem d37_14 : decode jdk_42_method_151_code 14 = .ok (.return_, 1) := by decide +kernel
set_option maxRecDepth 65536 in
set_option maxHeartbeats 40000000 in
theorem rm37 (l : Launch) (Z : State) (a0 : Array Value) (hw : ∀ d ∈ tables_1, d.before a0 Z = true) (ws : List Jvm.Cond) (a1 a2 : Addr) (u1 u2 : Value) (ms : List Addr) (h0 : Heap) (n0 : Nat) (O0 : Old Z n0 h0) (nb : Nat) (hb0 : n0 ≤ nb) (hnb : nb ≤ h0.size) (fr_a1 : nb ≤ a1) (hm_a1 : a1 ∈ ms) (E1 : Exa Z h0 a1 "java/lang/String") (F1 : Fld Z h0 a1 "java/lang/String" "value" "[B" u1) (F2 : Fld Z h0 a1 "java/lang/String" "coder" "B" u2) :
    Con l Z ms (⟨"java/lang/String", "<init>", "([BB)V"⟩ : MethodName) jdk_42_method_151_code 3 none ws ({ frames := 1, cells := 0, slots := 0, locals := 12 } : Room) #[(.ref a1), (.ref a2), (.int (0 : Int32))] h0 (fun v vm h L => v = none ∧ Fr nb L ∧ Keep h0 h [a1] ∧ Fld Z h a1 "java/lang/String" "value" "[B" (.ref a2) ∧ Fld Z h a1 "java/lang/String" "coder" "B" (.int 0)) := by
  refine Con.mk (plainFor_of_name pn1) ?_
  intro p e s m below meth c s₁ Cc X0 e0 eb J0 B0 M0
  obtain ⟨hx, hZ, hown, hby, hml, hnm, hret, hlk⟩ := id Cc
  have N0 := Fr.nil nb
  have K0 := Keep.refl h0 [a1]
  show Go p e s below _ _ _ _ s₁ (mkF m 0 #[.val (.ref a1), .val (.ref a2), .val (.int (0 : Int32))] [])
  refine Go.of (fun _ hr => XS.aloadN X0.here hx rfl (hb hby d37_0) rfl rfl hr) ?_
  show Go p e s below _ _ _ _ s₁ (mkF m 1 #[.val (.ref a1), .val (.ref a2), .val (.int (0 : Int32))] [(.ref a1)])
  obtain ⟨T101, X101, e101, st101⟩ := initO X0 hx hZ hown (hw _ (List.mem_of_getElem? (i := 121) rfl)) (hw _ (List.mem_of_getElem? (i := 21) rfl)) (hw _ (List.mem_of_getElem? (i := 22) rfl)) e0 (g := (mkF m 1 #[.val (.ref a1), .val (.ref a2), .val (.int (0 : Int32))] [(.ref a1)])) rfl (by rw [hml]; rfl) rfl (hb hby d37_1) (by decide) (W := 0) (by show 2 * 0 + _ ≤ _; exact Nat.le_of_eq rfl) (by decide)
  refine Go.of (fun _ hr => st101 _ hr) ?_
  show Go p e s below _ _ _ _ T101 (mkF m 4 #[.val (.ref a1), .val (.ref a2), .val (.int (0 : Int32))] [])
  refine Go.of (fun _ hr => XS.aloadN X101.here hx rfl (hb hby d37_4) rfl rfl hr) ?_
  show Go p e s below _ _ _ _ T101 (mkF m 5 #[.val (.ref a1), .val (.ref a2), .val (.int (0 : Int32))] [(.ref a1)])
  refine Go.of (fun _ hr => XS.aloadN X101.here hx rfl (hb hby d37_5) rfl rfl hr) ?_
  show Go p e s below _ _ _ _ T101 (mkF m 6 #[.val (.ref a1), .val (.ref a2), .val (.int (0 : Int32))] [(.ref a2), (.ref a1)])
  obtain ⟨T102, h102, X102, e102, W102, st102⟩ := putF X101 hx hZ hown (host := "") (Or.inl (hw _ (List.mem_of_getElem? (i := 73) rfl))) Via.refl e101 F1 E1 (Or.inr ⟨(hw _ (List.mem_of_getElem? (i := 10) rfl)), rfl, hnm⟩) (hw _ (List.mem_of_getElem? (i := 8) rfl)) (ty := (.array .byte)) (by decide) rfl rfl (g := (mkF m 6 #[.val (.ref a1), .val (.ref a2), .val (.int (0 : Int32))] [(.ref a2), (.ref a1)])) rfl rfl (hb hby d37_6)
  have N102 := Fr.snoc X102 N0 fr_a1
  have J102 := J0.wr W102 hm_a1
  have B102 := B0.mono (Nat.le_of_eq W102.size.symm)
  have O102 := O0.wr W102 (Nat.le_trans hb0 fr_a1)
  have K102 := K0.wr W102 (Or.inl (List.mem_of_getElem? (i := 0) rfl))
  have Fw102 := F1.same W102
  refine Go.of (fun _ hr => st102 _ hr) ?_
  show Go p e s below _ _ _ _ T102 (mkF m 9 #[.val (.ref a1), .val (.ref a2), .val (.int (0 : Int32))] [])
  refine Go.of (fun _ hr => XS.aloadN X102.here hx rfl (hb hby d37_9) rfl rfl hr) ?_
  show Go p e s below _ _ _ _ T102 (mkF m 10 #[.val (.ref a1), .val (.ref a2), .val (.int (0 : Int32))] [(.ref a1)])
  refine Go.of (fun _ hr => XS.iloadN X102.here hx rfl (hb hby d37_10) rfl  hr) ?_
  show Go p e s below _ _ _ _ T102 (mkF m 11 #[.val (.ref a1), .val (.ref a2), .val (.int (0 : Int32))] [(.int (0 : Int32)), (.ref a1)])
  have f104 := (F2.other W102 (Or.inr (slot_ne (Or.inr (hw _ (List.mem_of_getElem? (i := 11) rfl))) (Or.inr (hw _ (List.mem_of_getElem? (i := 10) rfl))) (by decide) (t := .byte) (t' := (.array .byte)) (by decide) (by decide))))
  have f105 := (E1.wr W102)
  obtain ⟨T103, h103, X103, e103, W103, st103⟩ := putFN X102 hx hZ hown (hw _ (List.mem_of_getElem? (i := 80) rfl)) Via.refl e102 f104 f105 (Or.inr ⟨(hw _ (List.mem_of_getElem? (i := 11) rfl)), rfl, hnm⟩) (hw _ (List.mem_of_getElem? (i := 8) rfl)) (ty := .byte) (v := (.int (0 : Int32))) (v' := (.int (0 : Int32))) (by decide) rfl rfl (g := (mkF m 11 #[.val (.ref a1), .val (.ref a2), .val (.int (0 : Int32))] [(.int (0 : Int32)), (.ref a1)])) rfl rfl (hb hby d37_11)
  have N103 := Fr.snoc X103 N102 fr_a1
  have J103 := J102.wr W103 hm_a1
  have B103 := B102.mono (Nat.le_of_eq W103.size.symm)
  have O103 := O102.wr W103 (Nat.le_trans hb0 fr_a1)
  have K103 := K102.wr W103 (Or.inl (List.mem_of_getElem? (i := 0) rfl))
  have Fw103 := f104.same W103
  refine Go.of (fun _ hr => st103 _ hr) ?_
  show Go p e s below _ _ _ _ T103 (mkF m 14 #[.val (.ref a1), .val (.ref a2), .val (.int (0 : Int32))] [])
  have f106 := (Fw102.other W103 (Or.inr (slot_ne (Or.inr (hw _ (List.mem_of_getElem? (i := 10) rfl))) (Or.inr (hw _ (List.mem_of_getElem? (i := 11) rfl))) (by decide) (t := (.array .byte)) (t' := .byte) (by decide) (by decide))))
  exact Go.retV X103 hx hlk B103 J103 e103 hret (hb hby d37_14) (by decide) (by decide) (fun vm_ hw_ => ⟨rfl, N103, K103, f106, Fw103⟩)

set_option maxRecDepth 65536 in
set_option maxHeartbeats 40000000 in
theorem rmU37 (l : Launch) (Z : State) (a0 : Array Value) (hw : ∀ d ∈ tables_1, d.before a0 Z = true) (ws : List Jvm.Cond) (a1 a2 : Addr) (u1 u2 : Value) (ms : List Addr) (h0 : Heap) (n0 : Nat) (O0 : Old Z n0 h0) (nb : Nat) (hb0 : n0 ≤ nb) (hnb : nb ≤ h0.size) (fr_a1 : nb ≤ a1) (hm_a1 : a1 ∈ ms) (E1 : Exa Z h0 a1 "java/lang/String") (F1 : Fld Z h0 a1 "java/lang/String" "value" "[B" u1) (F2 : Fld Z h0 a1 "java/lang/String" "coder" "B" u2) :
    Con l Z ms (⟨"java/lang/String", "<init>", "([BB)V"⟩ : MethodName) jdk_42_method_151_code 3 none ws ({ frames := 1, cells := 0, slots := 0, locals := 12 } : Room) #[(.ref a1), (.ref a2), (.int (1 : Int32))] h0 (fun v vm h L => v = none ∧ Fr nb L ∧ Keep h0 h [a1] ∧ Fld Z h a1 "java/lang/String" "value" "[B" (.ref a2) ∧ Fld Z h a1 "java/lang/String" "coder" "B" (.int 1)) := by
  refine Con.mk (plainFor_of_name pn1) ?_
  intro p e s m below meth c s₁ Cc X0 e0 eb J0 B0 M0
  obtain ⟨hx, hZ, hown, hby, hml, hnm, hret, hlk⟩ := id Cc
  have N0 := Fr.nil nb
  have K0 := Keep.refl h0 [a1]
  show Go p e s below _ _ _ _ s₁ (mkF m 0 #[.val (.ref a1), .val (.ref a2), .val (.int (1 : Int32))] [])
  refine Go.of (fun _ hr => XS.aloadN X0.here hx rfl (hb hby d37_0) rfl rfl hr) ?_
  show Go p e s below _ _ _ _ s₁ (mkF m 1 #[.val (.ref a1), .val (.ref a2), .val (.int (1 : Int32))] [(.ref a1)])
  obtain ⟨T101, X101, e101, st101⟩ := initO X0 hx hZ hown (hw _ (List.mem_of_getElem? (i := 121) rfl)) (hw _ (List.mem_of_getElem? (i := 21) rfl)) (hw _ (List.mem_of_getElem? (i := 22) rfl)) e0 (g := (mkF m 1 #[.val (.ref a1), .val (.ref a2), .val (.int (1 : Int32))] [(.ref a1)])) rfl (by rw [hml]; rfl) rfl (hb hby d37_1) (by decide) (W := 0) (by show 2 * 0 + _ ≤ _; exact Nat.le_of_eq rfl) (by decide)
  refine Go.of (fun _ hr => st101 _ hr) ?_
  show Go p e s below _ _ _ _ T101 (mkF m 4 #[.val (.ref a1), .val (.ref a2), .val (.int (1 : Int32))] [])
  refine Go.of (fun _ hr => XS.aloadN X101.here hx rfl (hb hby d37_4) rfl rfl hr) ?_
  show Go p e s below _ _ _ _ T101 (mkF m 5 #[.val (.ref a1), .val (.ref a2), .val (.int (1 : Int32))] [(.ref a1)])
  refine Go.of (fun _ hr => XS.aloadN X101.here hx rfl (hb hby d37_5) rfl rfl hr) ?_
  show Go p e s below _ _ _ _ T101 (mkF m 6 #[.val (.ref a1), .val (.ref a2), .val (.int (1 : Int32))] [(.ref a2), (.ref a1)])
  obtain ⟨T102, h102, X102, e102, W102, st102⟩ := putF X101 hx hZ hown (host := "") (Or.inl (hw _ (List.mem_of_getElem? (i := 73) rfl))) Via.refl e101 F1 E1 (Or.inr ⟨(hw _ (List.mem_of_getElem? (i := 10) rfl)), rfl, hnm⟩) (hw _ (List.mem_of_getElem? (i := 8) rfl)) (ty := (.array .byte)) (by decide) rfl rfl (g := (mkF m 6 #[.val (.ref a1), .val (.ref a2), .val (.int (1 : Int32))] [(.ref a2), (.ref a1)])) rfl rfl (hb hby d37_6)
  have N102 := Fr.snoc X102 N0 fr_a1
  have J102 := J0.wr W102 hm_a1
  have B102 := B0.mono (Nat.le_of_eq W102.size.symm)
  have O102 := O0.wr W102 (Nat.le_trans hb0 fr_a1)
  have K102 := K0.wr W102 (Or.inl (List.mem_of_getElem? (i := 0) rfl))
  have Fw102 := F1.same W102
  refine Go.of (fun _ hr => st102 _ hr) ?_
  show Go p e s below _ _ _ _ T102 (mkF m 9 #[.val (.ref a1), .val (.ref a2), .val (.int (1 : Int32))] [])
  refine Go.of (fun _ hr => XS.aloadN X102.here hx rfl (hb hby d37_9) rfl rfl hr) ?_
  show Go p e s below _ _ _ _ T102 (mkF m 10 #[.val (.ref a1), .val (.ref a2), .val (.int (1 : Int32))] [(.ref a1)])
  refine Go.of (fun _ hr => XS.iloadN X102.here hx rfl (hb hby d37_10) rfl  hr) ?_
  show Go p e s below _ _ _ _ T102 (mkF m 11 #[.val (.ref a1), .val (.ref a2), .val (.int (1 : Int32))] [(.int (1 : Int32)), (.ref a1)])
  have f104 := (F2.other W102 (Or.inr (slot_ne (Or.inr (hw _ (List.mem_of_getElem? (i := 11) rfl))) (Or.inr (hw _ (List.mem_of_getElem? (i := 10) rfl))) (by decide) (t := .byte) (t' := (.array .byte)) (by decide) (by decide))))
  have f105 := (E1.wr W102)
  obtain ⟨T103, h103, X103, e103, W103, st103⟩ := putFN X102 hx hZ hown (hw _ (List.mem_of_getElem? (i := 80) rfl)) Via.refl e102 f104 f105 (Or.inr ⟨(hw _ (List.mem_of_getElem? (i := 11) rfl)), rfl, hnm⟩) (hw _ (List.mem_of_getElem? (i := 8) rfl)) (ty := .byte) (v := (.int (1 : Int32))) (v' := (.int (1 : Int32))) (by decide) rfl rfl (g := (mkF m 11 #[.val (.ref a1), .val (.ref a2), .val (.int (1 : Int32))] [(.int (1 : Int32)), (.ref a1)])) rfl rfl (hb hby d37_11)
  have N103 := Fr.snoc X103 N102 fr_a1
  have J103 := J102.wr W103 hm_a1
  have B103 := B102.mono (Nat.le_of_eq W103.size.symm)
  have O103 := O102.wr W103 (Nat.le_trans hb0 fr_a1)
  have K103 := K102.wr W103 (Or.inl (List.mem_of_getElem? (i := 0) rfl))
  have Fw103 := f104.same W103
  refine Go.of (fun _ hr => st103 _ hr) ?_
  show Go p e s below _ _ _ _ T103 (mkF m 14 #[.val (.ref a1), .val (.ref a2), .val (.int (1 : Int32))] [])
  have f106 := (Fw102.other W103 (Or.inr (slot_ne (Or.inr (hw _ (List.mem_of_getElem? (i := 10) rfl))) (Or.inr (hw _ (List.mem_of_getElem? (i := 11) rfl))) (by decide) (t := (.array .byte)) (t' := .byte) (by decide) (by decide))))
  exact Go.retV X103 hx hlk B103 J103 e103 hret (hb hby d37_14) (by decide) (by decide) (fun vm_ hw_ => ⟨rfl, N103, K103, f106, Fw103⟩)

theorem d34_0 : decode jdk_42_method_139_code 0 = .ok (.getstatic 38, 3) := by decide +kernel
theorem d34_3 : decode jdk_42_method_139_code 3 = .ok (.ifCond .eq 23, 3) := by decide +kernel
theorem d34_6 : decode jdk_42_method_139_code 6 = .ok (.iload_n 0, 1) := by decide +kernel
theorem d34_7 : decode jdk_42_method_139_code 7 = .ok (.invokestatic 1015, 3) := by decide +kernel
theorem pd14 : parseMethodDescriptor "(C)Z" = some ⟨[.char], some .boolean⟩ := by decide +kernel
theorem d34_10 : decode jdk_42_method_139_code 10 = .ok (.ifCond .eq 16, 3) := by decide +kernel
theorem d34_26 : decode jdk_42_method_139_code 26 = .ok (.new 10, 3) := by decide +kernel
theorem d34_29 : decode jdk_42_method_139_code 29 = .ok (.dup, 1) := by decide +kernel
theorem d34_30 : decode jdk_42_method_139_code 30 = .ok (.iload_n 0, 1) := by decide +kernel
theorem d34_31 : decode jdk_42_method_139_code 31 = .ok (.invokestatic 1021, 3) := by decide +kernel
theorem pd15 : parseMethodDescriptor "(C)[B" = some ⟨[.char], some (.array .byte)⟩ := by decide +kernel
theorem d34_34 : decode jdk_42_method_139_code 34 = .ok (.iconst 1, 1) := by decide +kernel
theorem d34_35 : decode jdk_42_method_139_code 35 = .ok (.invokespecial 209, 3) := by decide +kernel
theorem pd16 : parseMethodDescriptor "([BB)V" = some ⟨[(.array .byte), .byte], none⟩ := by decide +kernel
theorem d34_38 : decode jdk_42_method_139_code 38 = .ok (.areturn, 1) := by decide +kernel
theorem d34_13 : decode jdk_42_method_139_code 13 = .ok (.new 10, 3) := by decide +kernel
theorem d34_16 : decode jdk_42_method_139_code 16 = .ok (.dup, 1) := by decide +kernel
theorem d34_17 : decode jdk_42_method_139_code 17 = .ok (.iload_n 0, 1) := by decide +kernel
theorem d34_18 : decode jdk_42_method_139_code 18 = .ok (.invokestatic 1018, 3) := by decide +kernel
theorem d34_21 : decode jdk_42_method_139_code 21 = .ok (.iconst 0, 1) := by decide +kernel
theorem d34_22 : decode jdk_42_method_139_code 22 = .ok (.invokespecial 209, 3) := by decide +kernel
theorem d34_25 : decode jdk_42_method_139_code 25 = .ok (.areturn, 1) := by decide +kernel
set_option maxRecDepth 65536 in
set_option maxHeartbeats 40000000 in
theorem rm34 (l : Launch) (Z : State) (a0 : Array Value) (hw : ∀ d ∈ tables_1, d.before a0 Z = true) (ws : List Jvm.Cond) (c1 : Int32) (zc : Int32) (ms : List Addr) (h0 : Heap) (n0 : Nat) (O0 : Old Z n0 h0) (nb : Nat) (hb0 : n0 ≤ nb) (hnb : nb ≤ h0.size) (S_D : Sta Z Z.heap "java/lang/StringUTF16" "$assertionsDisabled" "Z" (.int 1)) (S_H : Sta Z Z.heap "java/lang/StringUTF16" "HI_BYTE_SHIFT" "I" (.int 0)) (S_L : Sta Z Z.heap "java/lang/StringUTF16" "LO_BYTE_SHIFT" "I" (.int 8)) (S_C : Sta Z Z.heap "java/lang/String" "COMPACT_STRINGS" "Z" (.int zc)) (hzc : ¬ zc = 0) :
    Con l Z ms (⟨"java/lang/String", "valueOf", "(C)Ljava/lang/String;"⟩ : MethodName) jdk_42_method_139_code 1 (some (.object "java/lang/String")) ws ({ frames := 2, cells := 2, slots := 6, locals := 29 } : Room) #[(.int c1)] h0 (fun v vm h L => ∃ r t k cd bb, v = some (.ref r) ∧ Fr nb L ∧ Ext h0 h ∧ h0.size ≤ r ∧ h0.size ≤ t ∧ Exa Z h r "java/lang/String" ∧ Fld Z h r "java/lang/String" "value" "[B" (.ref t) ∧ Fld Z h r "java/lang/String" "coder" "B" (.int cd) ∧ StrOf [c1] cd bb ∧ Arv Z h t k .byte (Int32.ofNat bb.length) (bb.map Value.int) (.int 0)) := by
  by_cases hq : 255 < c1
  · refine Con.mk (plainFor_of_name pn1) ?_
    intro p e s m below meth c s₁ Cc X0 e0 eb J0 B0 M0
    obtain ⟨hx, hZ, hown, hby, hml, hnm, hret, hlk⟩ := id Cc
    have N0 := Fr.nil h0.size
    have K0 := Keep.refl h0 []
    show Go p e s below _ _ _ _ s₁ (mkF m 0 #[.val (.int c1)] [])
    obtain ⟨T101, X101, e101, st101⟩ := getS2 X0 hx hZ hown (host := "") (Or.inl (hw _ (List.mem_of_getElem? (i := 79) rfl))) Via.refl e0 (S_C.ext O0.2) (g := (mkF m 0 #[.val (.int c1)] [])) rfl (hb hby d34_0)
    refine Go.of (fun _ hr => st101 _ hr) ?_
    show Go p e s below _ _ _ _ T101 (mkF m 3 #[.val (.int c1)] [(.int zc)])
    refine Go.of (fun _ hr => XS.ifNo X101.here hx rfl (hb hby d34_3) rfl ((if0 _ _).trans (feq hzc).1) hr) ?_
    show Go p e s below _ _ _ _ T101 (mkF m 6 #[.val (.int c1)] [])
    refine Go.of (fun _ hr => XS.iloadN X101.here hx rfl (hb hby d34_6) rfl  hr) ?_
    show Go p e s below _ _ _ _ T101 (mkF m 7 #[.val (.int c1)] [(.int c1)])
    obtain ⟨_, b102, T102, h102, L102, e102, Cc102, X102, B102, J102, g102, hQ102, st102⟩ := own_callS Cc B0 J0 X101 (hw _ (List.mem_of_getElem? (i := 187) rfl)) (hw _ (List.mem_of_getElem? (i := 188) rfl)) (hw _ (List.mem_of_getElem? (i := 171) rfl)) (hw _ (List.mem_of_getElem? (i := 189) rfl)) (by decide) (rmU35 l Z a0 hw [] c1 _ h0 n0 O0 h0.size (own_ole O0) K0.1 hq) e101 (g := (mkF m 7 #[.val (.int c1)] [(.int c1)])) rfl (by rw [hml]; rfl) (argsL := [(.int c1)]) (rest := []) (lenOf pd14 rfl) rfl (W := 0) (by show 2 * 0 + _ ≤ _; exact Nat.le_of_eq rfl) (hb hby d34_7) (by decide) (by decide) (by decide) (by decide)
    obtain ⟨rfl, Nq102, hh102⟩ := hQ102
    have N102 := Fr.app N0 Nq102
    obtain ⟨hx, hZ, hown, hby, hml, hnm, hret, hlk⟩ := id Cc102
    rw [hh102] at e102 B102 J102
    refine Go.of st102 ?_
    show Go p e s below _ _ _ _ T102 (mkF m 10 #[.val (.int c1)] [(.int (0 : Int32))])
    refine Go.of (fun _ hr => XS.ifYes X102.here hx rfl (pc0 := 10) (pc' := 26) rfl (hb hby d34_10) rfl ((if0 _ _).trans (teq (by decide : ((0 : Int32) = (0 : Int32)))).1) (by decide) (by decide) hr) ?_
    show Go p e s below _ _ _ _ T102 (mkF m 26 #[.val (.int c1)] [])
    obtain ⟨T103, h103, X103, e103, E103, A103, D103, -, st103⟩ := newO X102 hx hZ hown (hw _ (List.mem_of_getElem? (i := 190) rfl)) (hw _ (List.mem_of_getElem? (i := 8) rfl)) (hw _ (List.mem_of_getElem? (i := 7) rfl)) e102 (g := (mkF m 26 #[.val (.int c1)] [])) rfl (hb hby d34_26) (by decide) (by decide)
    obtain ⟨o103, g103⟩ : ∃ z, z = h0.size := ⟨_, rfl⟩
    rw [← g103] at A103 D103 st103
    have lt103 : o103 < h103.size := A103.lt
    have J103 := J102.add E103 g103 lt103
    have B103 := B102.mono E103.1
    have O103 := O0.ext E103
    have sz103 : h0.size ≤ o103 := Nat.le_trans K0.1 (Nat.le_of_eq g103.symm)
    have fr103 : h0.size ≤ o103 := sz103
    have K103 := K0.ext E103
    have F103_value : Fld Z h103 o103 "java/lang/String" "value" "[B" .null := D103 (Or.inr (hw _ (List.mem_of_getElem? (i := 10) rfl))) (ty := (.array .byte)) (by decide)
    have F103_coder : Fld Z h103 o103 "java/lang/String" "coder" "B" (.int (0 : Int32)) := D103 (Or.inr (hw _ (List.mem_of_getElem? (i := 11) rfl))) (ty := .byte) (by decide)
    refine Go.of (fun _ hr => st103 _ hr) ?_
    show Go p e s below _ _ _ _ T103 (mkF m 29 #[.val (.int c1)] [(.ref o103)])
    refine Go.of (fun _ hr => XS.dup X103.here hx rfl (hb hby d34_29) rfl rfl hr) ?_
    show Go p e s below _ _ _ _ T103 (mkF m 30 #[.val (.int c1)] [(.ref o103), (.ref o103)])
    refine Go.of (fun _ hr => XS.iloadN X103.here hx rfl (hb hby d34_30) rfl  hr) ?_
    show Go p e s below _ _ _ _ T103 (mkF m 31 #[.val (.int c1)] [(.int c1), (.ref o103), (.ref o103)])
    obtain ⟨_, b104, T104, h104, L104, e104, Cc104, X104, B104, J104, g104, hQ104, st104⟩ := own_callS Cc102 B103 J103 X103 (hw _ (List.mem_of_getElem? (i := 197) rfl)) (hw _ (List.mem_of_getElem? (i := 198) rfl)) (hw _ (List.mem_of_getElem? (i := 199) rfl)) (hw _ (List.mem_of_getElem? (i := 200) rfl)) (by decide) (rm38 l Z a0 hw [] c1 _ h103 n0 O103 h0.size (own_ole O0) K103.1 S_D S_H S_L) e103 (g := (mkF m 31 #[.val (.int c1)] [(.int c1), (.ref o103), (.ref o103)])) rfl (by rw [hml]; rfl) (argsL := [(.int c1)]) (rest := [(.ref o103), (.ref o103)]) (lenOf pd15 rfl) rfl (W := 2) (by show 2 * 0 + _ ≤ _; exact Nat.le_of_eq rfl) (hb hby d34_31) (by decide) (by decide) (by decide) (by decide)
    obtain ⟨r104, kr104, rfl, Nq104, Eq104, R_r104, Vr104⟩ := hQ104
    have N104 := Fr.app N102 Nq104
    obtain ⟨hx, hZ, hown, hby, hml, hnm, hret, hlk⟩ := id Cc104
    have sz_r104 : h0.size ≤ r104 := Nat.le_trans K103.1 R_r104
    have fr_r104 : h0.size ≤ r104 := sz_r104
    have ne_o103_r104 : o103 ≠ r104 := Nat.ne_of_lt (Nat.lt_of_lt_of_le A103.lt R_r104)
    have K104 := K103.ext Eq104
    have O104 := O103.ext Eq104
    refine Go.of st104 ?_
    show Go p e s below _ _ _ _ T104 (mkF m 34 #[.val (.int c1)] [(.ref r104), (.ref o103), (.ref o103)])
    refine Go.of (fun _ hr => XS.iconst X104.here hx rfl (hb hby d34_34) hr) ?_
    show Go p e s below _ _ _ _ T104 (mkF m 35 #[.val (.int c1)] [(.int (1 : Int32)), (.ref r104), (.ref o103), (.ref o103)])
    have f106 := (A103.ext Eq104)
    have f107 := (F103_value.ext Eq104)
    have f108 := (F103_coder.ext Eq104)
    obtain ⟨_, b105, T105, h105, L105, e105, Cc105, X105, B105, J105, g105, hQ105, st105⟩ := own_callI Cc104 B104 J104 X104 rfl (hw _ (List.mem_of_getElem? (i := 194) rfl)) (hw _ (List.mem_of_getElem? (i := 195) rfl)) (hw _ (List.mem_of_getElem? (i := 7) rfl)) (hw _ (List.mem_of_getElem? (i := 196) rfl)) (by decide) (rmU37 l Z a0 hw [] o103 r104 _ _ _ h104 n0 O104 h0.size (own_ole O0) K104.1 fr103 (List.mem_cons_self ..) f106 f107 f108) e104 (g := (mkF m 35 #[.val (.int c1)] [(.int (1 : Int32)), (.ref r104), (.ref o103), (.ref o103)])) rfl (by rw [hml]; rfl) (argsL := [(.ref r104), (.int (1 : Int32))]) (rest := [(.ref o103)]) (lenOf pd16 rfl) rfl (W := 1) (by show 2 * 0 + _ ≤ _; exact Nat.le_of_eq rfl) (hb hby d34_35) (by decide) (by decide) (by decide) (by decide)
    obtain ⟨rfl, Nq105, Kq105, Fv105, Fc105⟩ := hQ105
    have N105 := Fr.app N104 Nq105
    obtain ⟨hx, hZ, hown, hby, hml, hnm, hret, hlk⟩ := id Cc105
    have K105 := K104.trans Kq105 (allS (Or.inr sz103) all0)
    have O105 := O104.keep Kq105 (allS (Nat.le_trans (own_ole O0) fr103) all0)
    refine Go.of st105 ?_
    show Go p e s below _ _ _ _ T105 (mkF m 38 #[.val (.int c1)] [(.ref o103)])
    have f109 := (f106.keep Kq105)
    have f110 := (Vr104.keep Kq105 (ninS (Ne.symm ne_o103_r104) nin0))
    exact Go.retA X105 hx hlk B105 (J105.sub fun x hx => (List.mem_cons_of_mem _ hx)) e105 hret rfl rfl (hb hby d34_38) (by decide) (by decide) (fun vm_ hw_ => ⟨_, _, _, 1, (utf [c1]), rfl, (fun y hy => Nat.le_trans hnb (N105 y hy)), keep_ext K105, sz103, sz_r104, f109, Fv105, Fc105, Or.inr ⟨rfl, rfl⟩, f110⟩)
  · refine Con.mk (plainFor_of_name pn1) ?_
    intro p e s m below meth c s₁ Cc X0 e0 eb J0 B0 M0
    obtain ⟨hx, hZ, hown, hby, hml, hnm, hret, hlk⟩ := id Cc
    have N0 := Fr.nil h0.size
    have K0 := Keep.refl h0 []
    show Go p e s below _ _ _ _ s₁ (mkF m 0 #[.val (.int c1)] [])
    obtain ⟨T101, X101, e101, st101⟩ := getS2 X0 hx hZ hown (host := "") (Or.inl (hw _ (List.mem_of_getElem? (i := 79) rfl))) Via.refl e0 (S_C.ext O0.2) (g := (mkF m 0 #[.val (.int c1)] [])) rfl (hb hby d34_0)
    refine Go.of (fun _ hr => st101 _ hr) ?_
    show Go p e s below _ _ _ _ T101 (mkF m 3 #[.val (.int c1)] [(.int zc)])
    refine Go.of (fun _ hr => XS.ifNo X101.here hx rfl (hb hby d34_3) rfl ((if0 _ _).trans (feq hzc).1) hr) ?_
    show Go p e s below _ _ _ _ T101 (mkF m 6 #[.val (.int c1)] [])
    refine Go.of (fun _ hr => XS.iloadN X101.here hx rfl (hb hby d34_6) rfl  hr) ?_
    show Go p e s below _ _ _ _ T101 (mkF m 7 #[.val (.int c1)] [(.int c1)])
    obtain ⟨_, b102, T102, h102, L102, e102, Cc102, X102, B102, J102, g102, hQ102, st102⟩ := own_callS Cc B0 J0 X101 (hw _ (List.mem_of_getElem? (i := 187) rfl)) (hw _ (List.mem_of_getElem? (i := 188) rfl)) (hw _ (List.mem_of_getElem? (i := 171) rfl)) (hw _ (List.mem_of_getElem? (i := 189) rfl)) (by decide) (rm35 l Z a0 hw [] c1 _ h0 n0 O0 h0.size (own_ole O0) K0.1 hq) e101 (g := (mkF m 7 #[.val (.int c1)] [(.int c1)])) rfl (by rw [hml]; rfl) (argsL := [(.int c1)]) (rest := []) (lenOf pd14 rfl) rfl (W := 0) (by show 2 * 0 + _ ≤ _; exact Nat.le_of_eq rfl) (hb hby d34_7) (by decide) (by decide) (by decide) (by decide)
    obtain ⟨rfl, Nq102, hh102⟩ := hQ102
    have N102 := Fr.app N0 Nq102
    obtain ⟨hx, hZ, hown, hby, hml, hnm, hret, hlk⟩ := id Cc102
    rw [hh102] at e102 B102 J102
    refine Go.of st102 ?_
    show Go p e s below _ _ _ _ T102 (mkF m 10 #[.val (.int c1)] [(.int (1 : Int32))])
    refine Go.of (fun _ hr => XS.ifNo X102.here hx rfl (hb hby d34_10) rfl ((if0 _ _).trans (feq (by decide : ¬ ((1 : Int32) = (0 : Int32)))).1) hr) ?_
    show Go p e s below _ _ _ _ T102 (mkF m 13 #[.val (.int c1)] [])
    obtain ⟨T103, h103, X103, e103, E103, A103, D103, -, st103⟩ := newO X102 hx hZ hown (hw _ (List.mem_of_getElem? (i := 190) rfl)) (hw _ (List.mem_of_getElem? (i := 8) rfl)) (hw _ (List.mem_of_getElem? (i := 7) rfl)) e102 (g := (mkF m 13 #[.val (.int c1)] [])) rfl (hb hby d34_13) (by decide) (by decide)
    obtain ⟨o103, g103⟩ : ∃ z, z = h0.size := ⟨_, rfl⟩
    rw [← g103] at A103 D103 st103
    have lt103 : o103 < h103.size := A103.lt
    have J103 := J102.add E103 g103 lt103
    have B103 := B102.mono E103.1
    have O103 := O0.ext E103
    have sz103 : h0.size ≤ o103 := Nat.le_trans K0.1 (Nat.le_of_eq g103.symm)
    have fr103 : h0.size ≤ o103 := sz103
    have K103 := K0.ext E103
    have F103_value : Fld Z h103 o103 "java/lang/String" "value" "[B" .null := D103 (Or.inr (hw _ (List.mem_of_getElem? (i := 10) rfl))) (ty := (.array .byte)) (by decide)
    have F103_coder : Fld Z h103 o103 "java/lang/String" "coder" "B" (.int (0 : Int32)) := D103 (Or.inr (hw _ (List.mem_of_getElem? (i := 11) rfl))) (ty := .byte) (by decide)
    refine Go.of (fun _ hr => st103 _ hr) ?_
    show Go p e s below _ _ _ _ T103 (mkF m 16 #[.val (.int c1)] [(.ref o103)])
    refine Go.of (fun _ hr => XS.dup X103.here hx rfl (hb hby d34_16) rfl rfl hr) ?_
    show Go p e s below _ _ _ _ T103 (mkF m 17 #[.val (.int c1)] [(.ref o103), (.ref o103)])
    refine Go.of (fun _ hr => XS.iloadN X103.here hx rfl (hb hby d34_17) rfl  hr) ?_
    show Go p e s below _ _ _ _ T103 (mkF m 18 #[.val (.int c1)] [(.int c1), (.ref o103), (.ref o103)])
    obtain ⟨_, b104, T104, h104, L104, e104, Cc104, X104, B104, J104, g104, hQ104, st104⟩ := own_callS Cc102 B103 J103 X103 (hw _ (List.mem_of_getElem? (i := 191) rfl)) (hw _ (List.mem_of_getElem? (i := 192) rfl)) (hw _ (List.mem_of_getElem? (i := 171) rfl)) (hw _ (List.mem_of_getElem? (i := 193) rfl)) (by decide) (rm36 l Z a0 hw [] c1 _ h103 n0 O103 h0.size (own_ole O0) K103.1) e103 (g := (mkF m 18 #[.val (.int c1)] [(.int c1), (.ref o103), (.ref o103)])) rfl (by rw [hml]; rfl) (argsL := [(.int c1)]) (rest := [(.ref o103), (.ref o103)]) (lenOf pd15 rfl) rfl (W := 2) (by show 2 * 0 + _ ≤ _; exact Nat.le_of_eq rfl) (hb hby d34_18) (by decide) (by decide) (by decide) (by decide)
    obtain ⟨r104, kr104, rfl, Nq104, Eq104, R_r104, Vr104⟩ := hQ104
    have N104 := Fr.app N102 Nq104
    obtain ⟨hx, hZ, hown, hby, hml, hnm, hret, hlk⟩ := id Cc104
    have sz_r104 : h0.size ≤ r104 := Nat.le_trans K103.1 R_r104
    have fr_r104 : h0.size ≤ r104 := sz_r104
    have ne_o103_r104 : o103 ≠ r104 := Nat.ne_of_lt (Nat.lt_of_lt_of_le A103.lt R_r104)
    have K104 := K103.ext Eq104
    have O104 := O103.ext Eq104
    refine Go.of st104 ?_
    show Go p e s below _ _ _ _ T104 (mkF m 21 #[.val (.int c1)] [(.ref r104), (.ref o103), (.ref o103)])
    refine Go.of (fun _ hr => XS.iconst X104.here hx rfl (hb hby d34_21) hr) ?_
    show Go p e s below _ _ _ _ T104 (mkF m 22 #[.val (.int c1)] [(.int (0 : Int32)), (.ref r104), (.ref o103), (.ref o103)])
    have f106 := (A103.ext Eq104)
    have f107 := (F103_value.ext Eq104)
    have f108 := (F103_coder.ext Eq104)
    obtain ⟨_, b105, T105, h105, L105, e105, Cc105, X105, B105, J105, g105, hQ105, st105⟩ := own_callI Cc104 B104 J104 X104 rfl (hw _ (List.mem_of_getElem? (i := 194) rfl)) (hw _ (List.mem_of_getElem? (i := 195) rfl)) (hw _ (List.mem_of_getElem? (i := 7) rfl)) (hw _ (List.mem_of_getElem? (i := 196) rfl)) (by decide) (rm37 l Z a0 hw [] o103 r104 _ _ _ h104 n0 O104 h0.size (own_ole O0) K104.1 fr103 (List.mem_cons_self ..) f106 f107 f108) e104 (g := (mkF m 22 #[.val (.int c1)] [(.int (0 : Int32)), (.ref r104), (.ref o103), (.ref o103)])) rfl (by rw [hml]; rfl) (argsL := [(.ref r104), (.int (0 : Int32))]) (rest := [(.ref o103)]) (lenOf pd16 rfl) rfl (W := 1) (by show 2 * 0 + _ ≤ _; exact Nat.le_of_eq rfl) (hb hby d34_22) (by decide) (by decide) (by decide) (by decide)
    obtain ⟨rfl, Nq105, Kq105, Fv105, Fc105⟩ := hQ105
    have N105 := Fr.app N104 Nq105
    obtain ⟨hx, hZ, hown, hby, hml, hnm, hret, hlk⟩ := id Cc105
    have K105 := K104.trans Kq105 (allS (Or.inr sz103) all0)
    have O105 := O104.keep Kq105 (allS (Nat.le_trans (own_ole O0) fr103) all0)
    refine Go.of st105 ?_
    show Go p e s below _ _ _ _ T105 (mkF m 25 #[.val (.int c1)] [(.ref o103)])
    have f109 := (f106.keep Kq105)
    have f110 := (Vr104.keep Kq105 (ninS (Ne.symm ne_o103_r104) nin0))
    exact Go.retA X105 hx hlk B105 (J105.sub fun x hx => (List.mem_cons_of_mem _ hx)) e105 hret rfl rfl (hb hby d34_25) (by decide) (by decide) (fun vm_ hw_ => ⟨_, _, _, 0, [lo8 c1], rfl, (fun y hy => Nat.le_trans hnb (N105 y hy)), keep_ext K105, sz103, sz_r104, f109, Fv105, Fc105, Or.inl ⟨rfl, rfl, fun x hx => by cases List.mem_singleton.mp hx; exact hq⟩, f110⟩)

theorem d48_0 : decode jdk_41_method_13_code 0 = .ok (.iload_n 2, 1) := by decide +kernel
theorem d48_1 : decode jdk_41_method_13_code 1 = .ok (.iload_n 0, 1) := by decide +kernel
theorem d48_2 : decode jdk_41_method_13_code 2 = .ok (.ior, 1) := by decide +kernel
theorem d48_3 : decode jdk_41_method_13_code 3 = .ok (.iload_n 1, 1) := by decide +kernel
theorem d48_4 : decode jdk_41_method_13_code 4 = .ok (.ior, 1) := by decide +kernel
theorem d48_5 : decode jdk_41_method_13_code 5 = .ok (.ifCond .lt 10, 3) := by decide +kernel
theorem d48_8 : decode jdk_41_method_13_code 8 = .ok (.iload_n 1, 1) := by decide +kernel
theorem d48_9 : decode jdk_41_method_13_code 9 = .ok (.iload_n 2, 1) := by decide +kernel
theorem d48_10 : decode jdk_41_method_13_code 10 = .ok (.iload_n 0, 1) := by decide +kernel
theorem d48_11 : decode jdk_41_method_13_code 11 = .ok (.isub, 1) := by decide +kernel
theorem d48_12 : decode jdk_41_method_13_code 12 = .ok (.if_icmp .le 11, 3) := by decide +kernel
theorem d48_23 : decode jdk_41_method_13_code 23 = .ok (.iload_n 0, 1) := by decide +kernel
theorem d48_24 : decode jdk_41_method_13_code 24 = .ok (.ireturn, 1) := by decide +kernel
set_option maxRecDepth 65536 in
set_option maxHeartbeats 40000000 in
theorem rm48 (l : Launch) (Z : State) (a0 : Array Value) (hw : ∀ d ∈ tables_1, d.before a0 Z = true) (ws : List Jvm.Cond) (i1 j1 q1 : Int32) (f1 : Value) (ms : List Addr) (h0 : Heap) (n0 : Nat) (O0 : Old Z n0 h0) (nb : Nat) (hb0 : n0 ≤ nb) (hnb : nb ≤ h0.size) (hfs : f1 = .null ∨ ∃ a, f1 = .ref a) (g1 : ¬ ((q1 ||| i1) ||| j1) < 0) (g2 : ¬ q1 - i1 < j1) :
    Con l Z ms (⟨"jdk/internal/util/Preconditions", "checkFromIndexSize", "(IIILjava/util/function/BiFunction;)I"⟩ : MethodName) jdk_41_method_13_code 4 (some .int) ws ({ frames := 0, cells := 0, slots := 0, locals := 0 } : Room) #[(.int i1), (.int j1), (.int q1), f1] h0 (fun v vm h L => v = some (.int i1) ∧ Fr nb L ∧ h = h0) := by
  rcases hfs with rfl | ⟨fa, rfl⟩
  · refine Con.mk (plainFor_of_name pn2) ?_
    intro p e s m below meth c s₁ Cc X0 e0 eb J0 B0 M0
    obtain ⟨hx, hZ, hown, hby, hml, hnm, hret, hlk⟩ := id Cc
    have N0 := Fr.nil h0.size
    have K0 := Keep.refl h0 []
    show Go p e s below _ _ _ _ s₁ (mkF m 0 #[.val (.int i1), .val (.int j1), .val (.int q1), .val _] [])
    refine Go.of (fun _ hr => XS.iloadN X0.here hx rfl (hb hby d48_0) rfl  hr) ?_
    show Go p e s below _ _ _ _ s₁ (mkF m 1 #[.val (.int i1), .val (.int j1), .val (.int q1), .val _] [(.int q1)])
    refine Go.of (fun _ hr => XS.iloadN X0.here hx rfl (hb hby d48_1) rfl  hr) ?_
    show Go p e s below _ _ _ _ s₁ (mkF m 2 #[.val (.int i1), .val (.int j1), .val (.int q1), .val _] [(.int i1), (.int q1)])
    refine Go.of (fun _ hr => XS.ior X0.here hx rfl (hb hby d48_2) rfl hr) ?_
    show Go p e s below _ _ _ _ s₁ (mkF m 3 #[.val (.int i1), .val (.int j1), .val (.int q1), .val _] [(.int (q1 ||| i1))])
    refine Go.of (fun _ hr => XS.iloadN X0.here hx rfl (hb hby d48_3) rfl  hr) ?_
    show Go p e s below _ _ _ _ s₁ (mkF m 4 #[.val (.int i1), .val (.int j1), .val (.int q1), .val _] [(.int j1), (.int (q1 ||| i1))])
    refine Go.of (fun _ hr => XS.ior X0.here hx rfl (hb hby d48_4) rfl hr) ?_
    show Go p e s below _ _ _ _ s₁ (mkF m 5 #[.val (.int i1), .val (.int j1), .val (.int q1), .val _] [(.int ((q1 ||| i1) ||| j1))])
    refine Go.of (fun _ hr => XS.ifNo X0.here hx rfl (hb hby d48_5) rfl ((if0 _ _).trans (flt g1).1) hr) ?_
    show Go p e s below _ _ _ _ s₁ (mkF m 8 #[.val (.int i1), .val (.int j1), .val (.int q1), .val _] [])
    refine Go.of (fun _ hr => XS.iloadN X0.here hx rfl (hb hby d48_8) rfl  hr) ?_
    show Go p e s below _ _ _ _ s₁ (mkF m 9 #[.val (.int i1), .val (.int j1), .val (.int q1), .val _] [(.int j1)])
    refine Go.of (fun _ hr => XS.iloadN X0.here hx rfl (hb hby d48_9) rfl  hr) ?_
    show Go p e s below _ _ _ _ s₁ (mkF m 10 #[.val (.int i1), .val (.int j1), .val (.int q1), .val _] [(.int q1), (.int j1)])
    refine Go.of (fun _ hr => XS.iloadN X0.here hx rfl (hb hby d48_10) rfl  hr) ?_
    show Go p e s below _ _ _ _ s₁ (mkF m 11 #[.val (.int i1), .val (.int j1), .val (.int q1), .val _] [(.int i1), (.int q1), (.int j1)])
    refine Go.of (fun _ hr => XS.isub X0.here hx rfl (hb hby d48_11) rfl hr) ?_
    show Go p e s below _ _ _ _ s₁ (mkF m 12 #[.val (.int i1), .val (.int j1), .val (.int q1), .val _] [(.int (q1 - i1)), (.int j1)])
    refine Go.of (fun _ hr => XS.icmpYes X0.here hx rfl (pc0 := 12) (pc' := 23) rfl (hb hby d48_12) rfl (flt g2).2.2.2 (by decide) (by decide) hr) ?_
    show Go p e s below _ _ _ _ s₁ (mkF m 23 #[.val (.int i1), .val (.int j1), .val (.int q1), .val _] [])
    refine Go.of (fun _ hr => XS.iloadN X0.here hx rfl (hb hby d48_23) rfl  hr) ?_
    show Go p e s below _ _ _ _ s₁ (mkF m 24 #[.val (.int i1), .val (.int j1), .val (.int q1), .val _] [(.int i1)])
    exact Go.retI X0 hx hlk B0 J0 e0 hret (hb hby d48_24) (by decide) (by decide) (fun vm_ hw_ => ⟨rfl, (fun y hy => Nat.le_trans hnb (N0 y hy)), rfl⟩)
  · refine Con.mk (plainFor_of_name pn2) ?_
    intro p e s m below meth c s₁ Cc X0 e0 eb J0 B0 M0
    obtain ⟨hx, hZ, hown, hby, hml, hnm, hret, hlk⟩ := id Cc
    have N0 := Fr.nil h0.size
    have K0 := Keep.refl h0 []
    show Go p e s below _ _ _ _ s₁ (mkF m 0 #[.val (.int i1), .val (.int j1), .val (.int q1), .val _] [])
    refine Go.of (fun _ hr => XS.iloadN X0.here hx rfl (hb hby d48_0) rfl  hr) ?_
    show Go p e s below _ _ _ _ s₁ (mkF m 1 #[.val (.int i1), .val (.int j1), .val (.int q1), .val _] [(.int q1)])
    refine Go.of (fun _ hr => XS.iloadN X0.here hx rfl (hb hby d48_1) rfl  hr) ?_
    show Go p e s below _ _ _ _ s₁ (mkF m 2 #[.val (.int i1), .val (.int j1), .val (.int q1), .val _] [(.int i1), (.int q1)])
    refine Go.of (fun _ hr => XS.ior X0.here hx rfl (hb hby d48_2) rfl hr) ?_
    show Go p e s below _ _ _ _ s₁ (mkF m 3 #[.val (.int i1), .val (.int j1), .val (.int q1), .val _] [(.int (q1 ||| i1))])
    refine Go.of (fun _ hr => XS.iloadN X0.here hx rfl (hb hby d48_3) rfl  hr) ?_
    show Go p e s below _ _ _ _ s₁ (mkF m 4 #[.val (.int i1), .val (.int j1), .val (.int q1), .val _] [(.int j1), (.int (q1 ||| i1))])
    refine Go.of (fun _ hr => XS.ior X0.here hx rfl (hb hby d48_4) rfl hr) ?_
    show Go p e s below _ _ _ _ s₁ (mkF m 5 #[.val (.int i1), .val (.int j1), .val (.int q1), .val _] [(.int ((q1 ||| i1) ||| j1))])
    refine Go.of (fun _ hr => XS.ifNo X0.here hx rfl (hb hby d48_5) rfl ((if0 _ _).trans (flt g1).1) hr) ?_
    show Go p e s below _ _ _ _ s₁ (mkF m 8 #[.val (.int i1), .val (.int j1), .val (.int q1), .val _] [])
    refine Go.of (fun _ hr => XS.iloadN X0.here hx rfl (hb hby d48_8) rfl  hr) ?_
    show Go p e s below _ _ _ _ s₁ (mkF m 9 #[.val (.int i1), .val (.int j1), .val (.int q1), .val _] [(.int j1)])
    refine Go.of (fun _ hr => XS.iloadN X0.here hx rfl (hb hby d48_9) rfl  hr) ?_
    show Go p e s below _ _ _ _ s₁ (mkF m 10 #[.val (.int i1), .val (.int j1), .val (.int q1), .val _] [(.int q1), (.int j1)])
    refine Go.of (fun _ hr => XS.iloadN X0.here hx rfl (hb hby d48_10) rfl  hr) ?_
    show Go p e s below _ _ _ _ s₁ (mkF m 11 #[.val (.int i1), .val (.int j1), .val (.int q1), .val _] [(.int i1), (.int q1), (.int j1)])
    refine Go.of (fun _ hr => XS.isub X0.here hx rfl (hb hby d48_11) rfl hr) ?_
    show Go p e s below _ _ _ _ s₁ (mkF m 12 #[.val (.int i1), .val (.int j1), .val (.int q1), .val _] [(.int (q1 - i1)), (.int j1)])
    refine Go.of (fun _ hr => XS.icmpYes X0.here hx rfl (pc0 := 12) (pc' := 23) rfl (hb hby d48_12) rfl (flt g2).2.2.2 (by decide) (by decide) hr) ?_
    show Go p e s below _ _ _ _ s₁ (mkF m 23 #[.val (.int i1), .val (.int j1), .val (.int q1), .val _] [])
    refine Go.of (fun _ hr => XS.iloadN X0.here hx rfl (hb hby d48_23) rfl  hr) ?_
    show Go p e s below _ _ _ _ s₁ (mkF m 24 #[.val (.int i1), .val (.int j1), .val (.int q1), .val _] [(.int i1)])
    exact Go.retI X0 hx hlk B0 J0 e0 hret (hb hby d48_24) (by decide) (by decide) (fun vm_ hw_ => ⟨rfl, (fun y hy => Nat.le_trans hnb (N0 y hy)), rfl⟩)

theorem d47_0 : decode jdk_42_method_157_code 0 = .ok (.iload_n 0, 1) := by decide +kernel
theorem d47_1 : decode jdk_42_method_157_code 1 = .ok (.iload_n 1, 1) := by decide +kernel
theorem d47_2 : decode jdk_42_method_157_code 2 = .ok (.iload_n 2, 1) := by decide +kernel
theorem d47_3 : decode jdk_42_method_157_code 3 = .ok (.getstatic 1053, 3) := by decide +kernel
theorem d47_6 : decode jdk_42_method_157_code 6 = .ok (.invokestatic 1065, 3) := by decide +kernel
theorem pd17 : parseMethodDescriptor "(IIILjava/util/function/BiFunction;)I" = some ⟨[.int, .int, .int, (.object "java/util/function/BiFunction")], some .int⟩ := by decide +kernel
theorem d47_9 : decode jdk_42_method_157_code 9 = .ok (.ireturn, 1) := by decide +kernel
set_option maxRecDepth 65536 in
set_option maxHeartbeats 40000000 in
theorem rm47 (l : Launch) (Z : State) (a0 : Array Value) (hw : ∀ d ∈ tables_1, d.before a0 Z = true) (ws : List Jvm.Cond) (i1 j1 q1 : Int32) (ms : List Addr) (h0 : Heap) (n0 : Nat) (O0 : Old Z n0 h0) (nb : Nat) (hb0 : n0 ≤ nb) (hnb : nb ≤ h0.size) (fs : Value) (hfs : fs = .null ∨ ∃ a, fs = .ref a) (S_F : Sta Z Z.heap "jdk/internal/util/Preconditions" "SIOOBE_FORMATTER" "Ljava/util/function/BiFunction;" fs) (g1 : ¬ ((q1 ||| i1) ||| j1) < 0) (g2 : ¬ q1 - i1 < j1) :
    Con l Z ms (⟨"java/lang/String", "checkBoundsOffCount", "(III)I"⟩ : MethodName) jdk_42_method_157_code 3 (some .int) ws ({ frames := 1, cells := 0, slots := 0, locals := 15 } : Room) #[(.int i1), (.int j1), (.int q1)] h0 (fun v vm h L => v = some (.int i1) ∧ Fr nb L ∧ h = h0) := by
  refine Con.mk (plainFor_of_name pn1) ?_
  intro p e s m below meth c s₁ Cc X0 e0 eb J0 B0 M0
  obtain ⟨hx, hZ, hown, hby, hml, hnm, hret, hlk⟩ := id Cc
  have N0 := Fr.nil h0.size
  have K0 := Keep.refl h0 []
  show Go p e s below _ _ _ _ s₁ (mkF m 0 #[.val (.int i1), .val (.int j1), .val (.int q1)] [])
  refine Go.of (fun _ hr => XS.iloadN X0.here hx rfl (hb hby d47_0) rfl  hr) ?_
  show Go p e s below _ _ _ _ s₁ (mkF m 1 #[.val (.int i1), .val (.int j1), .val (.int q1)] [(.int i1)])
  refine Go.of (fun _ hr => XS.iloadN X0.here hx rfl (hb hby d47_1) rfl  hr) ?_
  show Go p e s below _ _ _ _ s₁ (mkF m 2 #[.val (.int i1), .val (.int j1), .val (.int q1)] [(.int j1), (.int i1)])
  refine Go.of (fun _ hr => XS.iloadN X0.here hx rfl (hb hby d47_2) rfl  hr) ?_
  show Go p e s below _ _ _ _ s₁ (mkF m 3 #[.val (.int i1), .val (.int j1), .val (.int q1)] [(.int q1), (.int j1), (.int i1)])
  obtain ⟨T101, X101, e101, st101⟩ := getS2 X0 hx hZ hown (host := "") (Or.inl (hw _ (List.mem_of_getElem? (i := 176) rfl))) Via.refl e0 (S_F.ext O0.2) (g := (mkF m 3 #[.val (.int i1), .val (.int j1), .val (.int q1)] [(.int q1), (.int j1), (.int i1)])) rfl (hb hby d47_3)
  refine Go.of (fun _ hr => st101 _ hr) ?_
  show Go p e s below _ _ _ _ T101 (mkF m 6 #[.val (.int i1), .val (.int j1), .val (.int q1)] [fs, (.int q1), (.int j1), (.int i1)])
  obtain ⟨_, b102, T102, h102, L102, e102, Cc102, X102, B102, J102, g102, hQ102, st102⟩ := own_callS Cc B0 J0 X101 (hw _ (List.mem_of_getElem? (i := 235) rfl)) (hw _ (List.mem_of_getElem? (i := 236) rfl)) (hw _ (List.mem_of_getElem? (i := 177) rfl)) (hw _ (List.mem_of_getElem? (i := 237) rfl)) (by decide) (rm48 l Z a0 hw [] i1 j1 q1 fs _ h0 n0 O0 h0.size (own_ole O0) K0.1 hfs g1 g2) e101 (g := (mkF m 6 #[.val (.int i1), .val (.int j1), .val (.int q1)] [fs, (.int q1), (.int j1), (.int i1)])) rfl (by rw [hml]; rfl) (argsL := [(.int i1), (.int j1), (.int q1), fs]) (rest := []) (lenOf pd17 rfl) rfl (W := 0) (by show 2 * 0 + _ ≤ _; exact Nat.le_of_eq rfl) (hb hby d47_6) (by decide) (by decide) (by decide) (by decide)
  obtain ⟨rfl, Nq102, hh102⟩ := hQ102
  have N102 := Fr.app N0 Nq102
  obtain ⟨hx, hZ, hown, hby, hml, hnm, hret, hlk⟩ := id Cc102
  rw [hh102] at e102 B102 J102
  refine Go.of st102 ?_
  show Go p e s below _ _ _ _ T102 (mkF m 9 #[.val (.int i1), .val (.int j1), .val (.int q1)] [(.int i1)])
  exact Go.retI X102 hx hlk B102 J102 e102 hret (hb hby d47_9) (by decide) (by decide) (fun vm_ hw_ => ⟨rfl, (fun y hy => Nat.le_trans hnb (N102 y hy)), rfl⟩)

theorem d45_0 : decode jdk_52_method_94_code 0 = .ok (.iload_n 0, 1) := by decide +kernel
theorem d45_1 : decode jdk_52_method_94_code 1 = .ok (.iload_n 1, 1) := by decide +kernel
theorem d45_2 : decode jdk_52_method_94_code 2 = .ok (.aload_n 2, 1) := by decide +kernel
theorem d45_3 : decode jdk_52_method_94_code 3 = .ok (.invokestatic 48, 3) := by decide +kernel
theorem d45_6 : decode jdk_52_method_94_code 6 = .ok (.invokestatic 419, 3) := by decide +kernel
theorem pd18 : parseMethodDescriptor "(III)I" = some ⟨[.int, .int, .int], some .int⟩ := by decide +kernel
theorem d45_9 : decode jdk_52_method_94_code 9 = .ok (.pop, 1) := by decide +kernel
theorem d45_10 : decode jdk_52_method_94_code 10 = .ok (.return_, 1) := by decide +kernel
set_option maxRecDepth 65536 in
set_option maxHeartbeats 40000000 in
theorem rm45 (l : Launch) (Z : State) (a0 : Array Value) (hw : ∀ d ∈ tables_1, d.before a0 Z = true) (ws : List Jvm.Cond) (t1 : Addr) (k1 : ClassId) (us : List Int32) (ja jc : Nat) (ms : List Addr) (h0 : Heap) (n0 : Nat) (O0 : Old Z n0 h0) (nb : Nat) (hb0 : n0 ≤ nb) (hnb : nb ≤ h0.size) (fs : Value) (hfs : fs = .null ∨ ∃ a, fs = .ref a) (S_F : Sta Z Z.heap "jdk/internal/util/Preconditions" "SIOOBE_FORMATTER" "Ljava/util/function/BiFunction;" fs) (hac : ja + jc ≤ 16) (V1 : Arv Z h0 t1 k1 .byte (Int32.ofNat (2 * 16)) (us.map Value.int) (.int 0)) :
    Con l Z ms (⟨"java/lang/StringUTF16", "checkBoundsOffCount", "(II[B)V"⟩ : MethodName) jdk_52_method_94_code 3 none ws ({ frames := 2, cells := 0, slots := 0, locals := 29 } : Room) #[(.int (Int32.ofNat ja)), (.int (Int32.ofNat jc)), (.ref t1)] h0 (fun v vm h L => v = none ∧ Fr nb L ∧ h = h0) := by
  refine Con.mk (plainFor_of_name pn0) ?_
  intro p e s m below meth c s₁ Cc X0 e0 eb J0 B0 M0
  obtain ⟨hx, hZ, hown, hby, hml, hnm, hret, hlk⟩ := id Cc
  have N0 := Fr.nil h0.size
  have K0 := Keep.refl h0 []
  show Go p e s below _ _ _ _ s₁ (mkF m 0 #[.val (.int (Int32.ofNat ja)), .val (.int (Int32.ofNat jc)), .val (.ref t1)] [])
  refine Go.of (fun _ hr => XS.iloadN X0.here hx rfl (hb hby d45_0) rfl  hr) ?_
  show Go p e s below _ _ _ _ s₁ (mkF m 1 #[.val (.int (Int32.ofNat ja)), .val (.int (Int32.ofNat jc)), .val (.ref t1)] [(.int (Int32.ofNat ja))])
  refine Go.of (fun _ hr => XS.iloadN X0.here hx rfl (hb hby d45_1) rfl  hr) ?_
  show Go p e s below _ _ _ _ s₁ (mkF m 2 #[.val (.int (Int32.ofNat ja)), .val (.int (Int32.ofNat jc)), .val (.ref t1)] [(.int (Int32.ofNat jc)), (.int (Int32.ofNat ja))])
  refine Go.of (fun _ hr => XS.aloadN X0.here hx rfl (hb hby d45_2) rfl rfl hr) ?_
  show Go p e s below _ _ _ _ s₁ (mkF m 3 #[.val (.int (Int32.ofNat ja)), .val (.int (Int32.ofNat jc)), .val (.ref t1)] [(.ref t1), (.int (Int32.ofNat jc)), (.int (Int32.ofNat ja))])
  obtain ⟨_, b101, T101, h101, L101, e101, Cc101, X101, B101, J101, g101, hQ101, st101⟩ := own_callS Cc B0 J0 X0 (hw _ (List.mem_of_getElem? (i := 229) rfl)) (hw _ (List.mem_of_getElem? (i := 230) rfl)) (hw _ (List.mem_of_getElem? (i := 199) rfl)) (hw _ (List.mem_of_getElem? (i := 231) rfl)) (by decide) (rm46 l Z a0 hw [] t1 _ us 16 _ h0 n0 O0 h0.size (own_ole O0) K0.1 (by decide) V1) e0 (g := (mkF m 3 #[.val (.int (Int32.ofNat ja)), .val (.int (Int32.ofNat jc)), .val (.ref t1)] [(.ref t1), (.int (Int32.ofNat jc)), (.int (Int32.ofNat ja))])) rfl (by rw [hml]; rfl) (argsL := [(.ref t1)]) (rest := [(.int (Int32.ofNat jc)), (.int (Int32.ofNat ja))]) (lenOf pd11 rfl) rfl (W := 2) (by show 2 * 0 + _ ≤ _; exact Nat.le_of_eq rfl) (hb hby d45_3) (by decide) (by decide) (by decide) (by decide)
  obtain ⟨rfl, Nq101, hh101⟩ := hQ101
  have N101 := Fr.app N0 Nq101
  obtain ⟨hx, hZ, hown, hby, hml, hnm, hret, hlk⟩ := id Cc101
  rw [hh101] at e101 B101 J101
  refine Go.of st101 ?_
  show Go p e s below _ _ _ _ T101 (mkF m 6 #[.val (.int (Int32.ofNat ja)), .val (.int (Int32.ofNat jc)), .val (.ref t1)] [(.int (Int32.ofNat 16)), (.int (Int32.ofNat jc)), (.int (Int32.ofNat ja))])
  obtain ⟨_, b102, T102, h102, L102, e102, Cc102, X102, B102, J102, g102, hQ102, st102⟩ := own_callS Cc101 B101 J101 X101 (hw _ (List.mem_of_getElem? (i := 232) rfl)) (hw _ (List.mem_of_getElem? (i := 233) rfl)) (hw _ (List.mem_of_getElem? (i := 7) rfl)) (hw _ (List.mem_of_getElem? (i := 234) rfl)) (by decide) (rm47 l Z a0 hw [] (Int32.ofNat ja) (Int32.ofNat jc) (Int32.ofNat 16) _ h0 n0 O0 h0.size (own_ole O0) K0.1 fs hfs S_F (or_nn' hac) (sub_nn hac)) e101 (g := (mkF m 6 #[.val (.int (Int32.ofNat ja)), .val (.int (Int32.ofNat jc)), .val (.ref t1)] [(.int (Int32.ofNat 16)), (.int (Int32.ofNat jc)), (.int (Int32.ofNat ja))])) rfl (by rw [hml]; rfl) (argsL := [(.int (Int32.ofNat ja)), (.int (Int32.ofNat jc)), (.int (Int32.ofNat 16))]) (rest := []) (lenOf pd18 rfl) rfl (W := 0) (by show 2 * 0 + _ ≤ _; exact Nat.le_of_eq rfl) (hb hby d45_6) (by decide) (by decide) (by decide) (by decide)
  obtain ⟨rfl, Nq102, hh102⟩ := hQ102
  have N102 := Fr.app N101 Nq102
  obtain ⟨hx, hZ, hown, hby, hml, hnm, hret, hlk⟩ := id Cc102
  rw [hh102] at e102 B102 J102
  refine Go.of st102 ?_
  show Go p e s below _ _ _ _ T102 (mkF m 9 #[.val (.int (Int32.ofNat ja)), .val (.int (Int32.ofNat jc)), .val (.ref t1)] [(.int (Int32.ofNat ja))])
  refine Go.of (fun _ hr => XS.pop X102.here hx rfl (hb hby d45_9) rfl rfl hr) ?_
  show Go p e s below _ _ _ _ T102 (mkF m 10 #[.val (.int (Int32.ofNat ja)), .val (.int (Int32.ofNat jc)), .val (.ref t1)] [])
  exact Go.retV X102 hx hlk B102 J102 e102 hret (hb hby d45_10) (by decide) (by decide) (fun vm_ hw_ => ⟨rfl, (fun y hy => Nat.le_trans hnb (N102 y hy)), rfl⟩)

theorem d44_10 : decode jdk_52_method_86_code 10 = .ok (.iload 5, 2) := by decide +kernel
theorem d44_12 : decode jdk_52_method_86_code 12 = .ok (.iload 4, 2) := by decide +kernel
theorem d44_14 : decode jdk_52_method_86_code 14 = .ok (.if_icmp .ge 27, 3) := by decide +kernel
theorem d44_41 : decode jdk_52_method_86_code 41 = .ok (.return_, 1) := by decide +kernel
theorem d44_17 : decode jdk_52_method_86_code 17 = .ok (.aload_n 2, 1) := by decide +kernel
theorem d44_18 : decode jdk_52_method_86_code 18 = .ok (.iload_n 3, 1) := by decide +kernel
theorem d44_19 : decode jdk_52_method_86_code 19 = .ok (.iinc 3 1, 3) := by decide +kernel
theorem d44_22 : decode jdk_52_method_86_code 22 = .ok (.aload_n 0, 1) := by decide +kernel
theorem d44_23 : decode jdk_52_method_86_code 23 = .ok (.iload_n 1, 1) := by decide +kernel
theorem d44_24 : decode jdk_52_method_86_code 24 = .ok (.iinc 1 1, 3) := by decide +kernel
theorem d44_27 : decode jdk_52_method_86_code 27 = .ok (.baload, 1) := by decide +kernel
theorem d44_28 : decode jdk_52_method_86_code 28 = .ok (.sipush 255, 3) := by decide +kernel
theorem d44_31 : decode jdk_52_method_86_code 31 = .ok (.iand, 1) := by decide +kernel
theorem d44_32 : decode jdk_52_method_86_code 32 = .ok (.invokestatic 111, 3) := by decide +kernel
theorem d44_35 : decode jdk_52_method_86_code 35 = .ok (.iinc 5 1, 3) := by decide +kernel
theorem d44_38 : decode jdk_52_method_86_code 38 = .ok (.goto (-28), 3) := by decide +kernel
set_option maxRecDepth 65536 in
set_option maxHeartbeats 40000000 in
theorem ifloop {l : Launch} {Z : State} {a0 : Array Value} (hw : ∀ d ∈ tables_1, d.before a0 Z = true) {p : Program} {e : Env} {s : State} {m : MethodId} {args : Array Value} {below : List Frame} {meth : Method} {c : Code} {Q : Option Value → Vm → Heap → List Loc → Prop} {ms : List Addr} {h0 : Heap} {n0 nb : Nat} (hb0 : n0 ≤ nb) (hnb : nb ≤ h0.size) (a1 d : Addr) (k1 kd : ClassId) (cs ds : List Int32) (nn j0 : Nat) (S_D : Sta Z Z.heap "java/lang/StringUTF16" "$assertionsDisabled" "Z" (.int 1)) (S_H : Sta Z Z.heap "java/lang/StringUTF16" "HI_BYTE_SHIFT" "I" (.int 0)) (S_L : Sta Z Z.heap "java/lang/StringUTF16" "LO_BYTE_SHIFT" "I" (.int 8)) (hr : ∀ x ∈ cs, rng16 x) (hl : ∀ x ∈ cs, ¬ 255 < x) (hnn : cs.length ≤ nn) (hn1 : nn ≤ 1000) (hdl : ds.length = j0) (hac : j0 + cs.length ≤ 16) (ne12 : a1 ≠ d) (fr_d : nb ≤ d) (hm_d : d ∈ ms)
    (hQ : ∀ vm h L, Keep h0 h [d] → Fr nb L → Arv Z h d kd .byte (Int32.ofNat (2 * 16)) ((utf (ds ++ cs)).map Value.int) (.int 0) → Q none vm h L) :
    ∀ (r i : Nat), i + r = cs.length → ∀ (b T : State) (h : Heap) (locs : List Loc), Cx Z p b m meth c "java/lang/StringUTF16" jdk_52_method_86_code 6 "inflate" none → Stand p l e ({ frames := 3, cells := 0, slots := 0, locals := 43 } : Room) b m args below meth c T locs 0 0 → T.heap = h → Old Z n0 h → Fr nb locs → Keep h0 h [d] → Hd Z ms b.vm h → Bs s b h → Arv Z h a1 k1 .byte (Int32.ofNat nn) ((cs.map lo8).map Value.int) (.int 0) → Arv Z h d kd .byte (Int32.ofNat (2 * 16)) ((utf (ds ++ cs.take i)).map Value.int) (.int 0) →
      Go p e s below 0 0 (Hd Z ms) Q T (mkF m 10 #[.val (.ref a1), .val (.int (Int32.ofNat i)), .val (.ref d), .val (.int (Int32.ofNat (j0 + i))), .val (.int (Int32.ofNat cs.length)), .val (.int (Int32.ofNat i))] []) := by
  intro r
  induction r with
  | zero =>
    intro i hi b T h locs Cc X eT O0 N0 K0 J0 B0 V1 V2
    obtain ⟨hx, hZ, hown, hby, hml, hnm, hret, hlk⟩ := id Cc
    show Go p e s below _ _ _ _ T (mkF m 10 #[.val (.ref a1), .val (.int (Int32.ofNat i)), .val (.ref d), .val (.int (Int32.ofNat (j0 + i))), .val (.int (Int32.ofNat cs.length)), .val (.int (Int32.ofNat i))] [])
    refine Go.of (fun _ hr => XS.iload X.here hx rfl (hb hby d44_10) rfl  hr) ?_
    show Go p e s below _ _ _ _ T (mkF m 12 #[.val (.ref a1), .val (.int (Int32.ofNat i)), .val (.ref d), .val (.int (Int32.ofNat (j0 + i))), .val (.int (Int32.ofNat cs.length)), .val (.int (Int32.ofNat i))] [(.int (Int32.ofNat i))])
    refine Go.of (fun _ hr => XS.iload X.here hx rfl (hb hby d44_12) rfl  hr) ?_
    show Go p e s below _ _ _ _ T (mkF m 14 #[.val (.ref a1), .val (.int (Int32.ofNat i)), .val (.ref d), .val (.int (Int32.ofNat (j0 + i))), .val (.int (Int32.ofNat cs.length)), .val (.int (Int32.ofNat i))] [(.int (Int32.ofNat cs.length)), (.int (Int32.ofNat i))])
    refine Go.of (fun _ hr => XS.icmpYes X.here hx rfl (pc0 := 14) (pc' := 41) rfl (hb hby d44_14) rfl (flt (oi_nlt (by omega) (by omega) (by omega))).2.1 (by decide) (by decide) hr) ?_
    show Go p e s below _ _ _ _ T (mkF m 41 #[.val (.ref a1), .val (.int (Int32.ofNat i)), .val (.ref d), .val (.int (Int32.ofNat (j0 + i))), .val (.int (Int32.ofNat cs.length)), .val (.int (Int32.ofNat i))] [])
    exact Go.retV X hx hlk B0 J0 eT hret (hb hby d44_41) (by decide) (by decide) (fun vm_ hw_ => hQ _ _ _ K0 N0 (by have q := V2; rw [show i = cs.length by omega, List.take_length] at q; exact q))
  | succ r ih =>
    intro i hi b T h locs Cc X eT O0 N0 K0 J0 B0 V1 V2
    obtain ⟨hx, hZ, hown, hby, hml, hnm, hret, hlk⟩ := id Cc
    show Go p e s below _ _ _ _ T (mkF m 10 #[.val (.ref a1), .val (.int (Int32.ofNat i)), .val (.ref d), .val (.int (Int32.ofNat (j0 + i))), .val (.int (Int32.ofNat cs.length)), .val (.int (Int32.ofNat i))] [])
    refine Go.of (fun _ hr => XS.iload X.here hx rfl (hb hby d44_10) rfl  hr) ?_
    show Go p e s below _ _ _ _ T (mkF m 12 #[.val (.ref a1), .val (.int (Int32.ofNat i)), .val (.ref d), .val (.int (Int32.ofNat (j0 + i))), .val (.int (Int32.ofNat cs.length)), .val (.int (Int32.ofNat i))] [(.int (Int32.ofNat i))])
    refine Go.of (fun _ hr => XS.iload X.here hx rfl (hb hby d44_12) rfl  hr) ?_
    show Go p e s below _ _ _ _ T (mkF m 14 #[.val (.ref a1), .val (.int (Int32.ofNat i)), .val (.ref d), .val (.int (Int32.ofNat (j0 + i))), .val (.int (Int32.ofNat cs.length)), .val (.int (Int32.ofNat i))] [(.int (Int32.ofNat cs.length)), (.int (Int32.ofNat i))])
    refine Go.of (fun _ hr => XS.icmpNo X.here hx rfl (hb hby d44_14) rfl (tlt (oi_lt (by omega) (by omega) (by omega))).2.1 hr) ?_
    show Go p e s below _ _ _ _ T (mkF m 17 #[.val (.ref a1), .val (.int (Int32.ofNat i)), .val (.ref d), .val (.int (Int32.ofNat (j0 + i))), .val (.int (Int32.ofNat cs.length)), .val (.int (Int32.ofNat i))] [])
    refine Go.of (fun _ hr => XS.aloadN X.here hx rfl (hb hby d44_17) rfl rfl hr) ?_
    show Go p e s below _ _ _ _ T (mkF m 18 #[.val (.ref a1), .val (.int (Int32.ofNat i)), .val (.ref d), .val (.int (Int32.ofNat (j0 + i))), .val (.int (Int32.ofNat cs.length)), .val (.int (Int32.ofNat i))] [(.ref d)])
    refine Go.of (fun _ hr => XS.iloadN X.here hx rfl (hb hby d44_18) rfl  hr) ?_
    show Go p e s below _ _ _ _ T (mkF m 19 #[.val (.ref a1), .val (.int (Int32.ofNat i)), .val (.ref d), .val (.int (Int32.ofNat (j0 + i))), .val (.int (Int32.ofNat cs.length)), .val (.int (Int32.ofNat i))] [(.int (Int32.ofNat (j0 + i))), (.ref d)])
    refine Go.of (fun _ hr => XS.iinc X.here hx rfl (hb hby d44_19) rfl (l' := #[.val (.ref a1), .val (.int (Int32.ofNat i)), .val (.ref d), .val (.int ((Int32.ofNat (j0 + i)) + (1 : Int32))), .val (.int (Int32.ofNat cs.length)), .val (.int (Int32.ofNat i))]) rfl hr) ?_
    show Go p e s below _ _ _ _ T (mkF m 22 #[.val (.ref a1), .val (.int (Int32.ofNat i)), .val (.ref d), .val (.int ((Int32.ofNat (j0 + i)) + (1 : Int32))), .val (.int (Int32.ofNat cs.length)), .val (.int (Int32.ofNat i))] [(.int (Int32.ofNat (j0 + i))), (.ref d)])
    refine Go.of (fun _ hr => XS.aloadN X.here hx rfl (hb hby d44_22) rfl rfl hr) ?_
    show Go p e s below _ _ _ _ T (mkF m 23 #[.val (.ref a1), .val (.int (Int32.ofNat i)), .val (.ref d), .val (.int ((Int32.ofNat (j0 + i)) + (1 : Int32))), .val (.int (Int32.ofNat cs.length)), .val (.int (Int32.ofNat i))] [(.ref a1), (.int (Int32.ofNat (j0 + i))), (.ref d)])
    refine Go.of (fun _ hr => XS.iloadN X.here hx rfl (hb hby d44_23) rfl  hr) ?_
    show Go p e s below _ _ _ _ T (mkF m 24 #[.val (.ref a1), .val (.int (Int32.ofNat i)), .val (.ref d), .val (.int ((Int32.ofNat (j0 + i)) + (1 : Int32))), .val (.int (Int32.ofNat cs.length)), .val (.int (Int32.ofNat i))] [(.int (Int32.ofNat i)), (.ref a1), (.int (Int32.ofNat (j0 + i))), (.ref d)])
    refine Go.of (fun _ hr => XS.iinc X.here hx rfl (hb hby d44_24) rfl (l' := #[.val (.ref a1), .val (.int ((Int32.ofNat i) + (1 : Int32))), .val (.ref d), .val (.int ((Int32.ofNat (j0 + i)) + (1 : Int32))), .val (.int (Int32.ofNat cs.length)), .val (.int (Int32.ofNat i))]) rfl hr) ?_
    show Go p e s below _ _ _ _ T (mkF m 27 #[.val (.ref a1), .val (.int ((Int32.ofNat i) + (1 : Int32))), .val (.ref d), .val (.int ((Int32.ofNat (j0 + i)) + (1 : Int32))), .val (.int (Int32.ofNat cs.length)), .val (.int (Int32.ofNat i))] [(.int (Int32.ofNat i)), (.ref a1), (.int (Int32.ofNat (j0 + i))), (.ref d)])
    obtain ⟨cl101, Ar101, q101, S101, N101_, H101, G101⟩ := id V1
    have hin101 : ¬ ((Int32.ofNat i) < 0 ∨ cl101.slots.size ≤ ((Int32.ofNat i)).toNatClampNeg) := inb_of S101 ⟨oi_nn (by omega), oi_lt (by omega) (by omega) (by omega)⟩
    refine Go.of (fun _ hr => X.baloadBytes hx (j := (Int32.ofNat i)) (v := (.int ((cs.map lo8).getD i 0))) (by rw [eT]; exact Ar101.1) (State.isArrayOf_alike hZ.alike Ar101.2.1) Ar101.2.2 hin101 (H101.at hin101 (by rw [oi_nat (by omega), getD_int])) (g := (mkF m 27 #[.val (.ref a1), .val (.int ((Int32.ofNat i) + (1 : Int32))), .val (.ref d), .val (.int ((Int32.ofNat (j0 + i)) + (1 : Int32))), .val (.int (Int32.ofNat cs.length)), .val (.int (Int32.ofNat i))] [(.int (Int32.ofNat i)), (.ref a1), (.int (Int32.ofNat (j0 + i))), (.ref d)])) rfl rfl (hb hby d44_27) _ hr) ?_
    show Go p e s below _ _ _ _ T (mkF m 28 #[.val (.ref a1), .val (.int ((Int32.ofNat i) + (1 : Int32))), .val (.ref d), .val (.int ((Int32.ofNat (j0 + i)) + (1 : Int32))), .val (.int (Int32.ofNat cs.length)), .val (.int (Int32.ofNat i))] [(.int ((cs.map lo8).getD i 0)), (.int (Int32.ofNat (j0 + i))), (.ref d)])
    refine Go.of (fun _ hr => XS.sipush X.here hx rfl (hb hby d44_28) hr) ?_
    show Go p e s below _ _ _ _ T (mkF m 31 #[.val (.ref a1), .val (.int ((Int32.ofNat i) + (1 : Int32))), .val (.ref d), .val (.int ((Int32.ofNat (j0 + i)) + (1 : Int32))), .val (.int (Int32.ofNat cs.length)), .val (.int (Int32.ofNat i))] [(.int (255 : Int32)), (.int ((cs.map lo8).getD i 0)), (.int (Int32.ofNat (j0 + i))), (.ref d)])
    refine Go.of (fun _ hr => XS.iand X.here hx rfl (hb hby d44_31) rfl hr) ?_
    show Go p e s below _ _ _ _ T (mkF m 32 #[.val (.ref a1), .val (.int ((Int32.ofNat i) + (1 : Int32))), .val (.ref d), .val (.int ((Int32.ofNat (j0 + i)) + (1 : Int32))), .val (.int (Int32.ofNat cs.length)), .val (.int (Int32.ofNat i))] [(.int (((cs.map lo8).getD i 0) &&& (255 : Int32))), (.int (Int32.ofNat (j0 + i))), (.ref d)])
    rw [lo_at hr hl (show i < cs.length by omega)]
    show Go p e s below _ _ _ _ T (mkF m 32 #[.val (.ref a1), .val (.int ((Int32.ofNat i) + (1 : Int32))), .val (.ref d), .val (.int ((Int32.ofNat (j0 + i)) + (1 : Int32))), .val (.int (Int32.ofNat cs.length)), .val (.int (Int32.ofNat i))] [(.int (cs.getD i 0)), (.int (Int32.ofNat (j0 + i))), (.ref d)])
    obtain ⟨_, b102, T102, h102, L102, e102, Cc102, X102, B102, J102, g102, hQ102, st102⟩ := own_callS Cc B0 J0 X (hw _ (List.mem_of_getElem? (i := 201) rfl)) (hw _ (List.mem_of_getElem? (i := 202) rfl)) (hw _ (List.mem_of_getElem? (i := 199) rfl)) (hw _ (List.mem_of_getElem? (i := 203) rfl)) (by decide) (rm39 l Z a0 hw [] d _ (utf (ds ++ cs.take i)) 16 (j0 + i) (cs.getD i 0) _ h n0 O0 nb hb0 (Nat.le_trans hnb K0.1) fr_d hm_d S_D S_H S_L (by decide) (by omega) (by rw [utf_len, List.length_append, List.length_take]; omega) V2) eT (g := (mkF m 32 #[.val (.ref a1), .val (.int ((Int32.ofNat i) + (1 : Int32))), .val (.ref d), .val (.int ((Int32.ofNat (j0 + i)) + (1 : Int32))), .val (.int (Int32.ofNat cs.length)), .val (.int (Int32.ofNat i))] [(.int (cs.getD i 0)), (.int (Int32.ofNat (j0 + i))), (.ref d)])) rfl (by rw [hml]; rfl) (argsL := [(.ref d), (.int (Int32.ofNat (j0 + i))), (.int (cs.getD i 0))]) (rest := []) (lenOf pd1 rfl) rfl (W := 0) (by show 2 * 0 + _ ≤ _; exact Nat.le_of_eq rfl) (hb hby d44_32) (by decide) (by decide) (by decide) (by decide)
    obtain ⟨rfl, Nq102, Kq102, Vp102⟩ := hQ102
    have N102 := Fr.app N0 Nq102
    obtain ⟨hx, hZ, hown, hby, hml, hnm, hret, hlk⟩ := id Cc102
    have K102 := K0.trans Kq102 (allS (Or.inl (List.mem_of_getElem? (i := 0) rfl)) all0)
    have O102 := O0.keep Kq102 (allS (Nat.le_trans hb0 fr_d) all0)
    refine Go.of st102 ?_
    show Go p e s below _ _ _ _ T102 (mkF m 35 #[.val (.ref a1), .val (.int ((Int32.ofNat i) + (1 : Int32))), .val (.ref d), .val (.int ((Int32.ofNat (j0 + i)) + (1 : Int32))), .val (.int (Int32.ofNat cs.length)), .val (.int (Int32.ofNat i))] [])
    refine Go.of (fun _ hr => XS.iinc X102.here hx rfl (hb hby d44_35) rfl (l' := #[.val (.ref a1), .val (.int ((Int32.ofNat i) + (1 : Int32))), .val (.ref d), .val (.int ((Int32.ofNat (j0 + i)) + (1 : Int32))), .val (.int (Int32.ofNat cs.length)), .val (.int ((Int32.ofNat i) + (1 : Int32)))]) rfl hr) ?_
    show Go p e s below _ _ _ _ T102 (mkF m 38 #[.val (.ref a1), .val (.int ((Int32.ofNat i) + (1 : Int32))), .val (.ref d), .val (.int ((Int32.ofNat (j0 + i)) + (1 : Int32))), .val (.int (Int32.ofNat cs.length)), .val (.int ((Int32.ofNat i) + (1 : Int32)))] [])
    refine Go.of (fun _ hr => XS.goto X102.here hx rfl (pc0 := 38) (pc' := 10) rfl (hb hby d44_38) (by decide) (by decide) hr) ?_
    show Go p e s below _ _ _ _ T102 (mkF m 10 #[.val (.ref a1), .val (.int ((Int32.ofNat i) + (1 : Int32))), .val (.ref d), .val (.int ((Int32.ofNat (j0 + i)) + (1 : Int32))), .val (.int (Int32.ofNat cs.length)), .val (.int ((Int32.ofNat i) + (1 : Int32)))] [])
    simp only [oi_succ (show i + 1 < 2147483648 by omega), oi_succ (show j0 + i + 1 < 2147483648 by omega)]
    have f103 := (V1.keep Kq102 (ninS ne12 nin0))
    exact ih (i + 1) (by omega) _ T102 h102 _ Cc102 X102 e102 O102 N102 K102 J102 B102 f103 (by have q := Vp102; rw [utf_take2 ds cs (show i < cs.length by omega)] at q; exact q)

theorem d44_0 : decode jdk_52_method_86_code 0 = .ok (.iload_n 3, 1) := by decide +kernel
theorem d44_1 : decode jdk_52_method_86_code 1 = .ok (.iload 4, 2) := by decide +kernel
theorem d44_3 : decode jdk_52_method_86_code 3 = .ok (.aload_n 2, 1) := by decide +kernel
theorem d44_4 : decode jdk_52_method_86_code 4 = .ok (.invokestatic 173, 3) := by decide +kernel
theorem pd19 : parseMethodDescriptor "(II[B)V" = some ⟨[.int, .int, (.array .byte)], none⟩ := by decide +kernel
theorem d44_7 : decode jdk_52_method_86_code 7 = .ok (.iconst 0, 1) := by decide +kernel
theorem d44_8 : decode jdk_52_method_86_code 8 = .ok (.istore 5, 2) := by decide +kernel
set_option maxRecDepth 65536 in
set_option maxHeartbeats 40000000 in
theorem rm44 (l : Launch) (Z : State) (a0 : Array Value) (hw : ∀ d ∈ tables_1, d.before a0 Z = true) (ws : List Jvm.Cond) (a1 d : Addr) (k1 kd : ClassId) (cs ds : List Int32) (nn j0 : Nat) (ms : List Addr) (h0 : Heap) (n0 : Nat) (O0 : Old Z n0 h0) (nb : Nat) (hb0 : n0 ≤ nb) (hnb : nb ≤ h0.size) (fr_d : nb ≤ d) (hm_d : d ∈ ms) (fs : Value) (hfs : fs = .null ∨ ∃ a, fs = .ref a) (S_F : Sta Z Z.heap "jdk/internal/util/Preconditions" "SIOOBE_FORMATTER" "Ljava/util/function/BiFunction;" fs) (S_D : Sta Z Z.heap "java/lang/StringUTF16" "$assertionsDisabled" "Z" (.int 1)) (S_H : Sta Z Z.heap "java/lang/StringUTF16" "HI_BYTE_SHIFT" "I" (.int 0)) (S_L : Sta Z Z.heap "java/lang/StringUTF16" "LO_BYTE_SHIFT" "I" (.int 8)) (hr : ∀ x ∈ cs, rng16 x) (hl : ∀ x ∈ cs, ¬ 255 < x) (hnn : cs.length ≤ nn) (hn1 : nn ≤ 1000) (hdl : ds.length = j0) (hac : j0 + cs.length ≤ 16) (ne12 : a1 ≠ d) (V1 : Arv Z h0 a1 k1 .byte (Int32.ofNat nn) ((cs.map lo8).map Value.int) (.int 0)) (V2 : Arv Z h0 d kd .byte (Int32.ofNat (2 * 16)) ((utf ds).map Value.int) (.int 0)) :
    Con l Z ms (⟨"java/lang/StringUTF16", "inflate", "([BI[BII)V"⟩ : MethodName) jdk_52_method_86_code 6 none ws ({ frames := 3, cells := 0, slots := 0, locals := 43 } : Room) #[(.ref a1), (.int (0 : Int32)), (.ref d), (.int (Int32.ofNat j0)), (.int (Int32.ofNat cs.length))] h0 (fun v vm h L => v = none ∧ Fr nb L ∧ Keep h0 h [d] ∧ Arv Z h d kd .byte (Int32.ofNat (2 * 16)) ((utf (ds ++ cs)).map Value.int) (.int 0)) := by
  refine Con.mk (plainFor_of_name pn0) ?_
  intro p e s m below meth c s₁ Cc X0 e0 eb J0 B0 M0
  obtain ⟨hx, hZ, hown, hby, hml, hnm, hret, hlk⟩ := id Cc
  have N0 := Fr.nil nb
  have K0 := Keep.refl h0 [d]
  show Go p e s below _ _ _ _ s₁ (mkF m 0 #[.val (.ref a1), .val (.int (0 : Int32)), .val (.ref d), .val (.int (Int32.ofNat j0)), .val (.int (Int32.ofNat cs.length)), .unset] [])
  refine Go.of (fun _ hr => XS.iloadN X0.here hx rfl (hb hby d44_0) rfl  hr) ?_
  show Go p e s below _ _ _ _ s₁ (mkF m 1 #[.val (.ref a1), .val (.int (0 : Int32)), .val (.ref d), .val (.int (Int32.ofNat j0)), .val (.int (Int32.ofNat cs.length)), .unset] [(.int (Int32.ofNat j0))])
  refine Go.of (fun _ hr => XS.iload X0.here hx rfl (hb hby d44_1) rfl  hr) ?_
  show Go p e s below _ _ _ _ s₁ (mkF m 3 #[.val (.ref a1), .val (.int (0 : Int32)), .val (.ref d), .val (.int (Int32.ofNat j0)), .val (.int (Int32.ofNat cs.length)), .unset] [(.int (Int32.ofNat cs.length)), (.int (Int32.ofNat j0))])
  refine Go.of (fun _ hr => XS.aloadN X0.here hx rfl (hb hby d44_3) rfl rfl hr) ?_
  show Go p e s below _ _ _ _ s₁ (mkF m 4 #[.val (.ref a1), .val (.int (0 : Int32)), .val (.ref d), .val (.int (Int32.ofNat j0)), .val (.int (Int32.ofNat cs.length)), .unset] [(.ref d), (.int (Int32.ofNat cs.length)), (.int (Int32.ofNat j0))])
  obtain ⟨_, b101, T101, h101, L101, e101, Cc101, X101, B101, J101, g101, hQ101, st101⟩ := own_callS Cc B0 J0 X0 (hw _ (List.mem_of_getElem? (i := 226) rfl)) (hw _ (List.mem_of_getElem? (i := 227) rfl)) (hw _ (List.mem_of_getElem? (i := 199) rfl)) (hw _ (List.mem_of_getElem? (i := 228) rfl)) (by decide) (rm45 l Z a0 hw [] d _ (utf ds) j0 cs.length _ h0 n0 O0 h0.size (own_ole O0) K0.1 fs hfs S_F hac V2) e0 (g := (mkF m 4 #[.val (.ref a1), .val (.int (0 : Int32)), .val (.ref d), .val (.int (Int32.ofNat j0)), .val (.int (Int32.ofNat cs.length)), .unset] [(.ref d), (.int (Int32.ofNat cs.length)), (.int (Int32.ofNat j0))])) rfl (by rw [hml]; rfl) (argsL := [(.int (Int32.ofNat j0)), (.int (Int32.ofNat cs.length)), (.ref d)]) (rest := []) (lenOf pd19 rfl) rfl (W := 0) (by show 2 * 0 + _ ≤ _; exact Nat.le_of_eq rfl) (hb hby d44_4) (by decide) (by decide) (by decide) (by decide)
  obtain ⟨rfl, Nq101, hh101⟩ := hQ101
  have N101 := Fr.app N0 (show Fr nb _ from fun y hy => Nat.le_trans hnb (Nq101 y hy))
  have NS101 := Fr.app (Fr.nil _) Nq101
  obtain ⟨hx, hZ, hown, hby, hml, hnm, hret, hlk⟩ := id Cc101
  rw [hh101] at e101 B101 J101
  refine Go.of st101 ?_
  show Go p e s below _ _ _ _ T101 (mkF m 7 #[.val (.ref a1), .val (.int (0 : Int32)), .val (.ref d), .val (.int (Int32.ofNat j0)), .val (.int (Int32.ofNat cs.length)), .unset] [])
  refine Go.of (fun _ hr => XS.iconst X101.here hx rfl (hb hby d44_7) hr) ?_
  show Go p e s below _ _ _ _ T101 (mkF m 8 #[.val (.ref a1), .val (.int (0 : Int32)), .val (.ref d), .val (.int (Int32.ofNat j0)), .val (.int (Int32.ofNat cs.length)), .unset] [(.int (0 : Int32))])
  refine Go.of (fun _ hr => XS.istore X101.here hx rfl (hb hby d44_8) rfl (l' := #[.val (.ref a1), .val (.int (0 : Int32)), .val (.ref d), .val (.int (Int32.ofNat j0)), .val (.int (Int32.ofNat cs.length)), .val (.int (0 : Int32))]) rfl hr) ?_
  show Go p e s below _ _ _ _ T101 (mkF m 10 #[.val (.ref a1), .val (.int (0 : Int32)), .val (.ref d), .val (.int (Int32.ofNat j0)), .val (.int (Int32.ofNat cs.length)), .val (.int (0 : Int32))] [])
  exact ifloop hw hb0 hnb a1 d k1 kd cs ds nn j0 S_D S_H S_L hr hl hnn hn1 hdl hac ne12 fr_d hm_d (fun vm h L q1 q2 q3 => ⟨rfl, q2, q1, q3⟩) cs.length 0 (Nat.zero_add _) _ _ _ _ Cc101 X101 e101 O0 N101 K0 J101 B101 V1 (by rw [List.take_zero, List.append_nil]; exact V2)

theorem d43_0 : decode jdk_43_method_50_code 0 = .ok (.aload_n 0, 1) := by decide +kernel
theorem d43_1 : decode jdk_43_method_50_code 1 = .ok (.iload_n 1, 1) := by decide +kernel
theorem d43_2 : decode jdk_43_method_50_code 2 = .ok (.aload_n 2, 1) := by decide +kernel
theorem d43_3 : decode jdk_43_method_50_code 3 = .ok (.iload_n 3, 1) := by decide +kernel
theorem d43_4 : decode jdk_43_method_50_code 4 = .ok (.iload 4, 2) := by decide +kernel
theorem d43_6 : decode jdk_43_method_50_code 6 = .ok (.invokestatic 240, 3) := by decide +kernel
theorem pd20 : parseMethodDescriptor "([BI[BII)V" = some ⟨[(.array .byte), .int, (.array .byte), .int, .int], none⟩ := by decide +kernel
theorem d43_9 : decode jdk_43_method_50_code 9 = .ok (.return_, 1) := by decide +kernel
set_option maxRecDepth 65536 in
set_option maxHeartbeats 40000000 in
theorem rm43 (l : Launch) (Z : State) (a0 : Array Value) (hw : ∀ d ∈ tables_1, d.before a0 Z = true) (ws : List Jvm.Cond) (a1 d : Addr) (k1 kd : ClassId) (cs ds : List Int32) (nn j0 : Nat) (ms : List Addr) (h0 : Heap) (n0 : Nat) (O0 : Old Z n0 h0) (nb : Nat) (hb0 : n0 ≤ nb) (hnb : nb ≤ h0.size) (fr_d : nb ≤ d) (hm_d : d ∈ ms) (fs : Value) (hfs : fs = .null ∨ ∃ a, fs = .ref a) (S_F : Sta Z Z.heap "jdk/internal/util/Preconditions" "SIOOBE_FORMATTER" "Ljava/util/function/BiFunction;" fs) (S_D : Sta Z Z.heap "java/lang/StringUTF16" "$assertionsDisabled" "Z" (.int 1)) (S_H : Sta Z Z.heap "java/lang/StringUTF16" "HI_BYTE_SHIFT" "I" (.int 0)) (S_L : Sta Z Z.heap "java/lang/StringUTF16" "LO_BYTE_SHIFT" "I" (.int 8)) (hr : ∀ x ∈ cs, rng16 x) (hl : ∀ x ∈ cs, ¬ 255 < x) (hnn : cs.length ≤ nn) (hn1 : nn ≤ 1000) (hdl : ds.length = j0) (hac : j0 + cs.length ≤ 16) (ne12 : a1 ≠ d) (V1 : Arv Z h0 a1 k1 .byte (Int32.ofNat nn) ((cs.map lo8).map Value.int) (.int 0)) (V2 : Arv Z h0 d kd .byte (Int32.ofNat (2 * 16)) ((utf ds).map Value.int) (.int 0)) :
    Con l Z ms (⟨"java/lang/StringLatin1", "inflate", "([BI[BII)V"⟩ : MethodName) jdk_43_method_50_code 5 none ws ({ frames := 4, cells := 0, slots := 0, locals := 60 } : Room) #[(.ref a1), (.int (0 : Int32)), (.ref d), (.int (Int32.ofNat j0)), (.int (Int32.ofNat cs.length))] h0 (fun v vm h L => v = none ∧ Fr nb L ∧ Keep h0 h [d] ∧ Arv Z h d kd .byte (Int32.ofNat (2 * 16)) ((utf (ds ++ cs)).map Value.int) (.int 0)) := by
  refine Con.mk (plainFor_of_name pn3) ?_
  intro p e s m below meth c s₁ Cc X0 e0 eb J0 B0 M0
  obtain ⟨hx, hZ, hown, hby, hml, hnm, hret, hlk⟩ := id Cc
  have N0 := Fr.nil nb
  have K0 := Keep.refl h0 [d]
  show Go p e s below _ _ _ _ s₁ (mkF m 0 #[.val (.ref a1), .val (.int (0 : Int32)), .val (.ref d), .val (.int (Int32.ofNat j0)), .val (.int (Int32.ofNat cs.length))] [])
  refine Go.of (fun _ hr => XS.aloadN X0.here hx rfl (hb hby d43_0) rfl rfl hr) ?_
  show Go p e s below _ _ _ _ s₁ (mkF m 1 #[.val (.ref a1), .val (.int (0 : Int32)), .val (.ref d), .val (.int (Int32.ofNat j0)), .val (.int (Int32.ofNat cs.length))] [(.ref a1)])
  refine Go.of (fun _ hr => XS.iloadN X0.here hx rfl (hb hby d43_1) rfl  hr) ?_
  show Go p e s below _ _ _ _ s₁ (mkF m 2 #[.val (.ref a1), .val (.int (0 : Int32)), .val (.ref d), .val (.int (Int32.ofNat j0)), .val (.int (Int32.ofNat cs.length))] [(.int (0 : Int32)), (.ref a1)])
  refine Go.of (fun _ hr => XS.aloadN X0.here hx rfl (hb hby d43_2) rfl rfl hr) ?_
  show Go p e s below _ _ _ _ s₁ (mkF m 3 #[.val (.ref a1), .val (.int (0 : Int32)), .val (.ref d), .val (.int (Int32.ofNat j0)), .val (.int (Int32.ofNat cs.length))] [(.ref d), (.int (0 : Int32)), (.ref a1)])
  refine Go.of (fun _ hr => XS.iloadN X0.here hx rfl (hb hby d43_3) rfl  hr) ?_
  show Go p e s below _ _ _ _ s₁ (mkF m 4 #[.val (.ref a1), .val (.int (0 : Int32)), .val (.ref d), .val (.int (Int32.ofNat j0)), .val (.int (Int32.ofNat cs.length))] [(.int (Int32.ofNat j0)), (.ref d), (.int (0 : Int32)), (.ref a1)])
  refine Go.of (fun _ hr => XS.iload X0.here hx rfl (hb hby d43_4) rfl  hr) ?_
  show Go p e s below _ _ _ _ s₁ (mkF m 6 #[.val (.ref a1), .val (.int (0 : Int32)), .val (.ref d), .val (.int (Int32.ofNat j0)), .val (.int (Int32.ofNat cs.length))] [(.int (Int32.ofNat cs.length)), (.int (Int32.ofNat j0)), (.ref d), (.int (0 : Int32)), (.ref a1)])
  obtain ⟨_, b101, T101, h101, L101, e101, Cc101, X101, B101, J101, g101, hQ101, st101⟩ := own_callS Cc B0 J0 X0 (hw _ (List.mem_of_getElem? (i := 223) rfl)) (hw _ (List.mem_of_getElem? (i := 224) rfl)) (hw _ (List.mem_of_getElem? (i := 199) rfl)) (hw _ (List.mem_of_getElem? (i := 225) rfl)) (by decide) (rm44 l Z a0 hw [] a1 d _ _ cs ds nn j0 _ h0 n0 O0 nb hb0 (Nat.le_trans hnb K0.1) fr_d hm_d fs hfs S_F S_D S_H S_L hr hl hnn hn1 hdl hac ne12 V1 V2) e0 (g := (mkF m 6 #[.val (.ref a1), .val (.int (0 : Int32)), .val (.ref d), .val (.int (Int32.ofNat j0)), .val (.int (Int32.ofNat cs.length))] [(.int (Int32.ofNat cs.length)), (.int (Int32.ofNat j0)), (.ref d), (.int (0 : Int32)), (.ref a1)])) rfl (by rw [hml]; rfl) (argsL := [(.ref a1), (.int (0 : Int32)), (.ref d), (.int (Int32.ofNat j0)), (.int (Int32.ofNat cs.length))]) (rest := []) (lenOf pd20 rfl) rfl (W := 0) (by show 2 * 0 + _ ≤ _; exact Nat.le_of_eq rfl) (hb hby d43_6) (by decide) (by decide) (by decide) (by decide)
  obtain ⟨rfl, Nq101, Kq101, Vi101⟩ := hQ101
  have N101 := Fr.app N0 Nq101
  obtain ⟨hx, hZ, hown, hby, hml, hnm, hret, hlk⟩ := id Cc101
  have K101 := K0.trans Kq101 (allS (Or.inl (List.mem_of_getElem? (i := 0) rfl)) all0)
  have O101 := O0.keep Kq101 (allS (Nat.le_trans hb0 fr_d) all0)
  refine Go.of st101 ?_
  show Go p e s below _ _ _ _ T101 (mkF m 9 #[.val (.ref a1), .val (.int (0 : Int32)), .val (.ref d), .val (.int (Int32.ofNat j0)), .val (.int (Int32.ofNat cs.length))] [])
  exact Go.retV X101 hx hlk B101 J101 e101 hret (hb hby d43_9) (by decide) (by decide) (fun vm_ hw_ => ⟨rfl, N101, K101, Vi101⟩)

theorem pn4 : plainName "java/lang/AbstractStringBuilder" = true := by first | (simp [plainName, overriddenIn]; done) | decide +kernel
theorem d7_0 : decode jdk_68_method_2_code 0 = .ok (.aload_n 0, 1) := by decide +kernel
theorem d7_1 : decode jdk_68_method_2_code 1 = .ok (.invokespecial 3, 3) := by decide +kernel
theorem d7_4 : decode jdk_68_method_2_code 4 = .ok (.getstatic 18, 3) := by decide +kernel
theorem d7_7 : decode jdk_68_method_2_code 7 = .ok (.ifCond .eq 18, 3) := by decide +kernel
theorem d7_10 : decode jdk_68_method_2_code 10 = .ok (.aload_n 0, 1) := by decide +kernel
theorem d7_11 : decode jdk_68_method_2_code 11 = .ok (.iload_n 1, 1) := by decide +kernel
theorem d7_12 : decode jdk_68_method_2_code 12 = .ok (.newarray .byte, 2) := by decide +kernel
theorem d7_14 : decode jdk_68_method_2_code 14 = .ok (.putfield 15, 3) := by decide +kernel
theorem d7_17 : decode jdk_68_method_2_code 17 = .ok (.aload_n 0, 1) := by decide +kernel
theorem d7_18 : decode jdk_68_method_2_code 18 = .ok (.iconst 0, 1) := by decide +kernel
theorem d7_19 : decode jdk_68_method_2_code 19 = .ok (.putfield 22, 3) := by decide +kernel
theorem d7_22 : decode jdk_68_method_2_code 22 = .ok (.goto 16, 3) := by decide +kernel
theorem d7_38 : decode jdk_68_method_2_code 38 = .ok (.return_, 1) := by decide +kernel
set_option maxRecDepth 65536 in
set_option maxHeartbeats 40000000 in
theorem rm7 (l : Launch) (Z : State) (a0 : Array Value) (hw : ∀ d ∈ tables_1, d.before a0 Z = true) (ws : List Jvm.Cond) (a1 : Addr) (u1 u2 : Value) (zc : Int32) (ms : List Addr) (h0 : Heap) (n0 : Nat) (O0 : Old Z n0 h0) (nb : Nat) (hb0 : n0 ≤ nb) (hnb : nb ≤ h0.size) (fr_a1 : nb ≤ a1) (hm_a1 : a1 ∈ ms) (Ea1 : Exa Z h0 a1 "java/lang/StringBuilder") (G1 : Fld Z h0 a1 "java/lang/AbstractStringBuilder" "value" "[B" u1) (G2 : Fld Z h0 a1 "java/lang/AbstractStringBuilder" "coder" "B" u2) (G3 : Fld Z h0 a1 "java/lang/AbstractStringBuilder" "count" "I" (.int 0)) (G4 : Fld Z h0 a1 "java/lang/AbstractStringBuilder" "maybeLatin1" "Z" (.int 0)) (S_C : Sta Z Z.heap "java/lang/String" "COMPACT_STRINGS" "Z" (.int zc)) (hzc : ¬ zc = 0) :
    Con l Z ms (⟨"java/lang/AbstractStringBuilder", "<init>", "(I)V"⟩ : MethodName) jdk_68_method_2_code 2 none ws ({ frames := 1, cells := 1, slots := 16, locals := 13 } : Room) #[(.ref a1), (.int (16 : Int32))] h0 (fun v vm h L => v = none ∧ Fr nb L ∧ Keep h0 h [a1] ∧ ∃ v1 kv, h0.size ≤ v1 ∧ Fld Z h a1 "java/lang/AbstractStringBuilder" "value" "[B" (.ref v1) ∧ Fld Z h a1 "java/lang/AbstractStringBuilder" "coder" "B" (.int 0) ∧ Fld Z h a1 "java/lang/AbstractStringBuilder" "count" "I" (.int 0) ∧ Fld Z h a1 "java/lang/AbstractStringBuilder" "maybeLatin1" "Z" (.int 0) ∧ Arv Z h v1 kv .byte 16 [] (.int 0) ∧ Hd Z (v1 :: ms) vm h) := by
  refine Con.mk (plainFor_of_name pn4) ?_
  intro p e s m below meth c s₁ Cc X0 e0 eb J0 B0 M0
  obtain ⟨hx, hZ, hown, hby, hml, hnm, hret, hlk⟩ := id Cc
  have N0 := Fr.nil nb
  have K0 := Keep.refl h0 [a1]
  show Go p e s below _ _ _ _ s₁ (mkF m 0 #[.val (.ref a1), .val (.int (16 : Int32))] [])
  refine Go.of (fun _ hr => XS.aloadN X0.here hx rfl (hb hby d7_0) rfl rfl hr) ?_
  show Go p e s below _ _ _ _ s₁ (mkF m 1 #[.val (.ref a1), .val (.int (16 : Int32))] [(.ref a1)])
  obtain ⟨T101, X101, e101, st101⟩ := initO X0 hx hZ hown (hw _ (List.mem_of_getElem? (i := 52) rfl)) (hw _ (List.mem_of_getElem? (i := 21) rfl)) (hw _ (List.mem_of_getElem? (i := 22) rfl)) e0 (g := (mkF m 1 #[.val (.ref a1), .val (.int (16 : Int32))] [(.ref a1)])) rfl (by rw [hml]; rfl) rfl (hb hby d7_1) (by decide) (W := 0) (by show 2 * 0 + _ ≤ _; exact Nat.le_of_eq rfl) (by decide)
  refine Go.of (fun _ hr => st101 _ hr) ?_
  show Go p e s below _ _ _ _ T101 (mkF m 4 #[.val (.ref a1), .val (.int (16 : Int32))] [])
  obtain ⟨T102, X102, e102, st102⟩ := getS2 X101 hx hZ hown (host := "") (Or.inl (hw _ (List.mem_of_getElem? (i := 53) rfl))) Via.refl e101 (S_C.ext O0.2) (g := (mkF m 4 #[.val (.ref a1), .val (.int (16 : Int32))] [])) rfl (hb hby d7_4)
  refine Go.of (fun _ hr => st102 _ hr) ?_
  show Go p e s below _ _ _ _ T102 (mkF m 7 #[.val (.ref a1), .val (.int (16 : Int32))] [(.int zc)])
  refine Go.of (fun _ hr => XS.ifNo X102.here hx rfl (hb hby d7_7) rfl ((if0 _ _).trans (feq hzc).1) hr) ?_
  show Go p e s below _ _ _ _ T102 (mkF m 10 #[.val (.ref a1), .val (.int (16 : Int32))] [])
  refine Go.of (fun _ hr => XS.aloadN X102.here hx rfl (hb hby d7_10) rfl rfl hr) ?_
  show Go p e s below _ _ _ _ T102 (mkF m 11 #[.val (.ref a1), .val (.int (16 : Int32))] [(.ref a1)])
  refine Go.of (fun _ hr => XS.iloadN X102.here hx rfl (hb hby d7_11) rfl  hr) ?_
  show Go p e s below _ _ _ _ T102 (mkF m 12 #[.val (.ref a1), .val (.int (16 : Int32))] [(.int (16 : Int32)), (.ref a1)])
  obtain ⟨T103, h103, k103, X103, e103, E103, A103, st103⟩ := newP X102 hx hZ (hw _ (List.mem_of_getElem? (i := 9) rfl)) e102 (g := (mkF m 12 #[.val (.ref a1), .val (.int (16 : Int32))] [(.int (16 : Int32)), (.ref a1)])) rfl (hb hby d7_12) rfl (by decide) (cap := 16) (by decide) (by decide) (by decide) (by decide)
  obtain ⟨o103, g103⟩ : ∃ z, z = h0.size := ⟨_, rfl⟩
  rw [← g103] at A103 st103
  have ne_a1_o103 : a1 ≠ o103 := Nat.ne_of_lt (Nat.lt_of_lt_of_le Ea1.lt (Nat.le_of_eq g103.symm))
  have V103 := Arv.new A103 (by decide)
  have lt103 : o103 < h103.size := A103.lt
  have J103 := J0.add E103 g103 lt103
  have B103 := B0.mono E103.1
  have O103 := O0.ext E103
  have sz103 : h0.size ≤ o103 := Nat.le_trans K0.1 (Nat.le_of_eq g103.symm)
  have fr103 : nb ≤ o103 := Nat.le_trans hnb sz103
  have K103 := K0.ext E103
  refine Go.of (fun _ hr => st103 _ hr) ?_
  show Go p e s below _ _ _ _ T103 (mkF m 14 #[.val (.ref a1), .val (.int (16 : Int32))] [(.ref o103), (.ref a1)])
  have f105 := (G1.ext E103)
  have f106 := (Ea1.ext E103)
  obtain ⟨T104, h104, X104, e104, W104, st104⟩ := putF X103 hx hZ hown (host := "") (Or.inl (hw _ (List.mem_of_getElem? (i := 54) rfl))) Via.refl e103 f105 f106 (Or.inl (hw _ (List.mem_of_getElem? (i := 55) rfl))) (hw _ (List.mem_of_getElem? (i := 41) rfl)) (ty := (.array .byte)) (by decide) rfl rfl (g := (mkF m 14 #[.val (.ref a1), .val (.int (16 : Int32))] [(.ref o103), (.ref a1)])) rfl rfl (hb hby d7_14)
  have N104 := Fr.snoc X104 N0 fr_a1
  have J104 := J103.wr W104 (List.mem_cons_of_mem _ hm_a1)
  have B104 := B103.mono (Nat.le_of_eq W104.size.symm)
  have O104 := O103.wr W104 (Nat.le_trans hb0 fr_a1)
  have K104 := K103.wr W104 (Or.inl (List.mem_of_getElem? (i := 0) rfl))
  have Fw104 := f105.same W104
  refine Go.of (fun _ hr => st104 _ hr) ?_
  show Go p e s below _ _ _ _ T104 (mkF m 17 #[.val (.ref a1), .val (.int (16 : Int32))] [])
  refine Go.of (fun _ hr => XS.aloadN X104.here hx rfl (hb hby d7_17) rfl rfl hr) ?_
  show Go p e s below _ _ _ _ T104 (mkF m 18 #[.val (.ref a1), .val (.int (16 : Int32))] [(.ref a1)])
  refine Go.of (fun _ hr => XS.iconst X104.here hx rfl (hb hby d7_18) hr) ?_
  show Go p e s below _ _ _ _ T104 (mkF m 19 #[.val (.ref a1), .val (.int (16 : Int32))] [(.int (0 : Int32)), (.ref a1)])
  have f108 := ((G2.ext E103).other W104 (Or.inr (slot_ne (Or.inl (hw _ (List.mem_of_getElem? (i := 57) rfl))) (Or.inl (hw _ (List.mem_of_getElem? (i := 55) rfl))) (by decide) (t := .byte) (t' := (.array .byte)) (by decide) (by decide))))
  have f109 := (f106.wr W104)
  obtain ⟨T107, h107, X107, e107, W107, st107⟩ := putFN X104 hx hZ hown (hw _ (List.mem_of_getElem? (i := 56) rfl)) Via.refl e104 f108 f109 (Or.inl (hw _ (List.mem_of_getElem? (i := 57) rfl))) (hw _ (List.mem_of_getElem? (i := 41) rfl)) (ty := .byte) (v := (.int (0 : Int32))) (v' := (.int (0 : Int32))) (by decide) rfl rfl (g := (mkF m 19 #[.val (.ref a1), .val (.int (16 : Int32))] [(.int (0 : Int32)), (.ref a1)])) rfl rfl (hb hby d7_19)
  have N107 := Fr.snoc X107 N104 fr_a1
  have J107 := J104.wr W107 (List.mem_cons_of_mem _ hm_a1)
  have B107 := B104.mono (Nat.le_of_eq W107.size.symm)
  have O107 := O104.wr W107 (Nat.le_trans hb0 fr_a1)
  have K107 := K104.wr W107 (Or.inl (List.mem_of_getElem? (i := 0) rfl))
  have Fw107 := f108.same W107
  refine Go.of (fun _ hr => st107 _ hr) ?_
  show Go p e s below _ _ _ _ T107 (mkF m 22 #[.val (.ref a1), .val (.int (16 : Int32))] [])
  refine Go.of (fun _ hr => XS.goto X107.here hx rfl (pc0 := 22) (pc' := 38) rfl (hb hby d7_22) (by decide) (by decide) hr) ?_
  show Go p e s below _ _ _ _ T107 (mkF m 38 #[.val (.ref a1), .val (.int (16 : Int32))] [])
  have f110 := (Fw104.other W107 (Or.inr (slot_ne (Or.inl (hw _ (List.mem_of_getElem? (i := 55) rfl))) (Or.inl (hw _ (List.mem_of_getElem? (i := 57) rfl))) (by decide) (t := (.array .byte)) (t' := .byte) (by decide) (by decide))))
  have f111 := (((G3.ext E103).other W104 (Or.inr (slot_ne (Or.inl (hw _ (List.mem_of_getElem? (i := 82) rfl))) (Or.inl (hw _ (List.mem_of_getElem? (i := 55) rfl))) (by decide) (t := .int) (t' := (.array .byte)) (by decide) (by decide)))).other W107 (Or.inr (slot_ne (Or.inl (hw _ (List.mem_of_getElem? (i := 82) rfl))) (Or.inl (hw _ (List.mem_of_getElem? (i := 57) rfl))) (by decide) (t := .int) (t' := .byte) (by decide) (by decide))))
  have f112 := (((G4.ext E103).other W104 (Or.inr (slot_ne (Or.inl (hw _ (List.mem_of_getElem? (i := 240) rfl))) (Or.inl (hw _ (List.mem_of_getElem? (i := 55) rfl))) (by decide) (t := .boolean) (t' := (.array .byte)) (by decide) (by decide)))).other W107 (Or.inr (slot_ne (Or.inl (hw _ (List.mem_of_getElem? (i := 240) rfl))) (Or.inl (hw _ (List.mem_of_getElem? (i := 57) rfl))) (by decide) (t := .boolean) (t' := .byte) (by decide) (by decide))))
  have f113 := ((V103.other W104 (Ne.symm ne_a1_o103)).other W107 (Ne.symm ne_a1_o103))
  exact Go.retV X107 hx hlk B107 (J107.sub fun x hx => (List.mem_cons_of_mem _ hx)) e107 hret (hb hby d7_38) (by decide) (by decide) (fun vm_ hw_ => ⟨rfl, N107, K107, _, _, sz103, f110, Fw107, f111, f112, f113, J107.warm hw_⟩)

theorem pn5 : plainName "java/lang/StringBuilder" = true := by first | (simp [plainName, overriddenIn]; done) | decide +kernel
theorem d6_0 : decode jdk_67_method_1_code 0 = .ok (.aload_n 0, 1) := by decide +kernel
theorem d6_1 : decode jdk_67_method_1_code 1 = .ok (.bipush 16, 2) := by decide +kernel
theorem d6_3 : decode jdk_67_method_1_code 3 = .ok (.invokespecial 1, 3) := by decide +kernel
theorem pd21 : parseMethodDescriptor "(I)V" = some ⟨[.int], none⟩ := by decide +kernel
theorem d6_6 : decode jdk_67_method_1_code 6 = .ok (.return_, 1) := by decide +kernel
set_option maxRecDepth 65536 in
set_option maxHeartbeats 40000000 in
theorem rm6 (l : Launch) (Z : State) (a0 : Array Value) (hw : ∀ d ∈ tables_1, d.before a0 Z = true) (ws : List Jvm.Cond) (a1 : Addr) (u1 u2 : Value) (zc : Int32) (ms : List Addr) (h0 : Heap) (n0 : Nat) (O0 : Old Z n0 h0) (nb : Nat) (hb0 : n0 ≤ nb) (hnb : nb ≤ h0.size) (fr_a1 : nb ≤ a1) (hm_a1 : a1 ∈ ms) (Ea1 : Exa Z h0 a1 "java/lang/StringBuilder") (G1 : Fld Z h0 a1 "java/lang/AbstractStringBuilder" "value" "[B" u1) (G2 : Fld Z h0 a1 "java/lang/AbstractStringBuilder" "coder" "B" u2) (G3 : Fld Z h0 a1 "java/lang/AbstractStringBuilder" "count" "I" (.int 0)) (G4 : Fld Z h0 a1 "java/lang/AbstractStringBuilder" "maybeLatin1" "Z" (.int 0)) (S_C : Sta Z Z.heap "java/lang/String" "COMPACT_STRINGS" "Z" (.int zc)) (hzc : ¬ zc = 0) :
    Con l Z ms (⟨"java/lang/StringBuilder", "<init>", "()V"⟩ : MethodName) jdk_67_method_1_code 1 none ws ({ frames := 2, cells := 1, slots := 16, locals := 26 } : Room) #[(.ref a1)] h0 (fun v vm h L => v = none ∧ Fr nb L ∧ Keep h0 h [a1] ∧ ∃ v1 kv, h0.size ≤ v1 ∧ Fld Z h a1 "java/lang/AbstractStringBuilder" "value" "[B" (.ref v1) ∧ Fld Z h a1 "java/lang/AbstractStringBuilder" "coder" "B" (.int 0) ∧ Fld Z h a1 "java/lang/AbstractStringBuilder" "count" "I" (.int 0) ∧ Fld Z h a1 "java/lang/AbstractStringBuilder" "maybeLatin1" "Z" (.int 0) ∧ Arv Z h v1 kv .byte 16 [] (.int 0) ∧ Hd Z (v1 :: ms) vm h) := by
  refine Con.mk (plainFor_of_name pn5) ?_
  intro p e s m below meth c s₁ Cc X0 e0 eb J0 B0 M0
  obtain ⟨hx, hZ, hown, hby, hml, hnm, hret, hlk⟩ := id Cc
  have N0 := Fr.nil nb
  have K0 := Keep.refl h0 [a1]
  show Go p e s below _ _ _ _ s₁ (mkF m 0 #[.val (.ref a1)] [])
  refine Go.of (fun _ hr => XS.aloadN X0.here hx rfl (hb hby d6_0) rfl rfl hr) ?_
  show Go p e s below _ _ _ _ s₁ (mkF m 1 #[.val (.ref a1)] [(.ref a1)])
  refine Go.of (fun _ hr => XS.bipush X0.here hx rfl (hb hby d6_1) hr) ?_
  show Go p e s below _ _ _ _ s₁ (mkF m 3 #[.val (.ref a1)] [(.int (16 : Int32)), (.ref a1)])
  obtain ⟨_, b101, T101, h101, L101, e101, Cc101, X101, B101, J101, g101, hQ101, st101⟩ := own_callI Cc B0 J0 X0 rfl (hw _ (List.mem_of_getElem? (i := 46) rfl)) (hw _ (List.mem_of_getElem? (i := 47) rfl)) (hw _ (List.mem_of_getElem? (i := 50) rfl)) (hw _ (List.mem_of_getElem? (i := 51) rfl)) (by decide) (rm7 l Z a0 hw [] a1 _ _ zc _ h0 n0 O0 nb hb0 (Nat.le_trans hnb K0.1) fr_a1 hm_a1 Ea1 G1 G2 G3 G4 S_C hzc) e0 (g := (mkF m 3 #[.val (.ref a1)] [(.int (16 : Int32)), (.ref a1)])) rfl (by rw [hml]; rfl) (argsL := [(.int (16 : Int32))]) (rest := []) (lenOf pd21 rfl) rfl (W := 0) (by show 2 * 0 + _ ≤ _; exact Nat.le_of_eq rfl) (hb hby d6_3) (by decide) (by decide) (by decide) (by decide)
  obtain ⟨rfl, Nq101, Kq101, v101, kv101, R_v101, Gv101, Gc101, Gn101, Gm101, W101_, Jv101⟩ := hQ101
  have N101 := Fr.app N0 Nq101
  obtain ⟨hx, hZ, hown, hby, hml, hnm, hret, hlk⟩ := id Cc101
  have sz_v101 : h0.size ≤ v101 := Nat.le_trans K0.1 R_v101
  have fr_v101 : nb ≤ v101 := Nat.le_trans hnb sz_v101
  have ne_a1_v101 : a1 ≠ v101 := Nat.ne_of_lt (Nat.lt_of_lt_of_le Ea1.lt R_v101)
  have K101 := K0.trans Kq101 (allS (Or.inl (List.mem_of_getElem? (i := 0) rfl)) all0)
  have O101 := O0.keep Kq101 (allS (Nat.le_trans hb0 fr_a1) all0)
  refine Go.of st101 ?_
  show Go p e s below _ _ _ _ T101 (mkF m 6 #[.val (.ref a1)] [])
  exact Go.retV X101 hx hlk B101 (Jv101.sub fun x hx => (List.mem_cons_of_mem _ hx)) e101 hret (hb hby d6_6) (by decide) (by decide) (fun vm_ hw_ => ⟨rfl, N101, K101, _, _, sz_v101, Gv101, Gc101, Gn101, Gm101, W101_, Jv101.warm hw_⟩)

theorem d12_0 : decode jdk_68_method_9_code 0 = .ok (.aload_n 0, 1) := by decide +kernel
theorem d12_1 : decode jdk_68_method_9_code 1 = .ok (.getfield 15, 3) := by decide +kernel
theorem d12_4 : decode jdk_68_method_9_code 4 = .ok (.arraylength, 1) := by decide +kernel
theorem d12_5 : decode jdk_68_method_9_code 5 = .ok (.aload_n 0, 1) := by decide +kernel
theorem d12_6 : decode jdk_68_method_9_code 6 = .ok (.getfield 22, 3) := by decide +kernel
theorem d12_9 : decode jdk_68_method_9_code 9 = .ok (.ishr, 1) := by decide +kernel
theorem d12_10 : decode jdk_68_method_9_code 10 = .ok (.istore_n 2, 1) := by decide +kernel
theorem d12_11 : decode jdk_68_method_9_code 11 = .ok (.iload_n 1, 1) := by decide +kernel
theorem d12_12 : decode jdk_68_method_9_code 12 = .ok (.iload_n 2, 1) := by decide +kernel
theorem d12_13 : decode jdk_68_method_9_code 13 = .ok (.isub, 1) := by decide +kernel
theorem d12_14 : decode jdk_68_method_9_code 14 = .ok (.ifCond .le 24, 3) := by decide +kernel
theorem d12_38 : decode jdk_68_method_9_code 38 = .ok (.return_, 1) := by decide +kernel
set_option maxRecDepth 65536 in
set_option maxHeartbeats 40000000 in
theorem rm12 (l : Launch) (Z : State) (a0 : Array Value) (hw : ∀ d ∈ tables_1, d.before a0 Z = true) (ws : List Jvm.Cond) (a1 v1 : Addr) (kv : ClassId) (cs : List Int32) (bc : Int32) (bs : List Int32) (nn : Nat) (j : Nat) (ms : List Addr) (h0 : Heap) (n0 : Nat) (O0 : Old Z n0 h0) (nb : Nat) (hb0 : n0 ≤ nb) (hnb : nb ≤ h0.size) (Ea1 : Exa Z h0 a1 "java/lang/StringBuilder") (Gv : Fld Z h0 a1 "java/lang/AbstractStringBuilder" "value" "[B" (.ref v1)) (Gc : Fld Z h0 a1 "java/lang/AbstractStringBuilder" "coder" "B" (.int bc)) (Gn : Fld Z h0 a1 "java/lang/AbstractStringBuilder" "count" "I" (.int (Int32.ofNat cs.length))) (Gm : Fld Z h0 a1 "java/lang/AbstractStringBuilder" "maybeLatin1" "Z" (.int 0)) (W1 : Arv Z h0 v1 kv .byte (Int32.ofNat nn) (bs.map Value.int) (.int 0)) (hbo : BOf cs bc bs nn) (hcl : cs.length ≤ 16) (hj : j ≤ 16) :
    Con l Z ms (⟨"java/lang/AbstractStringBuilder", "ensureCapacityInternal", "(I)V"⟩ : MethodName) jdk_68_method_9_code 3 none ws ({ frames := 0, cells := 0, slots := 0, locals := 0 } : Room) #[(.ref a1), (.int (Int32.ofNat j))] h0 (fun v vm h L => v = none ∧ Fr nb L ∧ h = h0) := by
  refine Con.mk (plainFor_of_name pn4) ?_
  intro p e s m below meth c s₁ Cc X0 e0 eb J0 B0 M0
  obtain ⟨hx, hZ, hown, hby, hml, hnm, hret, hlk⟩ := id Cc
  have N0 := Fr.nil h0.size
  have K0 := Keep.refl h0 []
  show Go p e s below _ _ _ _ s₁ (mkF m 0 #[.val (.ref a1), .val (.int (Int32.ofNat j)), .unset] [])
  refine Go.of (fun _ hr => XS.aloadN X0.here hx rfl (hb hby d12_0) rfl rfl hr) ?_
  show Go p e s below _ _ _ _ s₁ (mkF m 1 #[.val (.ref a1), .val (.int (Int32.ofNat j)), .unset] [(.ref a1)])
  obtain ⟨T101, X101, e101, st101⟩ := getF X0 hx hZ hown (host := "") (Or.inl (hw _ (List.mem_of_getElem? (i := 54) rfl))) Via.refl e0 Gv (g := (mkF m 1 #[.val (.ref a1), .val (.int (Int32.ofNat j)), .unset] [(.ref a1)])) rfl rfl (hb hby d12_1)
  refine Go.of (fun _ hr => st101 _ hr) ?_
  show Go p e s below _ _ _ _ T101 (mkF m 4 #[.val (.ref a1), .val (.int (Int32.ofNat j)), .unset] [(.ref v1)])
  obtain ⟨cl102, Ar102, q102, S102, N102_, H102, G102⟩ := id W1
  refine Go.of (fun _ hr => X101.arraylength hx (by rw [e101]; exact Ar102.1) (State.isArrayOf_alike hZ.alike Ar102.2.1) (g := (mkF m 4 #[.val (.ref a1), .val (.int (Int32.ofNat j)), .unset] [(.ref v1)])) rfl rfl (hb hby d12_4) _ hr) ?_
  rw [len_of S102 N102_]
  show Go p e s below _ _ _ _ T101 (mkF m 5 #[.val (.ref a1), .val (.int (Int32.ofNat j)), .unset] [(.int (Int32.ofNat nn))])
  refine Go.of (fun _ hr => XS.aloadN X101.here hx rfl (hb hby d12_5) rfl rfl hr) ?_
  show Go p e s below _ _ _ _ T101 (mkF m 6 #[.val (.ref a1), .val (.int (Int32.ofNat j)), .unset] [(.ref a1), (.int (Int32.ofNat nn))])
  obtain ⟨T103, X103, e103, st103⟩ := getF X101 hx hZ hown (host := "") (Or.inl (hw _ (List.mem_of_getElem? (i := 56) rfl))) Via.refl e101 Gc (g := (mkF m 6 #[.val (.ref a1), .val (.int (Int32.ofNat j)), .unset] [(.ref a1), (.int (Int32.ofNat nn))])) rfl rfl (hb hby d12_6)
  refine Go.of (fun _ hr => st103 _ hr) ?_
  show Go p e s below _ _ _ _ T103 (mkF m 9 #[.val (.ref a1), .val (.int (Int32.ofNat j)), .unset] [(.int bc), (.int (Int32.ofNat nn))])
  refine Go.of (fun _ hr => XS.ishr X103.here hx rfl (hb hby d12_9) rfl hr) ?_
  show Go p e s below _ _ _ _ T103 (mkF m 10 #[.val (.ref a1), .val (.int (Int32.ofNat j)), .unset] [(.int ((Int32.ofNat nn) >>> (bc &&& 31)))])
  rw [bo_sh hbo]
  show Go p e s below _ _ _ _ T103 (mkF m 10 #[.val (.ref a1), .val (.int (Int32.ofNat j)), .unset] [(.int (16 : Int32))])
  refine Go.of (fun _ hr => XS.istoreN X103.here hx rfl (hb hby d12_10) rfl (l' := #[.val (.ref a1), .val (.int (Int32.ofNat j)), .val (.int (16 : Int32))]) rfl hr) ?_
  show Go p e s below _ _ _ _ T103 (mkF m 11 #[.val (.ref a1), .val (.int (Int32.ofNat j)), .val (.int (16 : Int32))] [])
  refine Go.of (fun _ hr => XS.iloadN X103.here hx rfl (hb hby d12_11) rfl  hr) ?_
  show Go p e s below _ _ _ _ T103 (mkF m 12 #[.val (.ref a1), .val (.int (Int32.ofNat j)), .val (.int (16 : Int32))] [(.int (Int32.ofNat j))])
  refine Go.of (fun _ hr => XS.iloadN X103.here hx rfl (hb hby d12_12) rfl  hr) ?_
  show Go p e s below _ _ _ _ T103 (mkF m 13 #[.val (.ref a1), .val (.int (Int32.ofNat j)), .val (.int (16 : Int32))] [(.int (16 : Int32)), (.int (Int32.ofNat j))])
  refine Go.of (fun _ hr => XS.isub X103.here hx rfl (hb hby d12_13) rfl hr) ?_
  show Go p e s below _ _ _ _ T103 (mkF m 14 #[.val (.ref a1), .val (.int (Int32.ofNat j)), .val (.int (16 : Int32))] [(.int ((Int32.ofNat j) - (16 : Int32)))])
  refine Go.of (fun _ hr => XS.ifYes X103.here hx rfl (pc0 := 14) (pc' := 38) rfl (hb hby d12_14) rfl ((if0 _ _).trans (flt (own_ens hj)).2.2.2) (by decide) (by decide) hr) ?_
  show Go p e s below _ _ _ _ T103 (mkF m 38 #[.val (.ref a1), .val (.int (Int32.ofNat j)), .val (.int (16 : Int32))] [])
  exact Go.retV X103 hx hlk B0 J0 e103 hret (hb hby d12_38) (by decide) (by decide) (fun vm_ hw_ => ⟨rfl, (fun y hy => Nat.le_trans hnb (N0 y hy)), rfl⟩)

theorem d22_0 : decode jdk_68_method_68_code 0 = .ok (.getstatic 18, 3) := by decide +kernel
theorem d22_3 : decode jdk_68_method_68_code 3 = .ok (.ifCond .eq 14, 3) := by decide +kernel
theorem d22_6 : decode jdk_68_method_68_code 6 = .ok (.aload_n 0, 1) := by decide +kernel
theorem d22_7 : decode jdk_68_method_68_code 7 = .ok (.getfield 22, 3) := by decide +kernel
theorem d22_10 : decode jdk_68_method_68_code 10 = .ok (.ifCond .ne 7, 3) := by decide +kernel
theorem d22_13 : decode jdk_68_method_68_code 13 = .ok (.iconst 1, 1) := by decide +kernel
theorem d22_14 : decode jdk_68_method_68_code 14 = .ok (.goto 4, 3) := by decide +kernel
theorem d22_18 : decode jdk_68_method_68_code 18 = .ok (.ireturn, 1) := by decide +kernel
set_option maxRecDepth 65536 in
set_option maxHeartbeats 40000000 in
theorem rm22 (l : Launch) (Z : State) (a0 : Array Value) (hw : ∀ d ∈ tables_1, d.before a0 Z = true) (ws : List Jvm.Cond) (a1 : Addr) (zc : Int32) (ms : List Addr) (h0 : Heap) (n0 : Nat) (O0 : Old Z n0 h0) (nb : Nat) (hb0 : n0 ≤ nb) (hnb : nb ≤ h0.size) (Ea1 : Exa Z h0 a1 "java/lang/StringBuilder") (Gc : Fld Z h0 a1 "java/lang/AbstractStringBuilder" "coder" "B" (.int 0)) (S_C : Sta Z Z.heap "java/lang/String" "COMPACT_STRINGS" "Z" (.int zc)) (hzc : ¬ zc = 0) :
    Con l Z ms (⟨"java/lang/AbstractStringBuilder", "isLatin1", "()Z"⟩ : MethodName) jdk_68_method_68_code 1 (some .boolean) ws ({ frames := 0, cells := 0, slots := 0, locals := 0 } : Room) #[(.ref a1)] h0 (fun v vm h L => v = some (.int 1) ∧ Fr nb L ∧ h = h0) := by
  refine Con.mk (plainFor_of_name pn4) ?_
  intro p e s m below meth c s₁ Cc X0 e0 eb J0 B0 M0
  obtain ⟨hx, hZ, hown, hby, hml, hnm, hret, hlk⟩ := id Cc
  have N0 := Fr.nil h0.size
  have K0 := Keep.refl h0 []
  show Go p e s below _ _ _ _ s₁ (mkF m 0 #[.val (.ref a1)] [])
  obtain ⟨T101, X101, e101, st101⟩ := getS2 X0 hx hZ hown (host := "") (Or.inl (hw _ (List.mem_of_getElem? (i := 53) rfl))) Via.refl e0 (S_C.ext O0.2) (g := (mkF m 0 #[.val (.ref a1)] [])) rfl (hb hby d22_0)
  refine Go.of (fun _ hr => st101 _ hr) ?_
  show Go p e s below _ _ _ _ T101 (mkF m 3 #[.val (.ref a1)] [(.int zc)])
  refine Go.of (fun _ hr => XS.ifNo X101.here hx rfl (hb hby d22_3) rfl ((if0 _ _).trans (feq hzc).1) hr) ?_
  show Go p e s below _ _ _ _ T101 (mkF m 6 #[.val (.ref a1)] [])
  refine Go.of (fun _ hr => XS.aloadN X101.here hx rfl (hb hby d22_6) rfl rfl hr) ?_
  show Go p e s below _ _ _ _ T101 (mkF m 7 #[.val (.ref a1)] [(.ref a1)])
  obtain ⟨T102, X102, e102, st102⟩ := getF X101 hx hZ hown (host := "") (Or.inl (hw _ (List.mem_of_getElem? (i := 56) rfl))) Via.refl e101 Gc (g := (mkF m 7 #[.val (.ref a1)] [(.ref a1)])) rfl rfl (hb hby d22_7)
  refine Go.of (fun _ hr => st102 _ hr) ?_
  show Go p e s below _ _ _ _ T102 (mkF m 10 #[.val (.ref a1)] [(.int (0 : Int32))])
  refine Go.of (fun _ hr => XS.ifNo X102.here hx rfl (hb hby d22_10) rfl ((if0 _ _).trans (teq (by decide : ((0 : Int32) = (0 : Int32)))).2) hr) ?_
  show Go p e s below _ _ _ _ T102 (mkF m 13 #[.val (.ref a1)] [])
  refine Go.of (fun _ hr => XS.iconst X102.here hx rfl (hb hby d22_13) hr) ?_
  show Go p e s below _ _ _ _ T102 (mkF m 14 #[.val (.ref a1)] [(.int (1 : Int32))])
  refine Go.of (fun _ hr => XS.goto X102.here hx rfl (pc0 := 14) (pc' := 18) rfl (hb hby d22_14) (by decide) (by decide) hr) ?_
  show Go p e s below _ _ _ _ T102 (mkF m 18 #[.val (.ref a1)] [(.int (1 : Int32))])
  exact Go.retN X102 hx hlk B0 J0 e102 (t := .boolean) (z' := (1 : Int32)) hret (by simp) (hb hby d22_18) rfl (by decide) (by decide) (fun vm_ hw_ => ⟨rfl, (fun y hy => Nat.le_trans hnb (N0 y hy)), rfl⟩)

theorem d22_17 : decode jdk_68_method_68_code 17 = .ok (.iconst 0, 1) := by decide +kernel
set_option maxRecDepth 65536 in
set_option maxHeartbeats 40000000 in
theorem rmU22 (l : Launch) (Z : State) (a0 : Array Value) (hw : ∀ d ∈ tables_1, d.before a0 Z = true) (ws : List Jvm.Cond) (a1 : Addr) (zc : Int32) (ms : List Addr) (h0 : Heap) (n0 : Nat) (O0 : Old Z n0 h0) (nb : Nat) (hb0 : n0 ≤ nb) (hnb : nb ≤ h0.size) (Ea1 : Exa Z h0 a1 "java/lang/StringBuilder") (Gc : Fld Z h0 a1 "java/lang/AbstractStringBuilder" "coder" "B" (.int 1)) (S_C : Sta Z Z.heap "java/lang/String" "COMPACT_STRINGS" "Z" (.int zc)) (hzc : ¬ zc = 0) :
    Con l Z ms (⟨"java/lang/AbstractStringBuilder", "isLatin1", "()Z"⟩ : MethodName) jdk_68_method_68_code 1 (some .boolean) ws ({ frames := 0, cells := 0, slots := 0, locals := 0 } : Room) #[(.ref a1)] h0 (fun v vm h L => v = some (.int 0) ∧ Fr nb L ∧ h = h0) := by
  refine Con.mk (plainFor_of_name pn4) ?_
  intro p e s m below meth c s₁ Cc X0 e0 eb J0 B0 M0
  obtain ⟨hx, hZ, hown, hby, hml, hnm, hret, hlk⟩ := id Cc
  have N0 := Fr.nil h0.size
  have K0 := Keep.refl h0 []
  show Go p e s below _ _ _ _ s₁ (mkF m 0 #[.val (.ref a1)] [])
  obtain ⟨T101, X101, e101, st101⟩ := getS2 X0 hx hZ hown (host := "") (Or.inl (hw _ (List.mem_of_getElem? (i := 53) rfl))) Via.refl e0 (S_C.ext O0.2) (g := (mkF m 0 #[.val (.ref a1)] [])) rfl (hb hby d22_0)
  refine Go.of (fun _ hr => st101 _ hr) ?_
  show Go p e s below _ _ _ _ T101 (mkF m 3 #[.val (.ref a1)] [(.int zc)])
  refine Go.of (fun _ hr => XS.ifNo X101.here hx rfl (hb hby d22_3) rfl ((if0 _ _).trans (feq hzc).1) hr) ?_
  show Go p e s below _ _ _ _ T101 (mkF m 6 #[.val (.ref a1)] [])
  refine Go.of (fun _ hr => XS.aloadN X101.here hx rfl (hb hby d22_6) rfl rfl hr) ?_
  show Go p e s below _ _ _ _ T101 (mkF m 7 #[.val (.ref a1)] [(.ref a1)])
  obtain ⟨T102, X102, e102, st102⟩ := getF X101 hx hZ hown (host := "") (Or.inl (hw _ (List.mem_of_getElem? (i := 56) rfl))) Via.refl e101 Gc (g := (mkF m 7 #[.val (.ref a1)] [(.ref a1)])) rfl rfl (hb hby d22_7)
  refine Go.of (fun _ hr => st102 _ hr) ?_
  show Go p e s below _ _ _ _ T102 (mkF m 10 #[.val (.ref a1)] [(.int (1 : Int32))])
  refine Go.of (fun _ hr => XS.ifYes X102.here hx rfl (pc0 := 10) (pc' := 17) rfl (hb hby d22_10) rfl ((if0 _ _).trans (feq (by decide : ¬ ((1 : Int32) = (0 : Int32)))).2) (by decide) (by decide) hr) ?_
  show Go p e s below _ _ _ _ T102 (mkF m 17 #[.val (.ref a1)] [])
  refine Go.of (fun _ hr => XS.iconst X102.here hx rfl (hb hby d22_17) hr) ?_
  show Go p e s below _ _ _ _ T102 (mkF m 18 #[.val (.ref a1)] [(.int (0 : Int32))])
  exact Go.retN X102 hx hlk B0 J0 e102 (t := .boolean) (z' := (0 : Int32)) hret (by simp) (hb hby d22_18) rfl (by decide) (by decide) (fun vm_ hw_ => ⟨rfl, (fun y hy => Nat.le_trans hnb (N0 y hy)), rfl⟩)

theorem d40_0 : decode jdk_68_method_11_code 0 = .ok (.aload_n 0, 1) := by decide +kernel
theorem d40_1 : decode jdk_68_method_11_code 1 = .ok (.invokevirtual 83, 3) := by decide +kernel
theorem d40_4 : decode jdk_68_method_11_code 4 = .ok (.ifCond .ne 4, 3) := by decide +kernel
theorem d40_7 : decode jdk_68_method_11_code 7 = .ok (.return_, 1) := by decide +kernel
set_option maxRecDepth 65536 in
set_option maxHeartbeats 40000000 in
theorem rm40 (l : Launch) (Z : State) (a0 : Array Value) (hw : ∀ d ∈ tables_1, d.before a0 Z = true) (ws : List Jvm.Cond) (a1 : Addr) (zc : Int32) (ms : List Addr) (h0 : Heap) (n0 : Nat) (O0 : Old Z n0 h0) (nb : Nat) (hb0 : n0 ≤ nb) (hnb : nb ≤ h0.size) (Ea1 : Exa Z h0 a1 "java/lang/StringBuilder") (Gc : Fld Z h0 a1 "java/lang/AbstractStringBuilder" "coder" "B" (.int 1)) (S_C : Sta Z Z.heap "java/lang/String" "COMPACT_STRINGS" "Z" (.int zc)) (hzc : ¬ zc = 0) :
    Con l Z ms (⟨"java/lang/AbstractStringBuilder", "inflate", "()V"⟩ : MethodName) jdk_68_method_11_code 2 none ws ({ frames := 1, cells := 0, slots := 0, locals := 12 } : Room) #[(.ref a1)] h0 (fun v vm h L => v = none ∧ Fr nb L ∧ h = h0) := by
  refine Con.mk (plainFor_of_name pn4) ?_
  intro p e s m below meth c s₁ Cc X0 e0 eb J0 B0 M0
  obtain ⟨hx, hZ, hown, hby, hml, hnm, hret, hlk⟩ := id Cc
  have N0 := Fr.nil h0.size
  have K0 := Keep.refl h0 []
  show Go p e s below _ _ _ _ s₁ (mkF m 0 #[.val (.ref a1), .unset] [])
  refine Go.of (fun _ hr => XS.aloadN X0.here hx rfl (hb hby d40_0) rfl rfl hr) ?_
  show Go p e s below _ _ _ _ s₁ (mkF m 1 #[.val (.ref a1), .unset] [(.ref a1)])
  obtain ⟨_, b101, T101, h101, L101, e101, Cc101, X101, B101, J101, g101, hQ101, st101⟩ := own_callV Cc B0 J0 X0 (hw _ (List.mem_of_getElem? (i := 212) rfl)) (hw _ (List.mem_of_getElem? (i := 136) rfl)) (notFace_of_selects (args := #[]) (mvT hZ (hw _ (List.mem_of_getElem? (i := 138) rfl)))) (hw _ (List.mem_of_getElem? (i := 138) rfl)) (hw _ (List.mem_of_getElem? (i := 137) rfl)) (hw _ (List.mem_of_getElem? (i := 50) rfl)) (hw _ (List.mem_of_getElem? (i := 139) rfl)) (by decide) Ea1 (rmU22 l Z a0 hw [] a1 zc _ h0 n0 O0 h0.size (own_ole O0) K0.1 Ea1 Gc S_C hzc) e0 (g := (mkF m 1 #[.val (.ref a1), .unset] [(.ref a1)])) rfl (by rw [hml]; rfl) (argsL := []) (rest := []) (lenOf pd13 rfl) rfl (W := 0) (by show 2 * 0 + _ ≤ _; exact Nat.le_of_eq rfl) (hb hby d40_1) (by decide) (by decide) (by decide) (by decide)
  obtain ⟨rfl, Nq101, hh101⟩ := hQ101
  have N101 := Fr.app N0 Nq101
  obtain ⟨hx, hZ, hown, hby, hml, hnm, hret, hlk⟩ := id Cc101
  rw [hh101] at e101 B101 J101
  refine Go.of st101 ?_
  show Go p e s below _ _ _ _ T101 (mkF m 4 #[.val (.ref a1), .unset] [(.int (0 : Int32))])
  refine Go.of (fun _ hr => XS.ifNo X101.here hx rfl (hb hby d40_4) rfl ((if0 _ _).trans (teq (by decide : ((0 : Int32) = (0 : Int32)))).2) hr) ?_
  show Go p e s below _ _ _ _ T101 (mkF m 7 #[.val (.ref a1), .unset] [])
  exact Go.retV X101 hx hlk B101 J101 e101 hret (hb hby d40_7) (by decide) (by decide) (fun vm_ hw_ => ⟨rfl, (fun y hy => Nat.le_trans hnb (N101 y hy)), rfl⟩)

theorem d40_8 : decode jdk_68_method_11_code 8 = .ok (.aload_n 0, 1) := by decide +kernel
theorem d40_9 : decode jdk_68_method_11_code 9 = .ok (.getfield 15, 3) := by decide +kernel
theorem d40_12 : decode jdk_68_method_11_code 12 = .ok (.arraylength, 1) := by decide +kernel
theorem d40_13 : decode jdk_68_method_11_code 13 = .ok (.invokestatic 26, 3) := by decide +kernel
theorem d40_16 : decode jdk_68_method_11_code 16 = .ok (.astore_n 1, 1) := by decide +kernel
theorem d40_17 : decode jdk_68_method_11_code 17 = .ok (.aload_n 0, 1) := by decide +kernel
theorem d40_18 : decode jdk_68_method_11_code 18 = .ok (.getfield 15, 3) := by decide +kernel
theorem d40_21 : decode jdk_68_method_11_code 21 = .ok (.iconst 0, 1) := by decide +kernel
theorem d40_22 : decode jdk_68_method_11_code 22 = .ok (.aload_n 1, 1) := by decide +kernel
theorem d40_23 : decode jdk_68_method_11_code 23 = .ok (.iconst 0, 1) := by decide +kernel
theorem d40_24 : decode jdk_68_method_11_code 24 = .ok (.aload_n 0, 1) := by decide +kernel
theorem d40_25 : decode jdk_68_method_11_code 25 = .ok (.getfield 79, 3) := by decide +kernel
theorem d40_28 : decode jdk_68_method_11_code 28 = .ok (.invokestatic 125, 3) := by decide +kernel
theorem d40_31 : decode jdk_68_method_11_code 31 = .ok (.aload_n 0, 1) := by decide +kernel
theorem d40_32 : decode jdk_68_method_11_code 32 = .ok (.aload_n 1, 1) := by decide +kernel
theorem d40_33 : decode jdk_68_method_11_code 33 = .ok (.putfield 15, 3) := by decide +kernel
theorem d40_36 : decode jdk_68_method_11_code 36 = .ok (.aload_n 0, 1) := by decide +kernel
theorem d40_37 : decode jdk_68_method_11_code 37 = .ok (.iconst 1, 1) := by decide +kernel
theorem d40_38 : decode jdk_68_method_11_code 38 = .ok (.putfield 22, 3) := by decide +kernel
theorem d40_41 : decode jdk_68_method_11_code 41 = .ok (.return_, 1) := by decide +kernel
set_option maxRecDepth 65536 in
set_option maxHeartbeats 40000000 in
theorem rmC40 (l : Launch) (Z : State) (a0 : Array Value) (hw : ∀ d ∈ tables_1, d.before a0 Z = true) (ws : List Jvm.Cond) (a1 v1 : Addr) (kv : ClassId) (cs : List Int32) (zc : Int32) (ms : List Addr) (h0 : Heap) (n0 : Nat) (O0 : Old Z n0 h0) (nb : Nat) (hb0 : n0 ≤ nb) (hnb : nb ≤ h0.size) (fr_a1 : nb ≤ a1) (hm_a1 : a1 ∈ ms) (fs : Value) (hfs : fs = .null ∨ ∃ a, fs = .ref a) (S_F : Sta Z Z.heap "jdk/internal/util/Preconditions" "SIOOBE_FORMATTER" "Ljava/util/function/BiFunction;" fs) (S_D : Sta Z Z.heap "java/lang/StringUTF16" "$assertionsDisabled" "Z" (.int 1)) (S_H : Sta Z Z.heap "java/lang/StringUTF16" "HI_BYTE_SHIFT" "I" (.int 0)) (S_L : Sta Z Z.heap "java/lang/StringUTF16" "LO_BYTE_SHIFT" "I" (.int 8)) (Ea1 : Exa Z h0 a1 "java/lang/StringBuilder") (Gv : Fld Z h0 a1 "java/lang/AbstractStringBuilder" "value" "[B" (.ref v1)) (Gc : Fld Z h0 a1 "java/lang/AbstractStringBuilder" "coder" "B" (.int 0)) (Gn : Fld Z h0 a1 "java/lang/AbstractStringBuilder" "count" "I" (.int (Int32.ofNat cs.length))) (Gm : Fld Z h0 a1 "java/lang/AbstractStringBuilder" "maybeLatin1" "Z" (.int 0)) (W1 : Arv Z h0 v1 kv .byte (Int32.ofNat 16) ((cs.map lo8).map Value.int) (.int 0)) (hcl : cs.length ≤ 16) (hr : ∀ x ∈ cs, rng16 x) (hl : ∀ x ∈ cs, ¬ 255 < x) (nea : a1 ≠ v1) (S_C : Sta Z Z.heap "java/lang/String" "COMPACT_STRINGS" "Z" (.int zc)) (hzc : ¬ zc = 0) :
    Con l Z ms (⟨"java/lang/AbstractStringBuilder", "inflate", "()V"⟩ : MethodName) jdk_68_method_11_code 2 none ws ({ frames := 5, cells := 1, slots := 32, locals := 76 } : Room) #[(.ref a1)] h0 (fun v vm h L => v = none ∧ Fr nb L ∧ Keep h0 h [a1] ∧ ∃ d k, h0.size ≤ d ∧ Fld Z h a1 "java/lang/AbstractStringBuilder" "value" "[B" (.ref d) ∧ Fld Z h a1 "java/lang/AbstractStringBuilder" "coder" "B" (.int 1) ∧ Fld Z h a1 "java/lang/AbstractStringBuilder" "count" "I" (.int (Int32.ofNat cs.length)) ∧ Fld Z h a1 "java/lang/AbstractStringBuilder" "maybeLatin1" "Z" (.int 0) ∧ Arv Z h d k .byte (Int32.ofNat 32) ((utf cs).map Value.int) (.int 0) ∧ Hd Z (d :: ms) vm h) := by
  refine Con.mk (plainFor_of_name pn4) ?_
  intro p e s m below meth c s₁ Cc X0 e0 eb J0 B0 M0
  obtain ⟨hx, hZ, hown, hby, hml, hnm, hret, hlk⟩ := id Cc
  have N0 := Fr.nil nb
  have K0 := Keep.refl h0 [a1]
  show Go p e s below _ _ _ _ s₁ (mkF m 0 #[.val (.ref a1), .unset] [])
  refine Go.of (fun _ hr => XS.aloadN X0.here hx rfl (hb hby d40_0) rfl rfl hr) ?_
  show Go p e s below _ _ _ _ s₁ (mkF m 1 #[.val (.ref a1), .unset] [(.ref a1)])
  obtain ⟨_, b101, T101, h101, L101, e101, Cc101, X101, B101, J101, g101, hQ101, st101⟩ := own_callV Cc B0 J0 X0 (hw _ (List.mem_of_getElem? (i := 212) rfl)) (hw _ (List.mem_of_getElem? (i := 136) rfl)) (notFace_of_selects (args := #[]) (mvT hZ (hw _ (List.mem_of_getElem? (i := 138) rfl)))) (hw _ (List.mem_of_getElem? (i := 138) rfl)) (hw _ (List.mem_of_getElem? (i := 137) rfl)) (hw _ (List.mem_of_getElem? (i := 50) rfl)) (hw _ (List.mem_of_getElem? (i := 139) rfl)) (by decide) Ea1 (rm22 l Z a0 hw [] a1 zc _ h0 n0 O0 h0.size (own_ole O0) K0.1 Ea1 Gc S_C hzc) e0 (g := (mkF m 1 #[.val (.ref a1), .unset] [(.ref a1)])) rfl (by rw [hml]; rfl) (argsL := []) (rest := []) (lenOf pd13 rfl) rfl (W := 0) (by show 2 * 0 + _ ≤ _; exact Nat.le_of_eq rfl) (hb hby d40_1) (by decide) (by decide) (by decide) (by decide)
  obtain ⟨rfl, Nq101, hh101⟩ := hQ101
  have N101 := Fr.app N0 (show Fr nb _ from fun y hy => Nat.le_trans hnb (Nq101 y hy))
  have NS101 := Fr.app (Fr.nil _) Nq101
  obtain ⟨hx, hZ, hown, hby, hml, hnm, hret, hlk⟩ := id Cc101
  rw [hh101] at e101 B101 J101
  refine Go.of st101 ?_
  show Go p e s below _ _ _ _ T101 (mkF m 4 #[.val (.ref a1), .unset] [(.int (1 : Int32))])
  refine Go.of (fun _ hr => XS.ifYes X101.here hx rfl (pc0 := 4) (pc' := 8) rfl (hb hby d40_4) rfl ((if0 _ _).trans (feq (by decide : ¬ ((1 : Int32) = (0 : Int32)))).2) (by decide) (by decide) hr) ?_
  show Go p e s below _ _ _ _ T101 (mkF m 8 #[.val (.ref a1), .unset] [])
  refine Go.of (fun _ hr => XS.aloadN X101.here hx rfl (hb hby d40_8) rfl rfl hr) ?_
  show Go p e s below _ _ _ _ T101 (mkF m 9 #[.val (.ref a1), .unset] [(.ref a1)])
  obtain ⟨T102, X102, e102, st102⟩ := getF X101 hx hZ hown (host := "") (Or.inl (hw _ (List.mem_of_getElem? (i := 54) rfl))) Via.refl e101 Gv (g := (mkF m 9 #[.val (.ref a1), .unset] [(.ref a1)])) rfl rfl (hb hby d40_9)
  refine Go.of (fun _ hr => st102 _ hr) ?_
  show Go p e s below _ _ _ _ T102 (mkF m 12 #[.val (.ref a1), .unset] [(.ref v1)])
  obtain ⟨cl103, Ar103, q103, S103, N103_, H103, G103⟩ := id W1
  refine Go.of (fun _ hr => X102.arraylength hx (by rw [e102]; exact Ar103.1) (State.isArrayOf_alike hZ.alike Ar103.2.1) (g := (mkF m 12 #[.val (.ref a1), .unset] [(.ref v1)])) rfl rfl (hb hby d40_12) _ hr) ?_
  rw [len_of S103 N103_]
  show Go p e s below _ _ _ _ T102 (mkF m 13 #[.val (.ref a1), .unset] [(.int (Int32.ofNat 16))])
  show Go p e s below _ _ _ _ T102 (mkF m 13 #[.val (.ref a1), .unset] [(.int (16 : Int32))])
  obtain ⟨_, b104, T104, h104, L104, e104, Cc104, X104, B104, J104, g104, hQ104, st104⟩ := own_callS Cc101 B101 J101 X102 (hw _ (List.mem_of_getElem? (i := 213) rfl)) (hw _ (List.mem_of_getElem? (i := 214) rfl)) (hw _ (List.mem_of_getElem? (i := 199) rfl)) (hw _ (List.mem_of_getElem? (i := 215) rfl)) (by decide) (rm41 l Z a0 hw [] 16 _ h0 n0 O0 h0.size (own_ole O0) K0.1 (by decide)) e102 (g := (mkF m 13 #[.val (.ref a1), .unset] [(.int (16 : Int32))])) rfl (by rw [hml]; rfl) (argsL := [(.int (16 : Int32))]) (rest := []) (lenOf pd2 rfl) rfl (W := 0) (by show 2 * 0 + _ ≤ _; exact Nat.le_of_eq rfl) (hb hby d40_13) (by decide) (by decide) (by decide) (by decide)
  obtain ⟨d104, kd104, rfl, Nq104, Eq104, R_d104, Vd104, Jd104⟩ := hQ104
  have N104 := Fr.app N101 (show Fr nb _ from fun y hy => Nat.le_trans hnb (Nq104 y hy))
  have NS104 := Fr.app NS101 Nq104
  obtain ⟨hx, hZ, hown, hby, hml, hnm, hret, hlk⟩ := id Cc104
  have sz_d104 : h0.size ≤ d104 := Nat.le_trans K0.1 R_d104
  have fr_d104 : nb ≤ d104 := Nat.le_trans hnb sz_d104
  have ne_a1_d104 : a1 ≠ d104 := Nat.ne_of_lt (Nat.lt_of_lt_of_le Ea1.lt R_d104)
  have ne_v1_d104 : v1 ≠ d104 := Nat.ne_of_lt (Nat.lt_of_lt_of_le W1.lt R_d104)
  have K104 := K0.ext Eq104
  have O104 := O0.ext Eq104
  refine Go.of st104 ?_
  show Go p e s below _ _ _ _ T104 (mkF m 16 #[.val (.ref a1), .unset] [(.ref d104)])
  refine Go.of (fun _ hr => XS.astoreN X104.here hx rfl (hb hby d40_16) rfl rfl (l' := #[.val (.ref a1), .val (.ref d104)]) rfl hr) ?_
  show Go p e s below _ _ _ _ T104 (mkF m 17 #[.val (.ref a1), .val (.ref d104)] [])
  refine Go.of (fun _ hr => XS.aloadN X104.here hx rfl (hb hby d40_17) rfl rfl hr) ?_
  show Go p e s below _ _ _ _ T104 (mkF m 18 #[.val (.ref a1), .val (.ref d104)] [(.ref a1)])
  have f106 := (Gv.ext Eq104)
  obtain ⟨T105, X105, e105, st105⟩ := getF X104 hx hZ hown (host := "") (Or.inl (hw _ (List.mem_of_getElem? (i := 54) rfl))) Via.refl e104 f106 (g := (mkF m 18 #[.val (.ref a1), .val (.ref d104)] [(.ref a1)])) rfl rfl (hb hby d40_18)
  refine Go.of (fun _ hr => st105 _ hr) ?_
  show Go p e s below _ _ _ _ T105 (mkF m 21 #[.val (.ref a1), .val (.ref d104)] [(.ref v1)])
  refine Go.of (fun _ hr => XS.iconst X105.here hx rfl (hb hby d40_21) hr) ?_
  show Go p e s below _ _ _ _ T105 (mkF m 22 #[.val (.ref a1), .val (.ref d104)] [(.int (0 : Int32)), (.ref v1)])
  refine Go.of (fun _ hr => XS.aloadN X105.here hx rfl (hb hby d40_22) rfl rfl hr) ?_
  show Go p e s below _ _ _ _ T105 (mkF m 23 #[.val (.ref a1), .val (.ref d104)] [(.ref d104), (.int (0 : Int32)), (.ref v1)])
  refine Go.of (fun _ hr => XS.iconst X105.here hx rfl (hb hby d40_23) hr) ?_
  show Go p e s below _ _ _ _ T105 (mkF m 24 #[.val (.ref a1), .val (.ref d104)] [(.int (0 : Int32)), (.ref d104), (.int (0 : Int32)), (.ref v1)])
  refine Go.of (fun _ hr => XS.aloadN X105.here hx rfl (hb hby d40_24) rfl rfl hr) ?_
  show Go p e s below _ _ _ _ T105 (mkF m 25 #[.val (.ref a1), .val (.ref d104)] [(.ref a1), (.int (0 : Int32)), (.ref d104), (.int (0 : Int32)), (.ref v1)])
  have f108 := (Gn.ext Eq104)
  obtain ⟨T107, X107, e107, st107⟩ := getF X105 hx hZ hown (host := "") (Or.inl (hw _ (List.mem_of_getElem? (i := 81) rfl))) Via.refl e105 f108 (g := (mkF m 25 #[.val (.ref a1), .val (.ref d104)] [(.ref a1), (.int (0 : Int32)), (.ref d104), (.int (0 : Int32)), (.ref v1)])) rfl rfl (hb hby d40_25)
  refine Go.of (fun _ hr => st107 _ hr) ?_
  show Go p e s below _ _ _ _ T107 (mkF m 28 #[.val (.ref a1), .val (.ref d104)] [(.int (Int32.ofNat cs.length)), (.int (0 : Int32)), (.ref d104), (.int (0 : Int32)), (.ref v1)])
  have f110 := (W1.ext Eq104)
  obtain ⟨_, b109, T109, h109, L109, e109, Cc109, X109, B109, J109, g109, hQ109, st109⟩ := own_callS Cc104 B104 Jd104 X107 (hw _ (List.mem_of_getElem? (i := 220) rfl)) (hw _ (List.mem_of_getElem? (i := 221) rfl)) (hw _ (List.mem_of_getElem? (i := 171) rfl)) (hw _ (List.mem_of_getElem? (i := 222) rfl)) (by decide) (rm43 l Z a0 hw [] v1 d104 _ _ cs ([] : List Int32) 16 0 _ h104 n0 O104 h0.size (own_ole O0) K104.1 sz_d104 (List.mem_cons_self ..) fs hfs S_F S_D S_H S_L hr hl hcl (by decide) rfl (by rw [Nat.zero_add]; exact hcl) ne_v1_d104 f110 Vd104) e107 (g := (mkF m 28 #[.val (.ref a1), .val (.ref d104)] [(.int (Int32.ofNat cs.length)), (.int (0 : Int32)), (.ref d104), (.int (0 : Int32)), (.ref v1)])) rfl (by rw [hml]; rfl) (argsL := [(.ref v1), (.int (0 : Int32)), (.ref d104), (.int (0 : Int32)), (.int (Int32.ofNat cs.length))]) (rest := []) (lenOf pd20 rfl) rfl (W := 0) (by show 2 * 0 + _ ≤ _; exact Nat.le_of_eq rfl) (hb hby d40_28) (by decide) (by decide) (by decide) (by decide)
  obtain ⟨rfl, Nq109, Kq109, Vi109⟩ := hQ109
  have N109 := Fr.app N104 (show Fr nb _ from fun y hy => Nat.le_trans hnb (Nq109 y hy))
  have NS109 := Fr.app NS104 Nq109
  obtain ⟨hx, hZ, hown, hby, hml, hnm, hret, hlk⟩ := id Cc109
  have K109 := K104.trans Kq109 (allS (Or.inr sz_d104) all0)
  have O109 := O104.keep Kq109 (allS (Nat.le_trans hb0 fr_d104) all0)
  refine Go.of st109 ?_
  show Go p e s below _ _ _ _ T109 (mkF m 31 #[.val (.ref a1), .val (.ref d104)] [])
  refine Go.of (fun _ hr => XS.aloadN X109.here hx rfl (hb hby d40_31) rfl rfl hr) ?_
  show Go p e s below _ _ _ _ T109 (mkF m 32 #[.val (.ref a1), .val (.ref d104)] [(.ref a1)])
  refine Go.of (fun _ hr => XS.aloadN X109.here hx rfl (hb hby d40_32) rfl rfl hr) ?_
  show Go p e s below _ _ _ _ T109 (mkF m 33 #[.val (.ref a1), .val (.ref d104)] [(.ref d104), (.ref a1)])
  have f112 := (f106.keep Kq109 (ninS ne_a1_d104 nin0))
  have f113 := ((Ea1.ext Eq104).keep Kq109)
  obtain ⟨T111, h111, X111, e111, W111, st111⟩ := putF X109 hx hZ hown (host := "") (Or.inl (hw _ (List.mem_of_getElem? (i := 54) rfl))) Via.refl e109 f112 f113 (Or.inl (hw _ (List.mem_of_getElem? (i := 55) rfl))) (hw _ (List.mem_of_getElem? (i := 41) rfl)) (ty := (.array .byte)) (by decide) rfl rfl (g := (mkF m 33 #[.val (.ref a1), .val (.ref d104)] [(.ref d104), (.ref a1)])) rfl rfl (hb hby d40_33)
  have N111 := Fr.snoc X111 N109 fr_a1
  have J111 := J109.wr W111 (List.mem_cons_of_mem _ hm_a1)
  have B111 := B109.mono (Nat.le_of_eq W111.size.symm)
  have O111 := O109.wr W111 (Nat.le_trans hb0 fr_a1)
  have K111 := K109.wr W111 (Or.inl (List.mem_of_getElem? (i := 0) rfl))
  have Fw111 := f112.same W111
  refine Go.of (fun _ hr => st111 _ hr) ?_
  show Go p e s below _ _ _ _ T111 (mkF m 36 #[.val (.ref a1), .val (.ref d104)] [])
  refine Go.of (fun _ hr => XS.aloadN X111.here hx rfl (hb hby d40_36) rfl rfl hr) ?_
  show Go p e s below _ _ _ _ T111 (mkF m 37 #[.val (.ref a1), .val (.ref d104)] [(.ref a1)])
  refine Go.of (fun _ hr => XS.iconst X111.here hx rfl (hb hby d40_37) hr) ?_
  show Go p e s below _ _ _ _ T111 (mkF m 38 #[.val (.ref a1), .val (.ref d104)] [(.int (1 : Int32)), (.ref a1)])
  have f115 := (((Gc.ext Eq104).keep Kq109 (ninS ne_a1_d104 nin0)).other W111 (Or.inr (slot_ne (Or.inl (hw _ (List.mem_of_getElem? (i := 57) rfl))) (Or.inl (hw _ (List.mem_of_getElem? (i := 55) rfl))) (by decide) (t := .byte) (t' := (.array .byte)) (by decide) (by decide))))
  have f116 := (f113.wr W111)
  obtain ⟨T114, h114, X114, e114, W114, st114⟩ := putFN X111 hx hZ hown (hw _ (List.mem_of_getElem? (i := 56) rfl)) Via.refl e111 f115 f116 (Or.inl (hw _ (List.mem_of_getElem? (i := 57) rfl))) (hw _ (List.mem_of_getElem? (i := 41) rfl)) (ty := .byte) (v := (.int (1 : Int32))) (v' := (.int (1 : Int32))) (by decide) rfl rfl (g := (mkF m 38 #[.val (.ref a1), .val (.ref d104)] [(.int (1 : Int32)), (.ref a1)])) rfl rfl (hb hby d40_38)
  have N114 := Fr.snoc X114 N111 fr_a1
  have J114 := J111.wr W114 (List.mem_cons_of_mem _ hm_a1)
  have B114 := B111.mono (Nat.le_of_eq W114.size.symm)
  have O114 := O111.wr W114 (Nat.le_trans hb0 fr_a1)
  have K114 := K111.wr W114 (Or.inl (List.mem_of_getElem? (i := 0) rfl))
  have Fw114 := f115.same W114
  refine Go.of (fun _ hr => st114 _ hr) ?_
  show Go p e s below _ _ _ _ T114 (mkF m 41 #[.val (.ref a1), .val (.ref d104)] [])
  have f117 := (Fw111.other W114 (Or.inr (slot_ne (Or.inl (hw _ (List.mem_of_getElem? (i := 55) rfl))) (Or.inl (hw _ (List.mem_of_getElem? (i := 57) rfl))) (by decide) (t := (.array .byte)) (t' := .byte) (by decide) (by decide))))
  have f118 := (((f108.keep Kq109 (ninS ne_a1_d104 nin0)).other W111 (Or.inr (slot_ne (Or.inl (hw _ (List.mem_of_getElem? (i := 82) rfl))) (Or.inl (hw _ (List.mem_of_getElem? (i := 55) rfl))) (by decide) (t := .int) (t' := (.array .byte)) (by decide) (by decide)))).other W114 (Or.inr (slot_ne (Or.inl (hw _ (List.mem_of_getElem? (i := 82) rfl))) (Or.inl (hw _ (List.mem_of_getElem? (i := 57) rfl))) (by decide) (t := .int) (t' := .byte) (by decide) (by decide))))
  have f119 := ((((Gm.ext Eq104).keep Kq109 (ninS ne_a1_d104 nin0)).other W111 (Or.inr (slot_ne (Or.inl (hw _ (List.mem_of_getElem? (i := 240) rfl))) (Or.inl (hw _ (List.mem_of_getElem? (i := 55) rfl))) (by decide) (t := .boolean) (t' := (.array .byte)) (by decide) (by decide)))).other W114 (Or.inr (slot_ne (Or.inl (hw _ (List.mem_of_getElem? (i := 240) rfl))) (Or.inl (hw _ (List.mem_of_getElem? (i := 57) rfl))) (by decide) (t := .boolean) (t' := .byte) (by decide) (by decide))))
  have f120 := ((Vi109.other W111 (Ne.symm ne_a1_d104)).other W114 (Ne.symm ne_a1_d104))
  exact Go.retV X114 hx hlk B114 (J114.sub fun x hx => (List.mem_cons_of_mem _ hx)) e114 hret (hb hby d40_41) (by decide) (by decide) (fun vm_ hw_ => ⟨rfl, N114, K114, _, _, sz_d104, f117, Fw114, f118, f119, f120, J114.warm hw_⟩)

theorem d14_0 : decode jdk_68_method_71_code 0 = .ok (.getstatic 18, 3) := by decide +kernel
theorem d14_3 : decode jdk_68_method_71_code 3 = .ok (.ifCond .eq 18, 3) := by decide +kernel
theorem d14_6 : decode jdk_68_method_71_code 6 = .ok (.aload_n 0, 1) := by decide +kernel
theorem d14_7 : decode jdk_68_method_71_code 7 = .ok (.getfield 22, 3) := by decide +kernel
theorem d14_10 : decode jdk_68_method_71_code 10 = .ok (.aload_n 1, 1) := by decide +kernel
theorem d14_11 : decode jdk_68_method_71_code 11 = .ok (.invokevirtual 40, 3) := by decide +kernel
theorem d14_14 : decode jdk_68_method_71_code 14 = .ok (.if_icmp .eq 7, 3) := by decide +kernel
theorem d14_21 : decode jdk_68_method_71_code 21 = .ok (.return_, 1) := by decide +kernel
set_option maxRecDepth 65536 in
set_option maxHeartbeats 40000000 in
theorem rm14 (l : Launch) (Z : State) (a0 : Array Value) (hw : ∀ d ∈ tables_1, d.before a0 Z = true) (ws : List Jvm.Cond) (a1 : Addr) (s2 t2 : Addr) (k2 : ClassId) (c2 : List Int32) (cd : Int32) (b2 : List Int32) (zc : Int32) (ms : List Addr) (h0 : Heap) (n0 : Nat) (O0 : Old Z n0 h0) (nb : Nat) (hb0 : n0 ≤ nb) (hnb : nb ≤ h0.size) (Ea1 : Exa Z h0 a1 "java/lang/StringBuilder") (Gc : Fld Z h0 a1 "java/lang/AbstractStringBuilder" "coder" "B" (.int cd)) (Es2 : Exa Z h0 s2 "java/lang/String") (Fv2 : Fld Z h0 s2 "java/lang/String" "value" "[B" (.ref t2)) (Fc2 : Fld Z h0 s2 "java/lang/String" "coder" "B" (.int cd)) (hso : StrOf c2 cd b2) (V2 : Arv Z h0 t2 k2 .byte (Int32.ofNat b2.length) (b2.map Value.int) (.int 0)) (hn2 : c2.length ≤ 16) (hr2 : ∀ x ∈ c2, rng16 x) (S_C : Sta Z Z.heap "java/lang/String" "COMPACT_STRINGS" "Z" (.int zc)) (hzc : ¬ zc = 0) :
    Con l Z ms (⟨"java/lang/AbstractStringBuilder", "inflateIfNeededFor", "(Ljava/lang/String;)V"⟩ : MethodName) jdk_68_method_71_code 2 none ws ({ frames := 1, cells := 0, slots := 0, locals := 13 } : Room) #[(.ref a1), (.ref s2)] h0 (fun v vm h L => v = none ∧ Fr nb L ∧ h = h0) := by
  refine Con.mk (plainFor_of_name pn4) ?_
  intro p e s m below meth c s₁ Cc X0 e0 eb J0 B0 M0
  obtain ⟨hx, hZ, hown, hby, hml, hnm, hret, hlk⟩ := id Cc
  have N0 := Fr.nil h0.size
  have K0 := Keep.refl h0 []
  show Go p e s below _ _ _ _ s₁ (mkF m 0 #[.val (.ref a1), .val (.ref s2)] [])
  obtain ⟨T101, X101, e101, st101⟩ := getS2 X0 hx hZ hown (host := "") (Or.inl (hw _ (List.mem_of_getElem? (i := 53) rfl))) Via.refl e0 (S_C.ext O0.2) (g := (mkF m 0 #[.val (.ref a1), .val (.ref s2)] [])) rfl (hb hby d14_0)
  refine Go.of (fun _ hr => st101 _ hr) ?_
  show Go p e s below _ _ _ _ T101 (mkF m 3 #[.val (.ref a1), .val (.ref s2)] [(.int zc)])
  refine Go.of (fun _ hr => XS.ifNo X101.here hx rfl (hb hby d14_3) rfl ((if0 _ _).trans (feq hzc).1) hr) ?_
  show Go p e s below _ _ _ _ T101 (mkF m 6 #[.val (.ref a1), .val (.ref s2)] [])
  refine Go.of (fun _ hr => XS.aloadN X101.here hx rfl (hb hby d14_6) rfl rfl hr) ?_
  show Go p e s below _ _ _ _ T101 (mkF m 7 #[.val (.ref a1), .val (.ref s2)] [(.ref a1)])
  obtain ⟨T102, X102, e102, st102⟩ := getF X101 hx hZ hown (host := "") (Or.inl (hw _ (List.mem_of_getElem? (i := 56) rfl))) Via.refl e101 Gc (g := (mkF m 7 #[.val (.ref a1), .val (.ref s2)] [(.ref a1)])) rfl rfl (hb hby d14_7)
  refine Go.of (fun _ hr => st102 _ hr) ?_
  show Go p e s below _ _ _ _ T102 (mkF m 10 #[.val (.ref a1), .val (.ref s2)] [(.int cd)])
  refine Go.of (fun _ hr => XS.aloadN X102.here hx rfl (hb hby d14_10) rfl rfl hr) ?_
  show Go p e s below _ _ _ _ T102 (mkF m 11 #[.val (.ref a1), .val (.ref s2)] [(.ref s2), (.int cd)])
  obtain ⟨_, b103, T103, h103, L103, e103, Cc103, X103, B103, J103, g103, hQ103, st103⟩ := own_callV Cc B0 J0 X102 (hw _ (List.mem_of_getElem? (i := 98) rfl)) (hw _ (List.mem_of_getElem? (i := 75) rfl)) (notFace_of_selects (args := #[]) (mvT hZ (hw _ (List.mem_of_getElem? (i := 77) rfl)))) (hw _ (List.mem_of_getElem? (i := 77) rfl)) (hw _ (List.mem_of_getElem? (i := 76) rfl)) (hw _ (List.mem_of_getElem? (i := 7) rfl)) (hw _ (List.mem_of_getElem? (i := 78) rfl)) (by decide) Es2 (rm11 l Z a0 hw [] s2 c2 cd b2 zc _ h0 n0 O0 h0.size (own_ole O0) K0.1 Fc2 hso S_C hzc) e102 (g := (mkF m 11 #[.val (.ref a1), .val (.ref s2)] [(.ref s2), (.int cd)])) rfl (by rw [hml]; rfl) (argsL := []) (rest := [(.int cd)]) (lenOf pd8 rfl) rfl (W := 1) (by show 2 * 0 + _ ≤ _; exact Nat.le_of_eq rfl) (hb hby d14_11) (by decide) (by decide) (by decide) (by decide)
  obtain ⟨rfl, Nq103, hh103⟩ := hQ103
  have N103 := Fr.app N0 Nq103
  obtain ⟨hx, hZ, hown, hby, hml, hnm, hret, hlk⟩ := id Cc103
  rw [hh103] at e103 B103 J103
  refine Go.of st103 ?_
  show Go p e s below _ _ _ _ T103 (mkF m 14 #[.val (.ref a1), .val (.ref s2)] [(.int cd), (.int cd)])
  refine Go.of (fun _ hr => XS.icmpYes X103.here hx rfl (pc0 := 14) (pc' := 21) rfl (hb hby d14_14) rfl (teq rfl).1 (by decide) (by decide) hr) ?_
  show Go p e s below _ _ _ _ T103 (mkF m 21 #[.val (.ref a1), .val (.ref s2)] [])
  exact Go.retV X103 hx hlk B103 J103 e103 hret (hb hby d14_21) (by decide) (by decide) (fun vm_ hw_ => ⟨rfl, (fun y hy => Nat.le_trans hnb (N103 y hy)), rfl⟩)

theorem d14_17 : decode jdk_68_method_71_code 17 = .ok (.aload_n 0, 1) := by decide +kernel
theorem d14_18 : decode jdk_68_method_71_code 18 = .ok (.invokevirtual 195, 3) := by decide +kernel
theorem pd22 : parseMethodDescriptor "()V" = some ⟨[], none⟩ := by decide +kernel
set_option maxRecDepth 65536 in
set_option maxHeartbeats 40000000 in
theorem rmB14 (l : Launch) (Z : State) (a0 : Array Value) (hw : ∀ d ∈ tables_1, d.before a0 Z = true) (ws : List Jvm.Cond) (a1 : Addr) (s2 t2 : Addr) (k2 : ClassId) (c2 b2 : List Int32) (zc : Int32) (ms : List Addr) (h0 : Heap) (n0 : Nat) (O0 : Old Z n0 h0) (nb : Nat) (hb0 : n0 ≤ nb) (hnb : nb ≤ h0.size) (Ea1 : Exa Z h0 a1 "java/lang/StringBuilder") (Gc : Fld Z h0 a1 "java/lang/AbstractStringBuilder" "coder" "B" (.int 1)) (Es2 : Exa Z h0 s2 "java/lang/String") (Fv2 : Fld Z h0 s2 "java/lang/String" "value" "[B" (.ref t2)) (Fc2 : Fld Z h0 s2 "java/lang/String" "coder" "B" (.int 0)) (hso : StrOf c2 0 b2) (V2 : Arv Z h0 t2 k2 .byte (Int32.ofNat b2.length) (b2.map Value.int) (.int 0)) (hn2 : c2.length ≤ 16) (hr2 : ∀ x ∈ c2, rng16 x) (S_C : Sta Z Z.heap "java/lang/String" "COMPACT_STRINGS" "Z" (.int zc)) (hzc : ¬ zc = 0) :
    Con l Z ms (⟨"java/lang/AbstractStringBuilder", "inflateIfNeededFor", "(Ljava/lang/String;)V"⟩ : MethodName) jdk_68_method_71_code 2 none ws ({ frames := 2, cells := 0, slots := 0, locals := 25 } : Room) #[(.ref a1), (.ref s2)] h0 (fun v vm h L => v = none ∧ Fr nb L ∧ h = h0) := by
  refine Con.mk (plainFor_of_name pn4) ?_
  intro p e s m below meth c s₁ Cc X0 e0 eb J0 B0 M0
  obtain ⟨hx, hZ, hown, hby, hml, hnm, hret, hlk⟩ := id Cc
  have N0 := Fr.nil h0.size
  have K0 := Keep.refl h0 []
  show Go p e s below _ _ _ _ s₁ (mkF m 0 #[.val (.ref a1), .val (.ref s2)] [])
  obtain ⟨T101, X101, e101, st101⟩ := getS2 X0 hx hZ hown (host := "") (Or.inl (hw _ (List.mem_of_getElem? (i := 53) rfl))) Via.refl e0 (S_C.ext O0.2) (g := (mkF m 0 #[.val (.ref a1), .val (.ref s2)] [])) rfl (hb hby d14_0)
  refine Go.of (fun _ hr => st101 _ hr) ?_
  show Go p e s below _ _ _ _ T101 (mkF m 3 #[.val (.ref a1), .val (.ref s2)] [(.int zc)])
  refine Go.of (fun _ hr => XS.ifNo X101.here hx rfl (hb hby d14_3) rfl ((if0 _ _).trans (feq hzc).1) hr) ?_
  show Go p e s below _ _ _ _ T101 (mkF m 6 #[.val (.ref a1), .val (.ref s2)] [])
  refine Go.of (fun _ hr => XS.aloadN X101.here hx rfl (hb hby d14_6) rfl rfl hr) ?_
  show Go p e s below _ _ _ _ T101 (mkF m 7 #[.val (.ref a1), .val (.ref s2)] [(.ref a1)])
  obtain ⟨T102, X102, e102, st102⟩ := getF X101 hx hZ hown (host := "") (Or.inl (hw _ (List.mem_of_getElem? (i := 56) rfl))) Via.refl e101 Gc (g := (mkF m 7 #[.val (.ref a1), .val (.ref s2)] [(.ref a1)])) rfl rfl (hb hby d14_7)
  refine Go.of (fun _ hr => st102 _ hr) ?_
  show Go p e s below _ _ _ _ T102 (mkF m 10 #[.val (.ref a1), .val (.ref s2)] [(.int (1 : Int32))])
  refine Go.of (fun _ hr => XS.aloadN X102.here hx rfl (hb hby d14_10) rfl rfl hr) ?_
  show Go p e s below _ _ _ _ T102 (mkF m 11 #[.val (.ref a1), .val (.ref s2)] [(.ref s2), (.int (1 : Int32))])
  obtain ⟨_, b103, T103, h103, L103, e103, Cc103, X103, B103, J103, g103, hQ103, st103⟩ := own_callV Cc B0 J0 X102 (hw _ (List.mem_of_getElem? (i := 98) rfl)) (hw _ (List.mem_of_getElem? (i := 75) rfl)) (notFace_of_selects (args := #[]) (mvT hZ (hw _ (List.mem_of_getElem? (i := 77) rfl)))) (hw _ (List.mem_of_getElem? (i := 77) rfl)) (hw _ (List.mem_of_getElem? (i := 76) rfl)) (hw _ (List.mem_of_getElem? (i := 7) rfl)) (hw _ (List.mem_of_getElem? (i := 78) rfl)) (by decide) Es2 (rm11 l Z a0 hw [] s2 c2 (0 : Int32) b2 zc _ h0 n0 O0 h0.size (own_ole O0) K0.1 Fc2 hso S_C hzc) e102 (g := (mkF m 11 #[.val (.ref a1), .val (.ref s2)] [(.ref s2), (.int (1 : Int32))])) rfl (by rw [hml]; rfl) (argsL := []) (rest := [(.int (1 : Int32))]) (lenOf pd8 rfl) rfl (W := 1) (by show 2 * 0 + _ ≤ _; exact Nat.le_of_eq rfl) (hb hby d14_11) (by decide) (by decide) (by decide) (by decide)
  obtain ⟨rfl, Nq103, hh103⟩ := hQ103
  have N103 := Fr.app N0 Nq103
  obtain ⟨hx, hZ, hown, hby, hml, hnm, hret, hlk⟩ := id Cc103
  rw [hh103] at e103 B103 J103
  refine Go.of st103 ?_
  show Go p e s below _ _ _ _ T103 (mkF m 14 #[.val (.ref a1), .val (.ref s2)] [(.int (0 : Int32)), (.int (1 : Int32))])
  refine Go.of (fun _ hr => XS.icmpNo X103.here hx rfl (hb hby d14_14) rfl (feq (by decide : ¬ ((1 : Int32) = (0 : Int32)))).1 hr) ?_
  show Go p e s below _ _ _ _ T103 (mkF m 17 #[.val (.ref a1), .val (.ref s2)] [])
  refine Go.of (fun _ hr => XS.aloadN X103.here hx rfl (hb hby d14_17) rfl rfl hr) ?_
  show Go p e s below _ _ _ _ T103 (mkF m 18 #[.val (.ref a1), .val (.ref s2)] [(.ref a1)])
  obtain ⟨_, b104, T104, h104, L104, e104, Cc104, X104, B104, J104, g104, hQ104, st104⟩ := own_callV Cc103 B103 J103 X103 (hw _ (List.mem_of_getElem? (i := 207) rfl)) (own_decl (hw _ (List.mem_of_getElem? (i := 208) rfl)) (hw _ (List.mem_of_getElem? (i := 211) rfl))) (notFace_of_selects (args := #[]) (mvT hZ (hw _ (List.mem_of_getElem? (i := 210) rfl)))) (hw _ (List.mem_of_getElem? (i := 210) rfl)) (hw _ (List.mem_of_getElem? (i := 208) rfl)) (hw _ (List.mem_of_getElem? (i := 50) rfl)) (hw _ (List.mem_of_getElem? (i := 211) rfl)) (by decide) Ea1 (rm40 l Z a0 hw [] a1 zc _ h0 n0 O0 h0.size (own_ole O0) K0.1 Ea1 Gc S_C hzc) e103 (g := (mkF m 18 #[.val (.ref a1), .val (.ref s2)] [(.ref a1)])) rfl (by rw [hml]; rfl) (argsL := []) (rest := []) (lenOf pd22 rfl) rfl (W := 0) (by show 2 * 0 + _ ≤ _; exact Nat.le_of_eq rfl) (hb hby d14_18) (by decide) (by decide) (by decide) (by decide)
  obtain ⟨rfl, Nq104, hh104⟩ := hQ104
  have N104 := Fr.app N103 Nq104
  obtain ⟨hx, hZ, hown, hby, hml, hnm, hret, hlk⟩ := id Cc104
  rw [hh104] at e104 B104 J104
  refine Go.of st104 ?_
  show Go p e s below _ _ _ _ T104 (mkF m 21 #[.val (.ref a1), .val (.ref s2)] [])
  exact Go.retV X104 hx hlk B104 J104 e104 hret (hb hby d14_21) (by decide) (by decide) (fun vm_ hw_ => ⟨rfl, (fun y hy => Nat.le_trans hnb (N104 y hy)), rfl⟩)

set_option maxRecDepth 65536 in
set_option maxHeartbeats 40000000 in
theorem rmC14 (l : Launch) (Z : State) (a0 : Array Value) (hw : ∀ d ∈ tables_1, d.before a0 Z = true) (ws : List Jvm.Cond) (a1 v1 : Addr) (kv : ClassId) (cs : List Int32) (s2 t2 : Addr) (k2 : ClassId) (c2 b2 : List Int32) (zc : Int32) (ms : List Addr) (h0 : Heap) (n0 : Nat) (O0 : Old Z n0 h0) (nb : Nat) (hb0 : n0 ≤ nb) (hnb : nb ≤ h0.size) (fr_a1 : nb ≤ a1) (hm_a1 : a1 ∈ ms) (fs : Value) (hfs : fs = .null ∨ ∃ a, fs = .ref a) (S_F : Sta Z Z.heap "jdk/internal/util/Preconditions" "SIOOBE_FORMATTER" "Ljava/util/function/BiFunction;" fs) (S_D : Sta Z Z.heap "java/lang/StringUTF16" "$assertionsDisabled" "Z" (.int 1)) (S_H : Sta Z Z.heap "java/lang/StringUTF16" "HI_BYTE_SHIFT" "I" (.int 0)) (S_L : Sta Z Z.heap "java/lang/StringUTF16" "LO_BYTE_SHIFT" "I" (.int 8)) (Ea1 : Exa Z h0 a1 "java/lang/StringBuilder") (Gv : Fld Z h0 a1 "java/lang/AbstractStringBuilder" "value" "[B" (.ref v1)) (Gc : Fld Z h0 a1 "java/lang/AbstractStringBuilder" "coder" "B" (.int 0)) (Gn : Fld Z h0 a1 "java/lang/AbstractStringBuilder" "count" "I" (.int (Int32.ofNat cs.length))) (Gm : Fld Z h0 a1 "java/lang/AbstractStringBuilder" "maybeLatin1" "Z" (.int 0)) (W1 : Arv Z h0 v1 kv .byte (Int32.ofNat 16) ((cs.map lo8).map Value.int) (.int 0)) (hcl : cs.length ≤ 16) (hr : ∀ x ∈ cs, rng16 x) (hl : ∀ x ∈ cs, ¬ 255 < x) (nea : a1 ≠ v1) (nes : s2 ≠ a1) (net : t2 ≠ a1) (Es2 : Exa Z h0 s2 "java/lang/String") (Fv2 : Fld Z h0 s2 "java/lang/String" "value" "[B" (.ref t2)) (Fc2 : Fld Z h0 s2 "java/lang/String" "coder" "B" (.int 1)) (hso : StrOf c2 1 b2) (V2 : Arv Z h0 t2 k2 .byte (Int32.ofNat b2.length) (b2.map Value.int) (.int 0)) (hn2 : c2.length ≤ 16) (hr2 : ∀ x ∈ c2, rng16 x) (S_C : Sta Z Z.heap "java/lang/String" "COMPACT_STRINGS" "Z" (.int zc)) (hzc : ¬ zc = 0) :
    Con l Z ms (⟨"java/lang/AbstractStringBuilder", "inflateIfNeededFor", "(Ljava/lang/String;)V"⟩ : MethodName) jdk_68_method_71_code 2 none ws ({ frames := 6, cells := 1, slots := 32, locals := 89 } : Room) #[(.ref a1), (.ref s2)] h0 (fun v vm h L => v = none ∧ Fr nb L ∧ Keep h0 h [a1] ∧ ∃ d k, h0.size ≤ d ∧ Fld Z h a1 "java/lang/AbstractStringBuilder" "value" "[B" (.ref d) ∧ Fld Z h a1 "java/lang/AbstractStringBuilder" "coder" "B" (.int 1) ∧ Fld Z h a1 "java/lang/AbstractStringBuilder" "count" "I" (.int (Int32.ofNat cs.length)) ∧ Fld Z h a1 "java/lang/AbstractStringBuilder" "maybeLatin1" "Z" (.int 0) ∧ Arv Z h d k .byte (Int32.ofNat 32) ((utf cs).map Value.int) (.int 0) ∧ Hd Z (d :: ms) vm h) := by
  refine Con.mk (plainFor_of_name pn4) ?_
  intro p e s m below meth c s₁ Cc X0 e0 eb J0 B0 M0
  obtain ⟨hx, hZ, hown, hby, hml, hnm, hret, hlk⟩ := id Cc
  have N0 := Fr.nil nb
  have K0 := Keep.refl h0 [a1]
  show Go p e s below _ _ _ _ s₁ (mkF m 0 #[.val (.ref a1), .val (.ref s2)] [])
  obtain ⟨T101, X101, e101, st101⟩ := getS2 X0 hx hZ hown (host := "") (Or.inl (hw _ (List.mem_of_getElem? (i := 53) rfl))) Via.refl e0 (S_C.ext O0.2) (g := (mkF m 0 #[.val (.ref a1), .val (.ref s2)] [])) rfl (hb hby d14_0)
  refine Go.of (fun _ hr => st101 _ hr) ?_
  show Go p e s below _ _ _ _ T101 (mkF m 3 #[.val (.ref a1), .val (.ref s2)] [(.int zc)])
  refine Go.of (fun _ hr => XS.ifNo X101.here hx rfl (hb hby d14_3) rfl ((if0 _ _).trans (feq hzc).1) hr) ?_
  show Go p e s below _ _ _ _ T101 (mkF m 6 #[.val (.ref a1), .val (.ref s2)] [])
  refine Go.of (fun _ hr => XS.aloadN X101.here hx rfl (hb hby d14_6) rfl rfl hr) ?_
  show Go p e s below _ _ _ _ T101 (mkF m 7 #[.val (.ref a1), .val (.ref s2)] [(.ref a1)])
  obtain ⟨T102, X102, e102, st102⟩ := getF X101 hx hZ hown (host := "") (Or.inl (hw _ (List.mem_of_getElem? (i := 56) rfl))) Via.refl e101 Gc (g := (mkF m 7 #[.val (.ref a1), .val (.ref s2)] [(.ref a1)])) rfl rfl (hb hby d14_7)
  refine Go.of (fun _ hr => st102 _ hr) ?_
  show Go p e s below _ _ _ _ T102 (mkF m 10 #[.val (.ref a1), .val (.ref s2)] [(.int (0 : Int32))])
  refine Go.of (fun _ hr => XS.aloadN X102.here hx rfl (hb hby d14_10) rfl rfl hr) ?_
  show Go p e s below _ _ _ _ T102 (mkF m 11 #[.val (.ref a1), .val (.ref s2)] [(.ref s2), (.int (0 : Int32))])
  obtain ⟨_, b103, T103, h103, L103, e103, Cc103, X103, B103, J103, g103, hQ103, st103⟩ := own_callV Cc B0 J0 X102 (hw _ (List.mem_of_getElem? (i := 98) rfl)) (hw _ (List.mem_of_getElem? (i := 75) rfl)) (notFace_of_selects (args := #[]) (mvT hZ (hw _ (List.mem_of_getElem? (i := 77) rfl)))) (hw _ (List.mem_of_getElem? (i := 77) rfl)) (hw _ (List.mem_of_getElem? (i := 76) rfl)) (hw _ (List.mem_of_getElem? (i := 7) rfl)) (hw _ (List.mem_of_getElem? (i := 78) rfl)) (by decide) Es2 (rm11 l Z a0 hw [] s2 c2 (1 : Int32) b2 zc _ h0 n0 O0 h0.size (own_ole O0) K0.1 Fc2 hso S_C hzc) e102 (g := (mkF m 11 #[.val (.ref a1), .val (.ref s2)] [(.ref s2), (.int (0 : Int32))])) rfl (by rw [hml]; rfl) (argsL := []) (rest := [(.int (0 : Int32))]) (lenOf pd8 rfl) rfl (W := 1) (by show 2 * 0 + _ ≤ _; exact Nat.le_of_eq rfl) (hb hby d14_11) (by decide) (by decide) (by decide) (by decide)
  obtain ⟨rfl, Nq103, hh103⟩ := hQ103
  have N103 := Fr.app N0 (show Fr nb _ from fun y hy => Nat.le_trans hnb (Nq103 y hy))
  have NS103 := Fr.app (Fr.nil _) Nq103
  obtain ⟨hx, hZ, hown, hby, hml, hnm, hret, hlk⟩ := id Cc103
  rw [hh103] at e103 B103 J103
  refine Go.of st103 ?_
  show Go p e s below _ _ _ _ T103 (mkF m 14 #[.val (.ref a1), .val (.ref s2)] [(.int (1 : Int32)), (.int (0 : Int32))])
  refine Go.of (fun _ hr => XS.icmpNo X103.here hx rfl (hb hby d14_14) rfl (feq (by decide : ¬ ((0 : Int32) = (1 : Int32)))).1 hr) ?_
  show Go p e s below _ _ _ _ T103 (mkF m 17 #[.val (.ref a1), .val (.ref s2)] [])
  refine Go.of (fun _ hr => XS.aloadN X103.here hx rfl (hb hby d14_17) rfl rfl hr) ?_
  show Go p e s below _ _ _ _ T103 (mkF m 18 #[.val (.ref a1), .val (.ref s2)] [(.ref a1)])
  obtain ⟨_, b104, T104, h104, L104, e104, Cc104, X104, B104, J104, g104, hQ104, st104⟩ := own_callV Cc103 B103 J103 X103 (hw _ (List.mem_of_getElem? (i := 207) rfl)) (own_decl (hw _ (List.mem_of_getElem? (i := 208) rfl)) (hw _ (List.mem_of_getElem? (i := 211) rfl))) (notFace_of_selects (args := #[]) (mvT hZ (hw _ (List.mem_of_getElem? (i := 210) rfl)))) (hw _ (List.mem_of_getElem? (i := 210) rfl)) (hw _ (List.mem_of_getElem? (i := 208) rfl)) (hw _ (List.mem_of_getElem? (i := 50) rfl)) (hw _ (List.mem_of_getElem? (i := 211) rfl)) (by decide) Ea1 (rmC40 l Z a0 hw [] a1 v1 _ cs zc _ h0 n0 O0 nb hb0 (Nat.le_trans hnb K0.1) fr_a1 hm_a1 fs hfs S_F S_D S_H S_L Ea1 Gv Gc Gn Gm W1 hcl hr hl nea S_C hzc) e103 (g := (mkF m 18 #[.val (.ref a1), .val (.ref s2)] [(.ref a1)])) rfl (by rw [hml]; rfl) (argsL := []) (rest := []) (lenOf pd22 rfl) rfl (W := 0) (by show 2 * 0 + _ ≤ _; exact Nat.le_of_eq rfl) (hb hby d14_18) (by decide) (by decide) (by decide) (by decide)
  obtain ⟨rfl, Nq104, Kq104, d104, kd104, R_d104, Gv104, Gc104, Gn104, Gm104, Wd104, Jd104⟩ := hQ104
  have N104 := Fr.app N103 Nq104
  obtain ⟨hx, hZ, hown, hby, hml, hnm, hret, hlk⟩ := id Cc104
  have sz_d104 : h0.size ≤ d104 := Nat.le_trans K0.1 R_d104
  have fr_d104 : nb ≤ d104 := Nat.le_trans hnb sz_d104
  have ne_a1_d104 : a1 ≠ d104 := Nat.ne_of_lt (Nat.lt_of_lt_of_le Ea1.lt R_d104)
  have ne_v1_d104 : v1 ≠ d104 := Nat.ne_of_lt (Nat.lt_of_lt_of_le W1.lt R_d104)
  have ne_s2_d104 : s2 ≠ d104 := Nat.ne_of_lt (Nat.lt_of_lt_of_le Es2.lt R_d104)
  have ne_t2_d104 : t2 ≠ d104 := Nat.ne_of_lt (Nat.lt_of_lt_of_le V2.lt R_d104)
  have K104 := K0.trans Kq104 (allS (Or.inl (List.mem_of_getElem? (i := 0) rfl)) all0)
  have O104 := O0.keep Kq104 (allS (Nat.le_trans hb0 fr_a1) all0)
  refine Go.of st104 ?_
  show Go p e s below _ _ _ _ T104 (mkF m 21 #[.val (.ref a1), .val (.ref s2)] [])
  exact Go.retV X104 hx hlk B104 (Jd104.sub fun x hx => (List.mem_cons_of_mem _ hx)) e104 hret (hb hby d14_21) (by decide) (by decide) (fun vm_ hw_ => ⟨rfl, N104, K104, _, _, sz_d104, Gv104, Gc104, Gn104, Gm104, Wd104, Jd104.warm hw_⟩)

theorem d15_0 : decode jdk_42_method_147_code 0 = .ok (.aload_n 0, 1) := by decide +kernel
theorem d15_1 : decode jdk_42_method_147_code 1 = .ok (.invokevirtual 335, 3) := by decide +kernel
theorem d15_4 : decode jdk_42_method_147_code 4 = .ok (.iload_n 3, 1) := by decide +kernel
theorem d15_5 : decode jdk_42_method_147_code 5 = .ok (.if_icmp .ne 23, 3) := by decide +kernel
theorem d15_8 : decode jdk_42_method_147_code 8 = .ok (.aload_n 0, 1) := by decide +kernel
theorem d15_9 : decode jdk_42_method_147_code 9 = .ok (.getfield 9, 3) := by decide +kernel
theorem d15_12 : decode jdk_42_method_147_code 12 = .ok (.iconst 0, 1) := by decide +kernel
theorem d15_13 : decode jdk_42_method_147_code 13 = .ok (.aload_n 1, 1) := by decide +kernel
theorem d15_14 : decode jdk_42_method_147_code 14 = .ok (.iload_n 2, 1) := by decide +kernel
theorem d15_15 : decode jdk_42_method_147_code 15 = .ok (.iload_n 3, 1) := by decide +kernel
theorem d15_16 : decode jdk_42_method_147_code 16 = .ok (.ishl, 1) := by decide +kernel
theorem d15_17 : decode jdk_42_method_147_code 17 = .ok (.aload_n 0, 1) := by decide +kernel
theorem d15_18 : decode jdk_42_method_147_code 18 = .ok (.getfield 9, 3) := by decide +kernel
theorem d15_21 : decode jdk_42_method_147_code 21 = .ok (.arraylength, 1) := by decide +kernel
theorem d15_22 : decode jdk_42_method_147_code 22 = .ok (.invokestatic 212, 3) := by decide +kernel
theorem d15_25 : decode jdk_42_method_147_code 25 = .ok (.goto 18, 3) := by decide +kernel
theorem d15_43 : decode jdk_42_method_147_code 43 = .ok (.return_, 1) := by decide +kernel
set_option maxRecDepth 65536 in
set_option maxHeartbeats 40000000 in
theorem rm15 (l : Launch) (Z : State) (a0 : Array Value) (hw : ∀ d ∈ tables_1, d.before a0 Z = true) (ws : List Jvm.Cond) (v1 : Addr) (kv : ClassId) (bs : List Int32) (nn : Nat) (z1 : Int32) (s2 t2 : Addr) (k2 : ClassId) (c2 : List Int32) (cd : Int32) (b2 : List Int32) (zc : Int32) (ms : List Addr) (h0 : Heap) (n0 : Nat) (O0 : Old Z n0 h0) (nb : Nat) (hb0 : n0 ≤ nb) (hnb : nb ≤ h0.size) (fr_v1 : nb ≤ v1) (hm_v1 : v1 ∈ ms) (W1 : Arv Z h0 v1 kv .byte (Int32.ofNat nn) (bs.map Value.int) (.int 0)) (hz : z1 <<< (cd &&& 31) = Int32.ofNat bs.length) (Es2 : Exa Z h0 s2 "java/lang/String") (Fv2 : Fld Z h0 s2 "java/lang/String" "value" "[B" (.ref t2)) (Fc2 : Fld Z h0 s2 "java/lang/String" "coder" "B" (.int cd)) (hso : StrOf c2 cd b2) (V2 : Arv Z h0 t2 k2 .byte (Int32.ofNat b2.length) (b2.map Value.int) (.int 0)) (hn2 : c2.length ≤ 16) (hr2 : ∀ x ∈ c2, rng16 x) (hlb : bs.length + b2.length ≤ nn) (hn1 : nn ≤ 1000) (ne2 : t2 ≠ v1) (S_C : Sta Z Z.heap "java/lang/String" "COMPACT_STRINGS" "Z" (.int zc)) (hzc : ¬ zc = 0) :
    Con l Z ms (⟨"java/lang/String", "getBytes", "([BIB)V"⟩ : MethodName) jdk_42_method_147_code 4 none ws ({ frames := 1, cells := 0, slots := 0, locals := 40 } : Room) #[(.ref s2), (.ref v1), (.int z1), (.int cd)] h0 (fun v vm h L => v = none ∧ Fr nb L ∧ Keep h0 h [v1] ∧ Arv Z h v1 kv .byte (Int32.ofNat nn) ((bs ++ b2).map Value.int) (.int 0)) := by
  refine Con.mk (plainFor_of_name pn1) ?_
  intro p e s m below meth c s₁ Cc X0 e0 eb J0 B0 M0
  obtain ⟨hx, hZ, hown, hby, hml, hnm, hret, hlk⟩ := id Cc
  have N0 := Fr.nil nb
  have K0 := Keep.refl h0 [v1]
  show Go p e s below _ _ _ _ s₁ (mkF m 0 #[.val (.ref s2), .val (.ref v1), .val (.int z1), .val (.int cd)] [])
  refine Go.of (fun _ hr => XS.aloadN X0.here hx rfl (hb hby d15_0) rfl rfl hr) ?_
  show Go p e s below _ _ _ _ s₁ (mkF m 1 #[.val (.ref s2), .val (.ref v1), .val (.int z1), .val (.int cd)] [(.ref s2)])
  obtain ⟨_, b101, T101, h101, L101, e101, Cc101, X101, B101, J101, g101, hQ101, st101⟩ := own_callV Cc B0 J0 X0 (hw _ (List.mem_of_getElem? (i := 74) rfl)) (hw _ (List.mem_of_getElem? (i := 75) rfl)) (notFace_of_selects (args := #[]) (mvT hZ (hw _ (List.mem_of_getElem? (i := 77) rfl)))) (hw _ (List.mem_of_getElem? (i := 77) rfl)) (hw _ (List.mem_of_getElem? (i := 76) rfl)) (hw _ (List.mem_of_getElem? (i := 7) rfl)) (hw _ (List.mem_of_getElem? (i := 78) rfl)) (by decide) Es2 (rm11 l Z a0 hw [] s2 c2 cd b2 zc _ h0 n0 O0 h0.size (own_ole O0) K0.1 Fc2 hso S_C hzc) e0 (g := (mkF m 1 #[.val (.ref s2), .val (.ref v1), .val (.int z1), .val (.int cd)] [(.ref s2)])) rfl (by rw [hml]; rfl) (argsL := []) (rest := []) (lenOf pd8 rfl) rfl (W := 0) (by show 2 * 0 + _ ≤ _; exact Nat.le_of_eq rfl) (hb hby d15_1) (by decide) (by decide) (by decide) (by decide)
  obtain ⟨rfl, Nq101, hh101⟩ := hQ101
  have N101 := Fr.app N0 (show Fr nb _ from fun y hy => Nat.le_trans hnb (Nq101 y hy))
  have NS101 := Fr.app (Fr.nil _) Nq101
  obtain ⟨hx, hZ, hown, hby, hml, hnm, hret, hlk⟩ := id Cc101
  rw [hh101] at e101 B101 J101
  refine Go.of st101 ?_
  show Go p e s below _ _ _ _ T101 (mkF m 4 #[.val (.ref s2), .val (.ref v1), .val (.int z1), .val (.int cd)] [(.int cd)])
  refine Go.of (fun _ hr => XS.iloadN X101.here hx rfl (hb hby d15_4) rfl  hr) ?_
  show Go p e s below _ _ _ _ T101 (mkF m 5 #[.val (.ref s2), .val (.ref v1), .val (.int z1), .val (.int cd)] [(.int cd), (.int cd)])
  refine Go.of (fun _ hr => XS.icmpNo X101.here hx rfl (hb hby d15_5) rfl (teq rfl).2 hr) ?_
  show Go p e s below _ _ _ _ T101 (mkF m 8 #[.val (.ref s2), .val (.ref v1), .val (.int z1), .val (.int cd)] [])
  refine Go.of (fun _ hr => XS.aloadN X101.here hx rfl (hb hby d15_8) rfl rfl hr) ?_
  show Go p e s below _ _ _ _ T101 (mkF m 9 #[.val (.ref s2), .val (.ref v1), .val (.int z1), .val (.int cd)] [(.ref s2)])
  obtain ⟨T102, X102, e102, st102⟩ := getF X101 hx hZ hown (host := "") (Or.inl (hw _ (List.mem_of_getElem? (i := 73) rfl))) Via.refl e101 Fv2 (g := (mkF m 9 #[.val (.ref s2), .val (.ref v1), .val (.int z1), .val (.int cd)] [(.ref s2)])) rfl rfl (hb hby d15_9)
  refine Go.of (fun _ hr => st102 _ hr) ?_
  show Go p e s below _ _ _ _ T102 (mkF m 12 #[.val (.ref s2), .val (.ref v1), .val (.int z1), .val (.int cd)] [(.ref t2)])
  refine Go.of (fun _ hr => XS.iconst X102.here hx rfl (hb hby d15_12) hr) ?_
  show Go p e s below _ _ _ _ T102 (mkF m 13 #[.val (.ref s2), .val (.ref v1), .val (.int z1), .val (.int cd)] [(.int (0 : Int32)), (.ref t2)])
  refine Go.of (fun _ hr => XS.aloadN X102.here hx rfl (hb hby d15_13) rfl rfl hr) ?_
  show Go p e s below _ _ _ _ T102 (mkF m 14 #[.val (.ref s2), .val (.ref v1), .val (.int z1), .val (.int cd)] [(.ref v1), (.int (0 : Int32)), (.ref t2)])
  refine Go.of (fun _ hr => XS.iloadN X102.here hx rfl (hb hby d15_14) rfl  hr) ?_
  show Go p e s below _ _ _ _ T102 (mkF m 15 #[.val (.ref s2), .val (.ref v1), .val (.int z1), .val (.int cd)] [(.int z1), (.ref v1), (.int (0 : Int32)), (.ref t2)])
  refine Go.of (fun _ hr => XS.iloadN X102.here hx rfl (hb hby d15_15) rfl  hr) ?_
  show Go p e s below _ _ _ _ T102 (mkF m 16 #[.val (.ref s2), .val (.ref v1), .val (.int z1), .val (.int cd)] [(.int cd), (.int z1), (.ref v1), (.int (0 : Int32)), (.ref t2)])
  refine Go.of (fun _ hr => XS.ishl X102.here hx rfl (hb hby d15_16) rfl hr) ?_
  show Go p e s below _ _ _ _ T102 (mkF m 17 #[.val (.ref s2), .val (.ref v1), .val (.int z1), .val (.int cd)] [(.int (z1 <<< (cd &&& 31))), (.ref v1), (.int (0 : Int32)), (.ref t2)])
  rw [hz]
  show Go p e s below _ _ _ _ T102 (mkF m 17 #[.val (.ref s2), .val (.ref v1), .val (.int z1), .val (.int cd)] [(.int (Int32.ofNat bs.length)), (.ref v1), (.int (0 : Int32)), (.ref t2)])
  refine Go.of (fun _ hr => XS.aloadN X102.here hx rfl (hb hby d15_17) rfl rfl hr) ?_
  show Go p e s below _ _ _ _ T102 (mkF m 18 #[.val (.ref s2), .val (.ref v1), .val (.int z1), .val (.int cd)] [(.ref s2), (.int (Int32.ofNat bs.length)), (.ref v1), (.int (0 : Int32)), (.ref t2)])
  obtain ⟨T103, X103, e103, st103⟩ := getF X102 hx hZ hown (host := "") (Or.inl (hw _ (List.mem_of_getElem? (i := 73) rfl))) Via.refl e102 Fv2 (g := (mkF m 18 #[.val (.ref s2), .val (.ref v1), .val (.int z1), .val (.int cd)] [(.ref s2), (.int (Int32.ofNat bs.length)), (.ref v1), (.int (0 : Int32)), (.ref t2)])) rfl rfl (hb hby d15_18)
  refine Go.of (fun _ hr => st103 _ hr) ?_
  show Go p e s below _ _ _ _ T103 (mkF m 21 #[.val (.ref s2), .val (.ref v1), .val (.int z1), .val (.int cd)] [(.ref t2), (.int (Int32.ofNat bs.length)), (.ref v1), (.int (0 : Int32)), (.ref t2)])
  obtain ⟨cl104, Ar104, q104, S104, N104_, H104, G104⟩ := id V2
  refine Go.of (fun _ hr => X103.arraylength hx (by rw [e103]; exact Ar104.1) (State.isArrayOf_alike hZ.alike Ar104.2.1) (g := (mkF m 21 #[.val (.ref s2), .val (.ref v1), .val (.int z1), .val (.int cd)] [(.ref t2), (.int (Int32.ofNat bs.length)), (.ref v1), (.int (0 : Int32)), (.ref t2)])) rfl rfl (hb hby d15_21) _ hr) ?_
  rw [len_of S104 N104_]
  show Go p e s below _ _ _ _ T103 (mkF m 22 #[.val (.ref s2), .val (.ref v1), .val (.int z1), .val (.int cd)] [(.int (Int32.ofNat b2.length)), (.int (Int32.ofNat bs.length)), (.ref v1), (.int (0 : Int32)), (.ref t2)])
  obtain ⟨T105, h105, L105, X105, e105, N105, Kq105, V105, st105⟩ := cpA X103 hx hZ hown (hw _ (List.mem_of_getElem? (i := 104) rfl)) (hw _ (List.mem_of_getElem? (i := 107) rfl)) (hw _ (List.mem_of_getElem? (i := 105) rfl)) (hw _ (List.mem_of_getElem? (i := 106) rfl)) e103 V2 (W1.pad (pad_rep _ _ b2.length)) (us := b2.map Value.int) (Or.inl ⟨rfl, rfl⟩) (by decide) (oi_nn (by omega)) (oi_nn (by omega)) (cp4 (by omega) (by rw [oi_nat (by omega)]; exact Nat.le_refl _)) (cp5 (by omega) (by omega) (by rw [oi_nat (by omega)]; omega)) (cpu b2 (by omega)) (cpl bs b2 (by omega) (by omega)) N101 fr_v1 (g := (mkF m 22 #[.val (.ref s2), .val (.ref v1), .val (.int z1), .val (.int cd)] [(.int (Int32.ofNat b2.length)), (.int (Int32.ofNat bs.length)), (.ref v1), (.int (0 : Int32)), (.ref t2)])) rfl (by rw [hml]; rfl) rfl (hb hby d15_22) (by decide) (W := 0) (by show 2 * 0 + _ ≤ _; exact Nat.le_of_eq rfl) (by decide)
  have K105 := K0.trans Kq105 (allS (Or.inl (List.mem_of_getElem? (i := 0) rfl)) all0)
  have O105 := O0.keep Kq105 (allS (Nat.le_trans hb0 fr_v1) all0)
  have B105 := B101.mono Kq105.1
  have J105 := Hd.keep J101 Kq105 (allS hm_v1 all0)
  have Vc105 : Arv Z h105 v1 kv .byte (Int32.ofNat nn) ((bs ++ b2).map Value.int) (.int 0) := by have q := V105; exact cp_res bs b2 (by omega) (by omega) ▸ q
  refine Go.of (fun _ hr => st105 _ hr) ?_
  show Go p e s below _ _ _ _ T105 (mkF m 25 #[.val (.ref s2), .val (.ref v1), .val (.int z1), .val (.int cd)] [])
  refine Go.of (fun _ hr => XS.goto X105.here hx rfl (pc0 := 25) (pc' := 43) rfl (hb hby d15_25) (by decide) (by decide) hr) ?_
  show Go p e s below _ _ _ _ T105 (mkF m 43 #[.val (.ref s2), .val (.ref v1), .val (.int z1), .val (.int cd)] [])
  exact Go.retV X105 hx hlk B105 J105 e105 hret (hb hby d15_43) (by decide) (by decide) (fun vm_ hw_ => ⟨rfl, N105, K105, Vc105⟩)

theorem d15_28 : decode jdk_42_method_147_code 28 = .ok (.aload_n 0, 1) := by decide +kernel
theorem d15_29 : decode jdk_42_method_147_code 29 = .ok (.getfield 9, 3) := by decide +kernel
theorem d15_32 : decode jdk_42_method_147_code 32 = .ok (.iconst 0, 1) := by decide +kernel
theorem d15_33 : decode jdk_42_method_147_code 33 = .ok (.aload_n 1, 1) := by decide +kernel
theorem d15_34 : decode jdk_42_method_147_code 34 = .ok (.iload_n 2, 1) := by decide +kernel
theorem d15_35 : decode jdk_42_method_147_code 35 = .ok (.aload_n 0, 1) := by decide +kernel
theorem d15_36 : decode jdk_42_method_147_code 36 = .ok (.getfield 9, 3) := by decide +kernel
theorem d15_39 : decode jdk_42_method_147_code 39 = .ok (.arraylength, 1) := by decide +kernel
theorem d15_40 : decode jdk_42_method_147_code 40 = .ok (.invokestatic 106, 3) := by decide +kernel
set_option maxRecDepth 65536 in
set_option maxHeartbeats 40000000 in
theorem rmC15 (l : Launch) (Z : State) (a0 : Array Value) (hw : ∀ d ∈ tables_1, d.before a0 Z = true) (ws : List Jvm.Cond) (v1 : Addr) (kv : ClassId) (cs : List Int32) (s2 t2 : Addr) (k2 : ClassId) (c2 : List Int32) (zc : Int32) (ms : List Addr) (h0 : Heap) (n0 : Nat) (O0 : Old Z n0 h0) (nb : Nat) (hb0 : n0 ≤ nb) (hnb : nb ≤ h0.size) (fr_v1 : nb ≤ v1) (hm_v1 : v1 ∈ ms) (fs : Value) (hfs : fs = .null ∨ ∃ a, fs = .ref a) (S_F : Sta Z Z.heap "jdk/internal/util/Preconditions" "SIOOBE_FORMATTER" "Ljava/util/function/BiFunction;" fs) (S_D : Sta Z Z.heap "java/lang/StringUTF16" "$assertionsDisabled" "Z" (.int 1)) (S_H : Sta Z Z.heap "java/lang/StringUTF16" "HI_BYTE_SHIFT" "I" (.int 0)) (S_L : Sta Z Z.heap "java/lang/StringUTF16" "LO_BYTE_SHIFT" "I" (.int 8)) (W1 : Arv Z h0 v1 kv .byte (Int32.ofNat 32) ((utf cs).map Value.int) (.int 0)) (Es2 : Exa Z h0 s2 "java/lang/String") (Fv2 : Fld Z h0 s2 "java/lang/String" "value" "[B" (.ref t2)) (Fc2 : Fld Z h0 s2 "java/lang/String" "coder" "B" (.int 0)) (hso : StrOf c2 0 (c2.map lo8)) (V2 : Arv Z h0 t2 k2 .byte (Int32.ofNat (c2.map lo8).length) ((c2.map lo8).map Value.int) (.int 0)) (hn2 : c2.length ≤ 16) (hr2 : ∀ x ∈ c2, rng16 x) (hl2 : ∀ x ∈ c2, ¬ 255 < x) (hac : cs.length + c2.length ≤ 16) (ne2 : t2 ≠ v1) (S_C : Sta Z Z.heap "java/lang/String" "COMPACT_STRINGS" "Z" (.int zc)) (hzc : ¬ zc = 0) :
    Con l Z ms (⟨"java/lang/String", "getBytes", "([BIB)V"⟩ : MethodName) jdk_42_method_147_code 4 none ws ({ frames := 5, cells := 0, slots := 0, locals := 76 } : Room) #[(.ref s2), (.ref v1), (.int (Int32.ofNat cs.length)), (.int (1 : Int32))] h0 (fun v vm h L => v = none ∧ Fr nb L ∧ Keep h0 h [v1] ∧ Arv Z h v1 kv .byte (Int32.ofNat 32) ((utf (cs ++ c2)).map Value.int) (.int 0)) := by
  refine Con.mk (plainFor_of_name pn1) ?_
  intro p e s m below meth c s₁ Cc X0 e0 eb J0 B0 M0
  obtain ⟨hx, hZ, hown, hby, hml, hnm, hret, hlk⟩ := id Cc
  have N0 := Fr.nil nb
  have K0 := Keep.refl h0 [v1]
  show Go p e s below _ _ _ _ s₁ (mkF m 0 #[.val (.ref s2), .val (.ref v1), .val (.int (Int32.ofNat cs.length)), .val (.int (1 : Int32))] [])
  refine Go.of (fun _ hr => XS.aloadN X0.here hx rfl (hb hby d15_0) rfl rfl hr) ?_
  show Go p e s below _ _ _ _ s₁ (mkF m 1 #[.val (.ref s2), .val (.ref v1), .val (.int (Int32.ofNat cs.length)), .val (.int (1 : Int32))] [(.ref s2)])
  obtain ⟨_, b101, T101, h101, L101, e101, Cc101, X101, B101, J101, g101, hQ101, st101⟩ := own_callV Cc B0 J0 X0 (hw _ (List.mem_of_getElem? (i := 74) rfl)) (hw _ (List.mem_of_getElem? (i := 75) rfl)) (notFace_of_selects (args := #[]) (mvT hZ (hw _ (List.mem_of_getElem? (i := 77) rfl)))) (hw _ (List.mem_of_getElem? (i := 77) rfl)) (hw _ (List.mem_of_getElem? (i := 76) rfl)) (hw _ (List.mem_of_getElem? (i := 7) rfl)) (hw _ (List.mem_of_getElem? (i := 78) rfl)) (by decide) Es2 (rm11 l Z a0 hw [] s2 c2 (0 : Int32) (c2.map lo8) zc _ h0 n0 O0 h0.size (own_ole O0) K0.1 Fc2 hso S_C hzc) e0 (g := (mkF m 1 #[.val (.ref s2), .val (.ref v1), .val (.int (Int32.ofNat cs.length)), .val (.int (1 : Int32))] [(.ref s2)])) rfl (by rw [hml]; rfl) (argsL := []) (rest := []) (lenOf pd8 rfl) rfl (W := 0) (by show 2 * 0 + _ ≤ _; exact Nat.le_of_eq rfl) (hb hby d15_1) (by decide) (by decide) (by decide) (by decide)
  obtain ⟨rfl, Nq101, hh101⟩ := hQ101
  have N101 := Fr.app N0 (show Fr nb _ from fun y hy => Nat.le_trans hnb (Nq101 y hy))
  have NS101 := Fr.app (Fr.nil _) Nq101
  obtain ⟨hx, hZ, hown, hby, hml, hnm, hret, hlk⟩ := id Cc101
  rw [hh101] at e101 B101 J101
  refine Go.of st101 ?_
  show Go p e s below _ _ _ _ T101 (mkF m 4 #[.val (.ref s2), .val (.ref v1), .val (.int (Int32.ofNat cs.length)), .val (.int (1 : Int32))] [(.int (0 : Int32))])
  refine Go.of (fun _ hr => XS.iloadN X101.here hx rfl (hb hby d15_4) rfl  hr) ?_
  show Go p e s below _ _ _ _ T101 (mkF m 5 #[.val (.ref s2), .val (.ref v1), .val (.int (Int32.ofNat cs.length)), .val (.int (1 : Int32))] [(.int (1 : Int32)), (.int (0 : Int32))])
  refine Go.of (fun _ hr => XS.icmpYes X101.here hx rfl (pc0 := 5) (pc' := 28) rfl (hb hby d15_5) rfl (feq (by decide : ¬ ((0 : Int32) = (1 : Int32)))).2 (by decide) (by decide) hr) ?_
  show Go p e s below _ _ _ _ T101 (mkF m 28 #[.val (.ref s2), .val (.ref v1), .val (.int (Int32.ofNat cs.length)), .val (.int (1 : Int32))] [])
  refine Go.of (fun _ hr => XS.aloadN X101.here hx rfl (hb hby d15_28) rfl rfl hr) ?_
  show Go p e s below _ _ _ _ T101 (mkF m 29 #[.val (.ref s2), .val (.ref v1), .val (.int (Int32.ofNat cs.length)), .val (.int (1 : Int32))] [(.ref s2)])
  obtain ⟨T102, X102, e102, st102⟩ := getF X101 hx hZ hown (host := "") (Or.inl (hw _ (List.mem_of_getElem? (i := 73) rfl))) Via.refl e101 Fv2 (g := (mkF m 29 #[.val (.ref s2), .val (.ref v1), .val (.int (Int32.ofNat cs.length)), .val (.int (1 : Int32))] [(.ref s2)])) rfl rfl (hb hby d15_29)
  refine Go.of (fun _ hr => st102 _ hr) ?_
  show Go p e s below _ _ _ _ T102 (mkF m 32 #[.val (.ref s2), .val (.ref v1), .val (.int (Int32.ofNat cs.length)), .val (.int (1 : Int32))] [(.ref t2)])
  refine Go.of (fun _ hr => XS.iconst X102.here hx rfl (hb hby d15_32) hr) ?_
  show Go p e s below _ _ _ _ T102 (mkF m 33 #[.val (.ref s2), .val (.ref v1), .val (.int (Int32.ofNat cs.length)), .val (.int (1 : Int32))] [(.int (0 : Int32)), (.ref t2)])
  refine Go.of (fun _ hr => XS.aloadN X102.here hx rfl (hb hby d15_33) rfl rfl hr) ?_
  show Go p e s below _ _ _ _ T102 (mkF m 34 #[.val (.ref s2), .val (.ref v1), .val (.int (Int32.ofNat cs.length)), .val (.int (1 : Int32))] [(.ref v1), (.int (0 : Int32)), (.ref t2)])
  refine Go.of (fun _ hr => XS.iloadN X102.here hx rfl (hb hby d15_34) rfl  hr) ?_
  show Go p e s below _ _ _ _ T102 (mkF m 35 #[.val (.ref s2), .val (.ref v1), .val (.int (Int32.ofNat cs.length)), .val (.int (1 : Int32))] [(.int (Int32.ofNat cs.length)), (.ref v1), (.int (0 : Int32)), (.ref t2)])
  refine Go.of (fun _ hr => XS.aloadN X102.here hx rfl (hb hby d15_35) rfl rfl hr) ?_
  show Go p e s below _ _ _ _ T102 (mkF m 36 #[.val (.ref s2), .val (.ref v1), .val (.int (Int32.ofNat cs.length)), .val (.int (1 : Int32))] [(.ref s2), (.int (Int32.ofNat cs.length)), (.ref v1), (.int (0 : Int32)), (.ref t2)])
  obtain ⟨T103, X103, e103, st103⟩ := getF X102 hx hZ hown (host := "") (Or.inl (hw _ (List.mem_of_getElem? (i := 73) rfl))) Via.refl e102 Fv2 (g := (mkF m 36 #[.val (.ref s2), .val (.ref v1), .val (.int (Int32.ofNat cs.length)), .val (.int (1 : Int32))] [(.ref s2), (.int (Int32.ofNat cs.length)), (.ref v1), (.int (0 : Int32)), (.ref t2)])) rfl rfl (hb hby d15_36)
  refine Go.of (fun _ hr => st103 _ hr) ?_
  show Go p e s below _ _ _ _ T103 (mkF m 39 #[.val (.ref s2), .val (.ref v1), .val (.int (Int32.ofNat cs.length)), .val (.int (1 : Int32))] [(.ref t2), (.int (Int32.ofNat cs.length)), (.ref v1), (.int (0 : Int32)), (.ref t2)])
  obtain ⟨cl104, Ar104, q104, S104, N104_, H104, G104⟩ := id V2
  refine Go.of (fun _ hr => X103.arraylength hx (by rw [e103]; exact Ar104.1) (State.isArrayOf_alike hZ.alike Ar104.2.1) (g := (mkF m 39 #[.val (.ref s2), .val (.ref v1), .val (.int (Int32.ofNat cs.length)), .val (.int (1 : Int32))] [(.ref t2), (.int (Int32.ofNat cs.length)), (.ref v1), (.int (0 : Int32)), (.ref t2)])) rfl rfl (hb hby d15_39) _ hr) ?_
  rw [len_of S104 N104_]
  show Go p e s below _ _ _ _ T103 (mkF m 40 #[.val (.ref s2), .val (.ref v1), .val (.int (Int32.ofNat cs.length)), .val (.int (1 : Int32))] [(.int (Int32.ofNat (c2.map lo8).length)), (.int (Int32.ofNat cs.length)), (.ref v1), (.int (0 : Int32)), (.ref t2)])
  rw [List.length_map]
  show Go p e s below _ _ _ _ T103 (mkF m 40 #[.val (.ref s2), .val (.ref v1), .val (.int (Int32.ofNat cs.length)), .val (.int (1 : Int32))] [(.int (Int32.ofNat c2.length)), (.int (Int32.ofNat cs.length)), (.ref v1), (.int (0 : Int32)), (.ref t2)])
  obtain ⟨_, b105, T105, h105, L105, e105, Cc105, X105, B105, J105, g105, hQ105, st105⟩ := own_callS Cc101 B101 J101 X103 (hw _ (List.mem_of_getElem? (i := 238) rfl)) (hw _ (List.mem_of_getElem? (i := 221) rfl)) (hw _ (List.mem_of_getElem? (i := 171) rfl)) (hw _ (List.mem_of_getElem? (i := 222) rfl)) (by decide) (rm43 l Z a0 hw [] t2 v1 _ _ c2 cs c2.length cs.length _ h0 n0 O0 nb hb0 (Nat.le_trans hnb K0.1) fr_v1 hm_v1 fs hfs S_F S_D S_H S_L hr2 hl2 (Nat.le_refl _) (by omega) rfl hac ne2 (by have q := V2; rw [List.length_map] at q; exact q) W1) e103 (g := (mkF m 40 #[.val (.ref s2), .val (.ref v1), .val (.int (Int32.ofNat cs.length)), .val (.int (1 : Int32))] [(.int (Int32.ofNat c2.length)), (.int (Int32.ofNat cs.length)), (.ref v1), (.int (0 : Int32)), (.ref t2)])) rfl (by rw [hml]; rfl) (argsL := [(.ref t2), (.int (0 : Int32)), (.ref v1), (.int (Int32.ofNat cs.length)), (.int (Int32.ofNat c2.length))]) (rest := []) (lenOf pd20 rfl) rfl (W := 0) (by show 2 * 0 + _ ≤ _; exact Nat.le_of_eq rfl) (hb hby d15_40) (by decide) (by decide) (by decide) (by decide)
  obtain ⟨rfl, Nq105, Kq105, Vi105⟩ := hQ105
  have N105 := Fr.app N101 Nq105
  obtain ⟨hx, hZ, hown, hby, hml, hnm, hret, hlk⟩ := id Cc105
  have K105 := K0.trans Kq105 (allS (Or.inl (List.mem_of_getElem? (i := 0) rfl)) all0)
  have O105 := O0.keep Kq105 (allS (Nat.le_trans hb0 fr_v1) all0)
  refine Go.of st105 ?_
  show Go p e s below _ _ _ _ T105 (mkF m 43 #[.val (.ref s2), .val (.ref v1), .val (.int (Int32.ofNat cs.length)), .val (.int (1 : Int32))] [])
  exact Go.retV X105 hx hlk B105 J105 e105 hret (hb hby d15_43) (by decide) (by decide) (fun vm_ hw_ => ⟨rfl, N105, K105, Vi105⟩)

theorem d13_0 : decode jdk_68_method_73_code 0 = .ok (.aload_n 0, 1) := by decide +kernel
theorem d13_1 : decode jdk_68_method_73_code 1 = .ok (.aload_n 2, 1) := by decide +kernel
theorem d13_2 : decode jdk_68_method_73_code 2 = .ok (.invokevirtual 397, 3) := by decide +kernel
theorem pd23 : parseMethodDescriptor "(Ljava/lang/String;)V" = some ⟨[(.object "java/lang/String")], none⟩ := by decide +kernel
theorem d13_5 : decode jdk_68_method_73_code 5 = .ok (.aload_n 2, 1) := by decide +kernel
theorem d13_6 : decode jdk_68_method_73_code 6 = .ok (.aload_n 0, 1) := by decide +kernel
theorem d13_7 : decode jdk_68_method_73_code 7 = .ok (.getfield 15, 3) := by decide +kernel
theorem d13_10 : decode jdk_68_method_73_code 10 = .ok (.iload_n 1, 1) := by decide +kernel
theorem d13_11 : decode jdk_68_method_73_code 11 = .ok (.aload_n 0, 1) := by decide +kernel
theorem d13_12 : decode jdk_68_method_73_code 12 = .ok (.getfield 22, 3) := by decide +kernel
theorem d13_15 : decode jdk_68_method_73_code 15 = .ok (.invokevirtual 399, 3) := by decide +kernel
theorem pd24 : parseMethodDescriptor "([BIB)V" = some ⟨[(.array .byte), .int, .byte], none⟩ := by decide +kernel
theorem d13_18 : decode jdk_68_method_73_code 18 = .ok (.return_, 1) := by decide +kernel
set_option maxRecDepth 65536 in
set_option maxHeartbeats 40000000 in
theorem rm13 (l : Launch) (Z : State) (a0 : Array Value) (hw : ∀ d ∈ tables_1, d.before a0 Z = true) (ws : List Jvm.Cond) (a1 v1 : Addr) (kv : ClassId) (cs : List Int32) (bc : Int32) (bs : List Int32) (nn : Nat) (s2 t2 : Addr) (k2 : ClassId) (c2 : List Int32) (cd : Int32) (b2 : List Int32) (zc : Int32) (ms : List Addr) (h0 : Heap) (n0 : Nat) (O0 : Old Z n0 h0) (nb : Nat) (hb0 : n0 ≤ nb) (hnb : nb ≤ h0.size) (fr_a1 : nb ≤ a1) (hm_a1 : a1 ∈ ms) (fr_v1 : nb ≤ v1) (hm_v1 : v1 ∈ ms) (fs : Value) (hfs : fs = .null ∨ ∃ a, fs = .ref a) (S_F : Sta Z Z.heap "jdk/internal/util/Preconditions" "SIOOBE_FORMATTER" "Ljava/util/function/BiFunction;" fs) (S_D : Sta Z Z.heap "java/lang/StringUTF16" "$assertionsDisabled" "Z" (.int 1)) (S_H : Sta Z Z.heap "java/lang/StringUTF16" "HI_BYTE_SHIFT" "I" (.int 0)) (S_L : Sta Z Z.heap "java/lang/StringUTF16" "LO_BYTE_SHIFT" "I" (.int 8)) (Ea1 : Exa Z h0 a1 "java/lang/StringBuilder") (Gv : Fld Z h0 a1 "java/lang/AbstractStringBuilder" "value" "[B" (.ref v1)) (Gc : Fld Z h0 a1 "java/lang/AbstractStringBuilder" "coder" "B" (.int bc)) (Gn : Fld Z h0 a1 "java/lang/AbstractStringBuilder" "count" "I" (.int (Int32.ofNat cs.length))) (Gm : Fld Z h0 a1 "java/lang/AbstractStringBuilder" "maybeLatin1" "Z" (.int 0)) (W1 : Arv Z h0 v1 kv .byte (Int32.ofNat nn) (bs.map Value.int) (.int 0)) (hbo : BOf cs bc bs nn) (hcl : cs.length ≤ 16) (Es2 : Exa Z h0 s2 "java/lang/String") (Fv2 : Fld Z h0 s2 "java/lang/String" "value" "[B" (.ref t2)) (Fc2 : Fld Z h0 s2 "java/lang/String" "coder" "B" (.int cd)) (hso : StrOf c2 cd b2) (V2 : Arv Z h0 t2 k2 .byte (Int32.ofNat b2.length) (b2.map Value.int) (.int 0)) (hn2 : c2.length ≤ 16) (hr2 : ∀ x ∈ c2, rng16 x) (hac : cs.length + c2.length ≤ 16) (hr : ∀ x ∈ cs, rng16 x) (nea : a1 ≠ v1) (ne2 : t2 ≠ v1) (nes : s2 ≠ v1) (net : t2 ≠ a1) (nsa : s2 ≠ a1) (S_C : Sta Z Z.heap "java/lang/String" "COMPACT_STRINGS" "Z" (.int zc)) (hzc : ¬ zc = 0) :
    Con l Z ms (⟨"java/lang/AbstractStringBuilder", "putStringAt", "(ILjava/lang/String;)V"⟩ : MethodName) jdk_68_method_73_code 3 none ws ({ frames := 7, cells := 1, slots := 32, locals := 102 } : Room) #[(.ref a1), (.int (Int32.ofNat cs.length)), (.ref s2)] h0 (fun v vm h L => v = none ∧ Fr nb L ∧ Keep h0 h [a1, v1] ∧ ∃ v' kv' bc' bs' nn', (v' = v1 ∨ h0.size ≤ v') ∧ nb ≤ v' ∧ Fld Z h a1 "java/lang/AbstractStringBuilder" "value" "[B" (.ref v') ∧ Fld Z h a1 "java/lang/AbstractStringBuilder" "coder" "B" (.int bc') ∧ Fld Z h a1 "java/lang/AbstractStringBuilder" "count" "I" (.int (Int32.ofNat cs.length)) ∧ Fld Z h a1 "java/lang/AbstractStringBuilder" "maybeLatin1" "Z" (.int 0) ∧ BOf (cs ++ c2) bc' bs' nn' ∧ Arv Z h v' kv' .byte (Int32.ofNat nn') (bs'.map Value.int) (.int 0) ∧ Hd Z (v' :: ms) vm h) := by
  rcases id hbo with ⟨rfl, rfl, rfl, hbl⟩ | ⟨rfl, rfl, rfl⟩ <;> rcases id hso with ⟨rfl, rfl, hl⟩ | ⟨rfl, rfl⟩
  · refine Con.mk (plainFor_of_name pn4) ?_
    intro p e s m below meth c s₁ Cc X0 e0 eb J0 B0 M0
    obtain ⟨hx, hZ, hown, hby, hml, hnm, hret, hlk⟩ := id Cc
    have N0 := Fr.nil nb
    have K0 := Keep.refl h0 [a1, v1]
    show Go p e s below _ _ _ _ s₁ (mkF m 0 #[.val (.ref a1), .val (.int (Int32.ofNat cs.length)), .val (.ref s2)] [])
    refine Go.of (fun _ hr => XS.aloadN X0.here hx rfl (hb hby d13_0) rfl rfl hr) ?_
    show Go p e s below _ _ _ _ s₁ (mkF m 1 #[.val (.ref a1), .val (.int (Int32.ofNat cs.length)), .val (.ref s2)] [(.ref a1)])
    refine Go.of (fun _ hr => XS.aloadN X0.here hx rfl (hb hby d13_1) rfl rfl hr) ?_
    show Go p e s below _ _ _ _ s₁ (mkF m 2 #[.val (.ref a1), .val (.int (Int32.ofNat cs.length)), .val (.ref s2)] [(.ref s2), (.ref a1)])
    obtain ⟨_, b101, T101, h101, L101, e101, Cc101, X101, B101, J101, g101, hQ101, st101⟩ := own_callV Cc B0 J0 X0 (hw _ (List.mem_of_getElem? (i := 93) rfl)) (own_decl (hw _ (List.mem_of_getElem? (i := 94) rfl)) (hw _ (List.mem_of_getElem? (i := 97) rfl))) (notFace_of_selects (args := #[]) (mvT hZ (hw _ (List.mem_of_getElem? (i := 96) rfl)))) (hw _ (List.mem_of_getElem? (i := 96) rfl)) (hw _ (List.mem_of_getElem? (i := 94) rfl)) (hw _ (List.mem_of_getElem? (i := 50) rfl)) (hw _ (List.mem_of_getElem? (i := 97) rfl)) (by decide) Ea1 (rm14 l Z a0 hw [] a1 s2 t2 _ c2 (0 : Int32) (c2.map lo8) zc _ h0 n0 O0 h0.size (own_ole O0) K0.1 Ea1 Gc Es2 Fv2 Fc2 hso V2 hn2 hr2 S_C hzc) e0 (g := (mkF m 2 #[.val (.ref a1), .val (.int (Int32.ofNat cs.length)), .val (.ref s2)] [(.ref s2), (.ref a1)])) rfl (by rw [hml]; rfl) (argsL := [(.ref s2)]) (rest := []) (lenOf pd23 rfl) rfl (W := 0) (by show 2 * 0 + _ ≤ _; exact Nat.le_of_eq rfl) (hb hby d13_2) (by decide) (by decide) (by decide) (by decide)
    obtain ⟨rfl, Nq101, hh101⟩ := hQ101
    have N101 := Fr.app N0 (show Fr nb _ from fun y hy => Nat.le_trans hnb (Nq101 y hy))
    have NS101 := Fr.app (Fr.nil _) Nq101
    obtain ⟨hx, hZ, hown, hby, hml, hnm, hret, hlk⟩ := id Cc101
    rw [hh101] at e101 B101 J101
    refine Go.of st101 ?_
    show Go p e s below _ _ _ _ T101 (mkF m 5 #[.val (.ref a1), .val (.int (Int32.ofNat cs.length)), .val (.ref s2)] [])
    refine Go.of (fun _ hr => XS.aloadN X101.here hx rfl (hb hby d13_5) rfl rfl hr) ?_
    show Go p e s below _ _ _ _ T101 (mkF m 6 #[.val (.ref a1), .val (.int (Int32.ofNat cs.length)), .val (.ref s2)] [(.ref s2)])
    refine Go.of (fun _ hr => XS.aloadN X101.here hx rfl (hb hby d13_6) rfl rfl hr) ?_
    show Go p e s below _ _ _ _ T101 (mkF m 7 #[.val (.ref a1), .val (.int (Int32.ofNat cs.length)), .val (.ref s2)] [(.ref a1), (.ref s2)])
    obtain ⟨T102, X102, e102, st102⟩ := getF X101 hx hZ hown (host := "") (Or.inl (hw _ (List.mem_of_getElem? (i := 54) rfl))) Via.refl e101 Gv (g := (mkF m 7 #[.val (.ref a1), .val (.int (Int32.ofNat cs.length)), .val (.ref s2)] [(.ref a1), (.ref s2)])) rfl rfl (hb hby d13_7)
    refine Go.of (fun _ hr => st102 _ hr) ?_
    show Go p e s below _ _ _ _ T102 (mkF m 10 #[.val (.ref a1), .val (.int (Int32.ofNat cs.length)), .val (.ref s2)] [(.ref v1), (.ref s2)])
    refine Go.of (fun _ hr => XS.iloadN X102.here hx rfl (hb hby d13_10) rfl  hr) ?_
    show Go p e s below _ _ _ _ T102 (mkF m 11 #[.val (.ref a1), .val (.int (Int32.ofNat cs.length)), .val (.ref s2)] [(.int (Int32.ofNat cs.length)), (.ref v1), (.ref s2)])
    refine Go.of (fun _ hr => XS.aloadN X102.here hx rfl (hb hby d13_11) rfl rfl hr) ?_
    show Go p e s below _ _ _ _ T102 (mkF m 12 #[.val (.ref a1), .val (.int (Int32.ofNat cs.length)), .val (.ref s2)] [(.ref a1), (.int (Int32.ofNat cs.length)), (.ref v1), (.ref s2)])
    obtain ⟨T103, X103, e103, st103⟩ := getF X102 hx hZ hown (host := "") (Or.inl (hw _ (List.mem_of_getElem? (i := 56) rfl))) Via.refl e102 Gc (g := (mkF m 12 #[.val (.ref a1), .val (.int (Int32.ofNat cs.length)), .val (.ref s2)] [(.ref a1), (.int (Int32.ofNat cs.length)), (.ref v1), (.ref s2)])) rfl rfl (hb hby d13_12)
    refine Go.of (fun _ hr => st103 _ hr) ?_
    show Go p e s below _ _ _ _ T103 (mkF m 15 #[.val (.ref a1), .val (.int (Int32.ofNat cs.length)), .val (.ref s2)] [(.int (0 : Int32)), (.int (Int32.ofNat cs.length)), (.ref v1), (.ref s2)])
    obtain ⟨_, b104, T104, h104, L104, e104, Cc104, X104, B104, J104, g104, hQ104, st104⟩ := own_callV Cc101 B101 J101 X103 (hw _ (List.mem_of_getElem? (i := 99) rfl)) (hw _ (List.mem_of_getElem? (i := 100) rfl)) (notFace_of_selects (args := #[]) (mvT hZ (hw _ (List.mem_of_getElem? (i := 102) rfl)))) (hw _ (List.mem_of_getElem? (i := 102) rfl)) (hw _ (List.mem_of_getElem? (i := 101) rfl)) (hw _ (List.mem_of_getElem? (i := 7) rfl)) (hw _ (List.mem_of_getElem? (i := 103) rfl)) (by decide) Es2 (rm15 l Z a0 hw [] v1 _ (cs.map lo8) 16 (Int32.ofNat cs.length) s2 t2 _ c2 (0 : Int32) (c2.map lo8) zc _ h0 n0 O0 nb hb0 (Nat.le_trans hnb K0.1) fr_v1 hm_v1 W1 (bo_z hbo (by omega)) Es2 Fv2 Fc2 hso V2 hn2 hr2 (bo_same hbo hso hac).2 (by decide) ne2 S_C hzc) e103 (g := (mkF m 15 #[.val (.ref a1), .val (.int (Int32.ofNat cs.length)), .val (.ref s2)] [(.int (0 : Int32)), (.int (Int32.ofNat cs.length)), (.ref v1), (.ref s2)])) rfl (by rw [hml]; rfl) (argsL := [(.ref v1), (.int (Int32.ofNat cs.length)), (.int (0 : Int32))]) (rest := []) (lenOf pd24 rfl) rfl (W := 0) (by show 2 * 0 + _ ≤ _; exact Nat.le_of_eq rfl) (hb hby d13_15) (by decide) (by decide) (by decide) (by decide)
    obtain ⟨rfl, Nq104, Kq104, Wv104⟩ := hQ104
    have N104 := Fr.app N101 Nq104
    obtain ⟨hx, hZ, hown, hby, hml, hnm, hret, hlk⟩ := id Cc104
    have K104 := K0.trans Kq104 (allS (Or.inl (List.mem_of_getElem? (i := 1) rfl)) all0)
    have O104 := O0.keep Kq104 (allS (Nat.le_trans hb0 fr_v1) all0)
    refine Go.of st104 ?_
    show Go p e s below _ _ _ _ T104 (mkF m 18 #[.val (.ref a1), .val (.int (Int32.ofNat cs.length)), .val (.ref s2)] [])
    have f105 := (Gv.keep Kq104 (ninS nea nin0))
    have f106 := (Gc.keep Kq104 (ninS nea nin0))
    have f107 := (Gn.keep Kq104 (ninS nea nin0))
    have f108 := (Gm.keep Kq104 (ninS nea nin0))
    exact Go.retV X104 hx hlk B104 J104 e104 hret (hb hby d13_18) (by decide) (by decide) (fun vm_ hw_ => ⟨rfl, N104, K104, v1, _, 0, ((cs.map lo8) ++ (c2.map lo8)), 16, Or.inl rfl, fr_v1, f105, f106, f107, f108, (bo_same hbo hso hac).1, Wv104, (J104.sub (own_sub1 hm_v1 (fun x hx => hx))).warm hw_⟩)
  · refine Con.mk (plainFor_of_name pn4) ?_
    intro p e s m below meth c s₁ Cc X0 e0 eb J0 B0 M0
    obtain ⟨hx, hZ, hown, hby, hml, hnm, hret, hlk⟩ := id Cc
    have N0 := Fr.nil nb
    have K0 := Keep.refl h0 [a1, v1]
    show Go p e s below _ _ _ _ s₁ (mkF m 0 #[.val (.ref a1), .val (.int (Int32.ofNat cs.length)), .val (.ref s2)] [])
    refine Go.of (fun _ hr => XS.aloadN X0.here hx rfl (hb hby d13_0) rfl rfl hr) ?_
    show Go p e s below _ _ _ _ s₁ (mkF m 1 #[.val (.ref a1), .val (.int (Int32.ofNat cs.length)), .val (.ref s2)] [(.ref a1)])
    refine Go.of (fun _ hr => XS.aloadN X0.here hx rfl (hb hby d13_1) rfl rfl hr) ?_
    show Go p e s below _ _ _ _ s₁ (mkF m 2 #[.val (.ref a1), .val (.int (Int32.ofNat cs.length)), .val (.ref s2)] [(.ref s2), (.ref a1)])
    obtain ⟨_, b101, T101, h101, L101, e101, Cc101, X101, B101, J101, g101, hQ101, st101⟩ := own_callV Cc B0 J0 X0 (hw _ (List.mem_of_getElem? (i := 93) rfl)) (own_decl (hw _ (List.mem_of_getElem? (i := 94) rfl)) (hw _ (List.mem_of_getElem? (i := 97) rfl))) (notFace_of_selects (args := #[]) (mvT hZ (hw _ (List.mem_of_getElem? (i := 96) rfl)))) (hw _ (List.mem_of_getElem? (i := 96) rfl)) (hw _ (List.mem_of_getElem? (i := 94) rfl)) (hw _ (List.mem_of_getElem? (i := 50) rfl)) (hw _ (List.mem_of_getElem? (i := 97) rfl)) (by decide) Ea1 (rmC14 l Z a0 hw [] a1 v1 _ cs s2 t2 _ c2 (utf c2) zc _ h0 n0 O0 nb hb0 (Nat.le_trans hnb K0.1) fr_a1 hm_a1 fs hfs S_F S_D S_H S_L Ea1 Gv Gc Gn Gm W1 hcl hr hbl nea nsa net Es2 Fv2 Fc2 hso V2 hn2 hr2 S_C hzc) e0 (g := (mkF m 2 #[.val (.ref a1), .val (.int (Int32.ofNat cs.length)), .val (.ref s2)] [(.ref s2), (.ref a1)])) rfl (by rw [hml]; rfl) (argsL := [(.ref s2)]) (rest := []) (lenOf pd23 rfl) rfl (W := 0) (by show 2 * 0 + _ ≤ _; exact Nat.le_of_eq rfl) (hb hby d13_2) (by decide) (by decide) (by decide) (by decide)
    obtain ⟨rfl, Nq101, Kq101, d101, kd101, R_d101, Gv101, Gc101, Gn101, Gm101, Wd101, Jd101⟩ := hQ101
    have N101 := Fr.app N0 Nq101
    obtain ⟨hx, hZ, hown, hby, hml, hnm, hret, hlk⟩ := id Cc101
    have sz_d101 : h0.size ≤ d101 := Nat.le_trans K0.1 R_d101
    have fr_d101 : nb ≤ d101 := Nat.le_trans hnb sz_d101
    have ne_a1_d101 : a1 ≠ d101 := Nat.ne_of_lt (Nat.lt_of_lt_of_le Ea1.lt R_d101)
    have ne_v1_d101 : v1 ≠ d101 := Nat.ne_of_lt (Nat.lt_of_lt_of_le W1.lt R_d101)
    have ne_s2_d101 : s2 ≠ d101 := Nat.ne_of_lt (Nat.lt_of_lt_of_le Es2.lt R_d101)
    have ne_t2_d101 : t2 ≠ d101 := Nat.ne_of_lt (Nat.lt_of_lt_of_le V2.lt R_d101)
    have K101 := K0.trans Kq101 (allS (Or.inl (List.mem_of_getElem? (i := 0) rfl)) all0)
    have O101 := O0.keep Kq101 (allS (Nat.le_trans hb0 fr_a1) all0)
    refine Go.of st101 ?_
    show Go p e s below _ _ _ _ T101 (mkF m 5 #[.val (.ref a1), .val (.int (Int32.ofNat cs.length)), .val (.ref s2)] [])
    refine Go.of (fun _ hr => XS.aloadN X101.here hx rfl (hb hby d13_5) rfl rfl hr) ?_
    show Go p e s below _ _ _ _ T101 (mkF m 6 #[.val (.ref a1), .val (.int (Int32.ofNat cs.length)), .val (.ref s2)] [(.ref s2)])
    refine Go.of (fun _ hr => XS.aloadN X101.here hx rfl (hb hby d13_6) rfl rfl hr) ?_
    show Go p e s below _ _ _ _ T101 (mkF m 7 #[.val (.ref a1), .val (.int (Int32.ofNat cs.length)), .val (.ref s2)] [(.ref a1), (.ref s2)])
    obtain ⟨T102, X102, e102, st102⟩ := getF X101 hx hZ hown (host := "") (Or.inl (hw _ (List.mem_of_getElem? (i := 54) rfl))) Via.refl e101 Gv101 (g := (mkF m 7 #[.val (.ref a1), .val (.int (Int32.ofNat cs.length)), .val (.ref s2)] [(.ref a1), (.ref s2)])) rfl rfl (hb hby d13_7)
    refine Go.of (fun _ hr => st102 _ hr) ?_
    show Go p e s below _ _ _ _ T102 (mkF m 10 #[.val (.ref a1), .val (.int (Int32.ofNat cs.length)), .val (.ref s2)] [(.ref d101), (.ref s2)])
    refine Go.of (fun _ hr => XS.iloadN X102.here hx rfl (hb hby d13_10) rfl  hr) ?_
    show Go p e s below _ _ _ _ T102 (mkF m 11 #[.val (.ref a1), .val (.int (Int32.ofNat cs.length)), .val (.ref s2)] [(.int (Int32.ofNat cs.length)), (.ref d101), (.ref s2)])
    refine Go.of (fun _ hr => XS.aloadN X102.here hx rfl (hb hby d13_11) rfl rfl hr) ?_
    show Go p e s below _ _ _ _ T102 (mkF m 12 #[.val (.ref a1), .val (.int (Int32.ofNat cs.length)), .val (.ref s2)] [(.ref a1), (.int (Int32.ofNat cs.length)), (.ref d101), (.ref s2)])
    obtain ⟨T103, X103, e103, st103⟩ := getF X102 hx hZ hown (host := "") (Or.inl (hw _ (List.mem_of_getElem? (i := 56) rfl))) Via.refl e102 Gc101 (g := (mkF m 12 #[.val (.ref a1), .val (.int (Int32.ofNat cs.length)), .val (.ref s2)] [(.ref a1), (.int (Int32.ofNat cs.length)), (.ref d101), (.ref s2)])) rfl rfl (hb hby d13_12)
    refine Go.of (fun _ hr => st103 _ hr) ?_
    show Go p e s below _ _ _ _ T103 (mkF m 15 #[.val (.ref a1), .val (.int (Int32.ofNat cs.length)), .val (.ref s2)] [(.int (1 : Int32)), (.int (Int32.ofNat cs.length)), (.ref d101), (.ref s2)])
    have f105 := (Es2.keep Kq101)
    have f106 := (Fv2.keep Kq101 (ninS nsa nin0))
    have f107 := (Fc2.keep Kq101 (ninS nsa nin0))
    have f108 := (V2.keep Kq101 (ninS net nin0))
    obtain ⟨_, b104, T104, h104, L104, e104, Cc104, X104, B104, J104, g104, hQ104, st104⟩ := own_callV Cc101 B101 Jd101 X103 (hw _ (List.mem_of_getElem? (i := 99) rfl)) (hw _ (List.mem_of_getElem? (i := 100) rfl)) (notFace_of_selects (args := #[]) (mvT hZ (hw _ (List.mem_of_getElem? (i := 102) rfl)))) (hw _ (List.mem_of_getElem? (i := 102) rfl)) (hw _ (List.mem_of_getElem? (i := 101) rfl)) (hw _ (List.mem_of_getElem? (i := 7) rfl)) (hw _ (List.mem_of_getElem? (i := 103) rfl)) (by decide) f105 (rm15 l Z a0 hw [] d101 _ (utf cs) 32 (Int32.ofNat cs.length) s2 t2 _ c2 (1 : Int32) (utf c2) zc _ h101 n0 O101 h0.size (own_ole O0) K101.1 sz_d101 (List.mem_cons_self ..) Wd101 (bo_z (nn := 32) (Or.inr ⟨rfl, rfl, rfl⟩) (by omega)) f105 f106 f107 hso f108 hn2 hr2 (bo_same (nn := 32) (Or.inr ⟨rfl, rfl, rfl⟩) hso hac).2 (by decide) ne_t2_d101 S_C hzc) e103 (g := (mkF m 15 #[.val (.ref a1), .val (.int (Int32.ofNat cs.length)), .val (.ref s2)] [(.int (1 : Int32)), (.int (Int32.ofNat cs.length)), (.ref d101), (.ref s2)])) rfl (by rw [hml]; rfl) (argsL := [(.ref d101), (.int (Int32.ofNat cs.length)), (.int (1 : Int32))]) (rest := []) (lenOf pd24 rfl) rfl (W := 0) (by show 2 * 0 + _ ≤ _; exact Nat.le_of_eq rfl) (hb hby d13_15) (by decide) (by decide) (by decide) (by decide)
    obtain ⟨rfl, Nq104, Kq104, Wv104⟩ := hQ104
    have N104 := Fr.app N101 (show Fr nb _ from fun y hy => Nat.le_trans hnb (Nq104 y hy))
    obtain ⟨hx, hZ, hown, hby, hml, hnm, hret, hlk⟩ := id Cc104
    have K104 := K101.trans Kq104 (allS (Or.inr sz_d101) all0)
    have O104 := O101.keep Kq104 (allS (Nat.le_trans hb0 fr_d101) all0)
    refine Go.of st104 ?_
    show Go p e s below _ _ _ _ T104 (mkF m 18 #[.val (.ref a1), .val (.int (Int32.ofNat cs.length)), .val (.ref s2)] [])
    have f109 := (Gv101.keep Kq104 (ninS ne_a1_d101 nin0))
    have f110 := (Gc101.keep Kq104 (ninS ne_a1_d101 nin0))
    have f111 := (Gn101.keep Kq104 (ninS ne_a1_d101 nin0))
    have f112 := (Gm101.keep Kq104 (ninS ne_a1_d101 nin0))
    exact Go.retV X104 hx hlk B104 (J104.sub fun x hx => (List.mem_cons_of_mem _ hx)) e104 hret (hb hby d13_18) (by decide) (by decide) (fun vm_ hw_ => ⟨rfl, N104, K104, d101, _, 1, (utf cs ++ utf c2), 32, Or.inr sz_d101, fr_d101, f109, f110, f111, f112, (bo_same (nn := 32) (Or.inr ⟨rfl, rfl, rfl⟩) hso hac).1, Wv104, J104.warm hw_⟩)
  · refine Con.mk (plainFor_of_name pn4) ?_
    intro p e s m below meth c s₁ Cc X0 e0 eb J0 B0 M0
    obtain ⟨hx, hZ, hown, hby, hml, hnm, hret, hlk⟩ := id Cc
    have N0 := Fr.nil nb
    have K0 := Keep.refl h0 [a1, v1]
    show Go p e s below _ _ _ _ s₁ (mkF m 0 #[.val (.ref a1), .val (.int (Int32.ofNat cs.length)), .val (.ref s2)] [])
    refine Go.of (fun _ hr => XS.aloadN X0.here hx rfl (hb hby d13_0) rfl rfl hr) ?_
    show Go p e s below _ _ _ _ s₁ (mkF m 1 #[.val (.ref a1), .val (.int (Int32.ofNat cs.length)), .val (.ref s2)] [(.ref a1)])
    refine Go.of (fun _ hr => XS.aloadN X0.here hx rfl (hb hby d13_1) rfl rfl hr) ?_
    show Go p e s below _ _ _ _ s₁ (mkF m 2 #[.val (.ref a1), .val (.int (Int32.ofNat cs.length)), .val (.ref s2)] [(.ref s2), (.ref a1)])
    obtain ⟨_, b101, T101, h101, L101, e101, Cc101, X101, B101, J101, g101, hQ101, st101⟩ := own_callV Cc B0 J0 X0 (hw _ (List.mem_of_getElem? (i := 93) rfl)) (own_decl (hw _ (List.mem_of_getElem? (i := 94) rfl)) (hw _ (List.mem_of_getElem? (i := 97) rfl))) (notFace_of_selects (args := #[]) (mvT hZ (hw _ (List.mem_of_getElem? (i := 96) rfl)))) (hw _ (List.mem_of_getElem? (i := 96) rfl)) (hw _ (List.mem_of_getElem? (i := 94) rfl)) (hw _ (List.mem_of_getElem? (i := 50) rfl)) (hw _ (List.mem_of_getElem? (i := 97) rfl)) (by decide) Ea1 (rmB14 l Z a0 hw [] a1 s2 t2 _ c2 (c2.map lo8) zc _ h0 n0 O0 h0.size (own_ole O0) K0.1 Ea1 Gc Es2 Fv2 Fc2 hso V2 hn2 hr2 S_C hzc) e0 (g := (mkF m 2 #[.val (.ref a1), .val (.int (Int32.ofNat cs.length)), .val (.ref s2)] [(.ref s2), (.ref a1)])) rfl (by rw [hml]; rfl) (argsL := [(.ref s2)]) (rest := []) (lenOf pd23 rfl) rfl (W := 0) (by show 2 * 0 + _ ≤ _; exact Nat.le_of_eq rfl) (hb hby d13_2) (by decide) (by decide) (by decide) (by decide)
    obtain ⟨rfl, Nq101, hh101⟩ := hQ101
    have N101 := Fr.app N0 (show Fr nb _ from fun y hy => Nat.le_trans hnb (Nq101 y hy))
    have NS101 := Fr.app (Fr.nil _) Nq101
    obtain ⟨hx, hZ, hown, hby, hml, hnm, hret, hlk⟩ := id Cc101
    rw [hh101] at e101 B101 J101
    refine Go.of st101 ?_
    show Go p e s below _ _ _ _ T101 (mkF m 5 #[.val (.ref a1), .val (.int (Int32.ofNat cs.length)), .val (.ref s2)] [])
    refine Go.of (fun _ hr => XS.aloadN X101.here hx rfl (hb hby d13_5) rfl rfl hr) ?_
    show Go p e s below _ _ _ _ T101 (mkF m 6 #[.val (.ref a1), .val (.int (Int32.ofNat cs.length)), .val (.ref s2)] [(.ref s2)])
    refine Go.of (fun _ hr => XS.aloadN X101.here hx rfl (hb hby d13_6) rfl rfl hr) ?_
    show Go p e s below _ _ _ _ T101 (mkF m 7 #[.val (.ref a1), .val (.int (Int32.ofNat cs.length)), .val (.ref s2)] [(.ref a1), (.ref s2)])
    obtain ⟨T102, X102, e102, st102⟩ := getF X101 hx hZ hown (host := "") (Or.inl (hw _ (List.mem_of_getElem? (i := 54) rfl))) Via.refl e101 Gv (g := (mkF m 7 #[.val (.ref a1), .val (.int (Int32.ofNat cs.length)), .val (.ref s2)] [(.ref a1), (.ref s2)])) rfl rfl (hb hby d13_7)
    refine Go.of (fun _ hr => st102 _ hr) ?_
    show Go p e s below _ _ _ _ T102 (mkF m 10 #[.val (.ref a1), .val (.int (Int32.ofNat cs.length)), .val (.ref s2)] [(.ref v1), (.ref s2)])
    refine Go.of (fun _ hr => XS.iloadN X102.here hx rfl (hb hby d13_10) rfl  hr) ?_
    show Go p e s below _ _ _ _ T102 (mkF m 11 #[.val (.ref a1), .val (.int (Int32.ofNat cs.length)), .val (.ref s2)] [(.int (Int32.ofNat cs.length)), (.ref v1), (.ref s2)])
    refine Go.of (fun _ hr => XS.aloadN X102.here hx rfl (hb hby d13_11) rfl rfl hr) ?_
    show Go p e s below _ _ _ _ T102 (mkF m 12 #[.val (.ref a1), .val (.int (Int32.ofNat cs.length)), .val (.ref s2)] [(.ref a1), (.int (Int32.ofNat cs.length)), (.ref v1), (.ref s2)])
    obtain ⟨T103, X103, e103, st103⟩ := getF X102 hx hZ hown (host := "") (Or.inl (hw _ (List.mem_of_getElem? (i := 56) rfl))) Via.refl e102 Gc (g := (mkF m 12 #[.val (.ref a1), .val (.int (Int32.ofNat cs.length)), .val (.ref s2)] [(.ref a1), (.int (Int32.ofNat cs.length)), (.ref v1), (.ref s2)])) rfl rfl (hb hby d13_12)
    refine Go.of (fun _ hr => st103 _ hr) ?_
    show Go p e s below _ _ _ _ T103 (mkF m 15 #[.val (.ref a1), .val (.int (Int32.ofNat cs.length)), .val (.ref s2)] [(.int (1 : Int32)), (.int (Int32.ofNat cs.length)), (.ref v1), (.ref s2)])
    obtain ⟨_, b104, T104, h104, L104, e104, Cc104, X104, B104, J104, g104, hQ104, st104⟩ := own_callV Cc101 B101 J101 X103 (hw _ (List.mem_of_getElem? (i := 99) rfl)) (hw _ (List.mem_of_getElem? (i := 100) rfl)) (notFace_of_selects (args := #[]) (mvT hZ (hw _ (List.mem_of_getElem? (i := 102) rfl)))) (hw _ (List.mem_of_getElem? (i := 102) rfl)) (hw _ (List.mem_of_getElem? (i := 101) rfl)) (hw _ (List.mem_of_getElem? (i := 7) rfl)) (hw _ (List.mem_of_getElem? (i := 103) rfl)) (by decide) Es2 (rmC15 l Z a0 hw [] v1 _ cs s2 t2 _ c2 zc _ h0 n0 O0 nb hb0 (Nat.le_trans hnb K0.1) fr_v1 hm_v1 fs hfs S_F S_D S_H S_L W1 Es2 Fv2 Fc2 hso V2 hn2 hr2 hl hac ne2 S_C hzc) e103 (g := (mkF m 15 #[.val (.ref a1), .val (.int (Int32.ofNat cs.length)), .val (.ref s2)] [(.int (1 : Int32)), (.int (Int32.ofNat cs.length)), (.ref v1), (.ref s2)])) rfl (by rw [hml]; rfl) (argsL := [(.ref v1), (.int (Int32.ofNat cs.length)), (.int (1 : Int32))]) (rest := []) (lenOf pd24 rfl) rfl (W := 0) (by show 2 * 0 + _ ≤ _; exact Nat.le_of_eq rfl) (hb hby d13_15) (by decide) (by decide) (by decide) (by decide)
    obtain ⟨rfl, Nq104, Kq104, Wv104⟩ := hQ104
    have N104 := Fr.app N101 Nq104
    obtain ⟨hx, hZ, hown, hby, hml, hnm, hret, hlk⟩ := id Cc104
    have K104 := K0.trans Kq104 (allS (Or.inl (List.mem_of_getElem? (i := 1) rfl)) all0)
    have O104 := O0.keep Kq104 (allS (Nat.le_trans hb0 fr_v1) all0)
    refine Go.of st104 ?_
    show Go p e s below _ _ _ _ T104 (mkF m 18 #[.val (.ref a1), .val (.int (Int32.ofNat cs.length)), .val (.ref s2)] [])
    have f105 := (Gv.keep Kq104 (ninS nea nin0))
    have f106 := (Gc.keep Kq104 (ninS nea nin0))
    have f107 := (Gn.keep Kq104 (ninS nea nin0))
    have f108 := (Gm.keep Kq104 (ninS nea nin0))
    exact Go.retV X104 hx hlk B104 J104 e104 hret (hb hby d13_18) (by decide) (by decide) (fun vm_ hw_ => ⟨rfl, N104, K104, v1, _, 1, (utf (cs ++ c2)), 32, Or.inl rfl, fr_v1, f105, f106, f107, f108, (Or.inr ⟨rfl, rfl, rfl⟩), Wv104, (J104.sub (own_sub1 hm_v1 (fun x hx => hx))).warm hw_⟩)
  · refine Con.mk (plainFor_of_name pn4) ?_
    intro p e s m below meth c s₁ Cc X0 e0 eb J0 B0 M0
    obtain ⟨hx, hZ, hown, hby, hml, hnm, hret, hlk⟩ := id Cc
    have N0 := Fr.nil nb
    have K0 := Keep.refl h0 [a1, v1]
    show Go p e s below _ _ _ _ s₁ (mkF m 0 #[.val (.ref a1), .val (.int (Int32.ofNat cs.length)), .val (.ref s2)] [])
    refine Go.of (fun _ hr => XS.aloadN X0.here hx rfl (hb hby d13_0) rfl rfl hr) ?_
    show Go p e s below _ _ _ _ s₁ (mkF m 1 #[.val (.ref a1), .val (.int (Int32.ofNat cs.length)), .val (.ref s2)] [(.ref a1)])
    refine Go.of (fun _ hr => XS.aloadN X0.here hx rfl (hb hby d13_1) rfl rfl hr) ?_
    show Go p e s below _ _ _ _ s₁ (mkF m 2 #[.val (.ref a1), .val (.int (Int32.ofNat cs.length)), .val (.ref s2)] [(.ref s2), (.ref a1)])
    obtain ⟨_, b101, T101, h101, L101, e101, Cc101, X101, B101, J101, g101, hQ101, st101⟩ := own_callV Cc B0 J0 X0 (hw _ (List.mem_of_getElem? (i := 93) rfl)) (own_decl (hw _ (List.mem_of_getElem? (i := 94) rfl)) (hw _ (List.mem_of_getElem? (i := 97) rfl))) (notFace_of_selects (args := #[]) (mvT hZ (hw _ (List.mem_of_getElem? (i := 96) rfl)))) (hw _ (List.mem_of_getElem? (i := 96) rfl)) (hw _ (List.mem_of_getElem? (i := 94) rfl)) (hw _ (List.mem_of_getElem? (i := 50) rfl)) (hw _ (List.mem_of_getElem? (i := 97) rfl)) (by decide) Ea1 (rm14 l Z a0 hw [] a1 s2 t2 _ c2 (1 : Int32) (utf c2) zc _ h0 n0 O0 h0.size (own_ole O0) K0.1 Ea1 Gc Es2 Fv2 Fc2 hso V2 hn2 hr2 S_C hzc) e0 (g := (mkF m 2 #[.val (.ref a1), .val (.int (Int32.ofNat cs.length)), .val (.ref s2)] [(.ref s2), (.ref a1)])) rfl (by rw [hml]; rfl) (argsL := [(.ref s2)]) (rest := []) (lenOf pd23 rfl) rfl (W := 0) (by show 2 * 0 + _ ≤ _; exact Nat.le_of_eq rfl) (hb hby d13_2) (by decide) (by decide) (by decide) (by decide)
    obtain ⟨rfl, Nq101, hh101⟩ := hQ101
    have N101 := Fr.app N0 (show Fr nb _ from fun y hy => Nat.le_trans hnb (Nq101 y hy))
    have NS101 := Fr.app (Fr.nil _) Nq101
    obtain ⟨hx, hZ, hown, hby, hml, hnm, hret, hlk⟩ := id Cc101
    rw [hh101] at e101 B101 J101
    refine Go.of st101 ?_
    show Go p e s below _ _ _ _ T101 (mkF m 5 #[.val (.ref a1), .val (.int (Int32.ofNat cs.length)), .val (.ref s2)] [])
    refine Go.of (fun _ hr => XS.aloadN X101.here hx rfl (hb hby d13_5) rfl rfl hr) ?_
    show Go p e s below _ _ _ _ T101 (mkF m 6 #[.val (.ref a1), .val (.int (Int32.ofNat cs.length)), .val (.ref s2)] [(.ref s2)])
    refine Go.of (fun _ hr => XS.aloadN X101.here hx rfl (hb hby d13_6) rfl rfl hr) ?_
    show Go p e s below _ _ _ _ T101 (mkF m 7 #[.val (.ref a1), .val (.int (Int32.ofNat cs.length)), .val (.ref s2)] [(.ref a1), (.ref s2)])
    obtain ⟨T102, X102, e102, st102⟩ := getF X101 hx hZ hown (host := "") (Or.inl (hw _ (List.mem_of_getElem? (i := 54) rfl))) Via.refl e101 Gv (g := (mkF m 7 #[.val (.ref a1), .val (.int (Int32.ofNat cs.length)), .val (.ref s2)] [(.ref a1), (.ref s2)])) rfl rfl (hb hby d13_7)
    refine Go.of (fun _ hr => st102 _ hr) ?_
    show Go p e s below _ _ _ _ T102 (mkF m 10 #[.val (.ref a1), .val (.int (Int32.ofNat cs.length)), .val (.ref s2)] [(.ref v1), (.ref s2)])
    refine Go.of (fun _ hr => XS.iloadN X102.here hx rfl (hb hby d13_10) rfl  hr) ?_
    show Go p e s below _ _ _ _ T102 (mkF m 11 #[.val (.ref a1), .val (.int (Int32.ofNat cs.length)), .val (.ref s2)] [(.int (Int32.ofNat cs.length)), (.ref v1), (.ref s2)])
    refine Go.of (fun _ hr => XS.aloadN X102.here hx rfl (hb hby d13_11) rfl rfl hr) ?_
    show Go p e s below _ _ _ _ T102 (mkF m 12 #[.val (.ref a1), .val (.int (Int32.ofNat cs.length)), .val (.ref s2)] [(.ref a1), (.int (Int32.ofNat cs.length)), (.ref v1), (.ref s2)])
    obtain ⟨T103, X103, e103, st103⟩ := getF X102 hx hZ hown (host := "") (Or.inl (hw _ (List.mem_of_getElem? (i := 56) rfl))) Via.refl e102 Gc (g := (mkF m 12 #[.val (.ref a1), .val (.int (Int32.ofNat cs.length)), .val (.ref s2)] [(.ref a1), (.int (Int32.ofNat cs.length)), (.ref v1), (.ref s2)])) rfl rfl (hb hby d13_12)
    refine Go.of (fun _ hr => st103 _ hr) ?_
    show Go p e s below _ _ _ _ T103 (mkF m 15 #[.val (.ref a1), .val (.int (Int32.ofNat cs.length)), .val (.ref s2)] [(.int (1 : Int32)), (.int (Int32.ofNat cs.length)), (.ref v1), (.ref s2)])
    obtain ⟨_, b104, T104, h104, L104, e104, Cc104, X104, B104, J104, g104, hQ104, st104⟩ := own_callV Cc101 B101 J101 X103 (hw _ (List.mem_of_getElem? (i := 99) rfl)) (hw _ (List.mem_of_getElem? (i := 100) rfl)) (notFace_of_selects (args := #[]) (mvT hZ (hw _ (List.mem_of_getElem? (i := 102) rfl)))) (hw _ (List.mem_of_getElem? (i := 102) rfl)) (hw _ (List.mem_of_getElem? (i := 101) rfl)) (hw _ (List.mem_of_getElem? (i := 7) rfl)) (hw _ (List.mem_of_getElem? (i := 103) rfl)) (by decide) Es2 (rm15 l Z a0 hw [] v1 _ (utf cs) 32 (Int32.ofNat cs.length) s2 t2 _ c2 (1 : Int32) (utf c2) zc _ h0 n0 O0 nb hb0 (Nat.le_trans hnb K0.1) fr_v1 hm_v1 W1 (bo_z hbo (by omega)) Es2 Fv2 Fc2 hso V2 hn2 hr2 (bo_same hbo hso hac).2 (by decide) ne2 S_C hzc) e103 (g := (mkF m 15 #[.val (.ref a1), .val (.int (Int32.ofNat cs.length)), .val (.ref s2)] [(.int (1 : Int32)), (.int (Int32.ofNat cs.length)), (.ref v1), (.ref s2)])) rfl (by rw [hml]; rfl) (argsL := [(.ref v1), (.int (Int32.ofNat cs.length)), (.int (1 : Int32))]) (rest := []) (lenOf pd24 rfl) rfl (W := 0) (by show 2 * 0 + _ ≤ _; exact Nat.le_of_eq rfl) (hb hby d13_15) (by decide) (by decide) (by decide) (by decide)
    obtain ⟨rfl, Nq104, Kq104, Wv104⟩ := hQ104
    have N104 := Fr.app N101 Nq104
    obtain ⟨hx, hZ, hown, hby, hml, hnm, hret, hlk⟩ := id Cc104
    have K104 := K0.trans Kq104 (allS (Or.inl (List.mem_of_getElem? (i := 1) rfl)) all0)
    have O104 := O0.keep Kq104 (allS (Nat.le_trans hb0 fr_v1) all0)
    refine Go.of st104 ?_
    show Go p e s below _ _ _ _ T104 (mkF m 18 #[.val (.ref a1), .val (.int (Int32.ofNat cs.length)), .val (.ref s2)] [])
    have f105 := (Gv.keep Kq104 (ninS nea nin0))
    have f106 := (Gc.keep Kq104 (ninS nea nin0))
    have f107 := (Gn.keep Kq104 (ninS nea nin0))
    have f108 := (Gm.keep Kq104 (ninS nea nin0))
    exact Go.retV X104 hx hlk B104 J104 e104 hret (hb hby d13_18) (by decide) (by decide) (fun vm_ hw_ => ⟨rfl, N104, K104, v1, _, 1, ((utf cs) ++ (utf c2)), 32, Or.inl rfl, fr_v1, f105, f106, f107, f108, (bo_same hbo hso hac).1, Wv104, (J104.sub (own_sub1 hm_v1 (fun x hx => hx))).warm hw_⟩)

theorem d9_0 : decode jdk_68_method_22_code 0 = .ok (.aload_n 1, 1) := by decide +kernel
theorem d9_1 : decode jdk_68_method_22_code 1 = .ok (.ifnonnull 8, 3) := by decide +kernel
theorem d9_9 : decode jdk_68_method_22_code 9 = .ok (.aload_n 1, 1) := by decide +kernel
theorem d9_10 : decode jdk_68_method_22_code 10 = .ok (.invokevirtual 32, 3) := by decide +kernel
theorem pd25 : parseMethodDescriptor "()I" = some ⟨[], some .int⟩ := by decide +kernel
theorem d9_13 : decode jdk_68_method_22_code 13 = .ok (.istore_n 2, 1) := by decide +kernel
theorem d9_14 : decode jdk_68_method_22_code 14 = .ok (.aload_n 0, 1) := by decide +kernel
theorem d9_15 : decode jdk_68_method_22_code 15 = .ok (.aload_n 0, 1) := by decide +kernel
theorem d9_16 : decode jdk_68_method_22_code 16 = .ok (.getfield 79, 3) := by decide +kernel
theorem d9_19 : decode jdk_68_method_22_code 19 = .ok (.iload_n 2, 1) := by decide +kernel
theorem d9_20 : decode jdk_68_method_22_code 20 = .ok (.iadd, 1) := by decide +kernel
theorem d9_21 : decode jdk_68_method_22_code 21 = .ok (.invokevirtual 100, 3) := by decide +kernel
theorem d9_24 : decode jdk_68_method_22_code 24 = .ok (.aload_n 0, 1) := by decide +kernel
theorem d9_25 : decode jdk_68_method_22_code 25 = .ok (.aload_n 0, 1) := by decide +kernel
theorem d9_26 : decode jdk_68_method_22_code 26 = .ok (.getfield 79, 3) := by decide +kernel
theorem d9_29 : decode jdk_68_method_22_code 29 = .ok (.aload_n 1, 1) := by decide +kernel
theorem d9_30 : decode jdk_68_method_22_code 30 = .ok (.invokevirtual 208, 3) := by decide +kernel
theorem pd26 : parseMethodDescriptor "(ILjava/lang/String;)V" = some ⟨[.int, (.object "java/lang/String")], none⟩ := by decide +kernel
theorem d9_33 : decode jdk_68_method_22_code 33 = .ok (.aload_n 0, 1) := by decide +kernel
theorem d9_34 : decode jdk_68_method_22_code 34 = .ok (.dup, 1) := by decide +kernel
theorem d9_35 : decode jdk_68_method_22_code 35 = .ok (.getfield 79, 3) := by decide +kernel
theorem d9_38 : decode jdk_68_method_22_code 38 = .ok (.iload_n 2, 1) := by decide +kernel
theorem d9_39 : decode jdk_68_method_22_code 39 = .ok (.iadd, 1) := by decide +kernel
theorem d9_40 : decode jdk_68_method_22_code 40 = .ok (.putfield 79, 3) := by decide +kernel
theorem d9_43 : decode jdk_68_method_22_code 43 = .ok (.aload_n 0, 1) := by decide +kernel
theorem d9_44 : decode jdk_68_method_22_code 44 = .ok (.areturn, 1) := by decide +kernel
set_option maxRecDepth 65536 in
set_option maxHeartbeats 40000000 in
theorem rm9 (l : Launch) (Z : State) (a0 : Array Value) (hw : ∀ d ∈ tables_1, d.before a0 Z = true) (ws : List Jvm.Cond) (a1 v1 : Addr) (kv : ClassId) (cs : List Int32) (bc : Int32) (bs : List Int32) (nn : Nat) (s2 t2 : Addr) (k2 : ClassId) (c2 : List Int32) (cd : Int32) (b2 : List Int32) (zc : Int32) (ms : List Addr) (h0 : Heap) (n0 : Nat) (O0 : Old Z n0 h0) (nb : Nat) (hb0 : n0 ≤ nb) (hnb : nb ≤ h0.size) (fr_a1 : nb ≤ a1) (hm_a1 : a1 ∈ ms) (fr_v1 : nb ≤ v1) (hm_v1 : v1 ∈ ms) (fs : Value) (hfs : fs = .null ∨ ∃ a, fs = .ref a) (S_F : Sta Z Z.heap "jdk/internal/util/Preconditions" "SIOOBE_FORMATTER" "Ljava/util/function/BiFunction;" fs) (S_D : Sta Z Z.heap "java/lang/StringUTF16" "$assertionsDisabled" "Z" (.int 1)) (S_H : Sta Z Z.heap "java/lang/StringUTF16" "HI_BYTE_SHIFT" "I" (.int 0)) (S_L : Sta Z Z.heap "java/lang/StringUTF16" "LO_BYTE_SHIFT" "I" (.int 8)) (Ea1 : Exa Z h0 a1 "java/lang/StringBuilder") (Gv : Fld Z h0 a1 "java/lang/AbstractStringBuilder" "value" "[B" (.ref v1)) (Gc : Fld Z h0 a1 "java/lang/AbstractStringBuilder" "coder" "B" (.int bc)) (Gn : Fld Z h0 a1 "java/lang/AbstractStringBuilder" "count" "I" (.int (Int32.ofNat cs.length))) (Gm : Fld Z h0 a1 "java/lang/AbstractStringBuilder" "maybeLatin1" "Z" (.int 0)) (W1 : Arv Z h0 v1 kv .byte (Int32.ofNat nn) (bs.map Value.int) (.int 0)) (hbo : BOf cs bc bs nn) (hcl : cs.length ≤ 16) (Es2 : Exa Z h0 s2 "java/lang/String") (Fv2 : Fld Z h0 s2 "java/lang/String" "value" "[B" (.ref t2)) (Fc2 : Fld Z h0 s2 "java/lang/String" "coder" "B" (.int cd)) (hso : StrOf c2 cd b2) (V2 : Arv Z h0 t2 k2 .byte (Int32.ofNat b2.length) (b2.map Value.int) (.int 0)) (hn2 : c2.length ≤ 16) (hr2 : ∀ x ∈ c2, rng16 x) (hac : cs.length + c2.length ≤ 16) (hr : ∀ x ∈ cs, rng16 x) (nea : a1 ≠ v1) (ne2 : t2 ≠ v1) (nes : s2 ≠ v1) (net : t2 ≠ a1) (nsa : s2 ≠ a1) (S_C : Sta Z Z.heap "java/lang/String" "COMPACT_STRINGS" "Z" (.int zc)) (hzc : ¬ zc = 0) :
    Con l Z ms (⟨"java/lang/AbstractStringBuilder", "append", "(Ljava/lang/String;)Ljava/lang/AbstractStringBuilder;"⟩ : MethodName) jdk_68_method_22_code 3 (some (.object "java/lang/AbstractStringBuilder")) ws ({ frames := 8, cells := 1, slots := 32, locals := 116 } : Room) #[(.ref a1), (.ref s2)] h0 (fun v vm h L => v = some (.ref a1) ∧ Fr nb L ∧ Keep h0 h [a1, v1] ∧ ∃ v' kv' bc' bs' nn', (v' = v1 ∨ h0.size ≤ v') ∧ nb ≤ v' ∧ Fld Z h a1 "java/lang/AbstractStringBuilder" "value" "[B" (.ref v') ∧ Fld Z h a1 "java/lang/AbstractStringBuilder" "coder" "B" (.int bc') ∧ Fld Z h a1 "java/lang/AbstractStringBuilder" "count" "I" (.int (Int32.ofNat (cs ++ c2).length)) ∧ Fld Z h a1 "java/lang/AbstractStringBuilder" "maybeLatin1" "Z" (.int 0) ∧ BOf (cs ++ c2) bc' bs' nn' ∧ Arv Z h v' kv' .byte (Int32.ofNat nn') (bs'.map Value.int) (.int 0) ∧ Hd Z (v' :: ms) vm h) := by
  refine Con.mk (plainFor_of_name pn4) ?_
  intro p e s m below meth c s₁ Cc X0 e0 eb J0 B0 M0
  obtain ⟨hx, hZ, hown, hby, hml, hnm, hret, hlk⟩ := id Cc
  have N0 := Fr.nil nb
  have K0 := Keep.refl h0 [a1, v1]
  show Go p e s below _ _ _ _ s₁ (mkF m 0 #[.val (.ref a1), .val (.ref s2), .unset] [])
  refine Go.of (fun _ hr => XS.aloadN X0.here hx rfl (hb hby d9_0) rfl rfl hr) ?_
  show Go p e s below _ _ _ _ s₁ (mkF m 1 #[.val (.ref a1), .val (.ref s2), .unset] [(.ref s2)])
  refine Go.of (fun _ hr => XS.ifnonnullYes X0.here hx rfl (pc0 := 1) (pc' := 9) rfl (hb hby d9_1) rfl (by decide) (by decide) hr) ?_
  show Go p e s below _ _ _ _ s₁ (mkF m 9 #[.val (.ref a1), .val (.ref s2), .unset] [])
  refine Go.of (fun _ hr => XS.aloadN X0.here hx rfl (hb hby d9_9) rfl rfl hr) ?_
  show Go p e s below _ _ _ _ s₁ (mkF m 10 #[.val (.ref a1), .val (.ref s2), .unset] [(.ref s2)])
  obtain ⟨_, b101, T101, h101, L101, e101, Cc101, X101, B101, J101, g101, hQ101, st101⟩ := own_callV Cc B0 J0 X0 (hw _ (List.mem_of_getElem? (i := 68) rfl)) (hw _ (List.mem_of_getElem? (i := 69) rfl)) (notFace_of_selects (args := #[]) (mvT hZ (hw _ (List.mem_of_getElem? (i := 71) rfl)))) (hw _ (List.mem_of_getElem? (i := 71) rfl)) (hw _ (List.mem_of_getElem? (i := 70) rfl)) (hw _ (List.mem_of_getElem? (i := 7) rfl)) (hw _ (List.mem_of_getElem? (i := 72) rfl)) (by decide) Es2 (rm10 l Z a0 hw [] s2 t2 _ c2 cd b2 zc _ h0 n0 O0 h0.size (own_ole O0) K0.1 Es2 Fv2 Fc2 hso V2 hn2 hr2 S_C hzc) e0 (g := (mkF m 10 #[.val (.ref a1), .val (.ref s2), .unset] [(.ref s2)])) rfl (by rw [hml]; rfl) (argsL := []) (rest := []) (lenOf pd25 rfl) rfl (W := 0) (by show 2 * 0 + _ ≤ _; exact Nat.le_of_eq rfl) (hb hby d9_10) (by decide) (by decide) (by decide) (by decide)
  obtain ⟨rfl, Nq101, hh101⟩ := hQ101
  have N101 := Fr.app N0 (show Fr nb _ from fun y hy => Nat.le_trans hnb (Nq101 y hy))
  have NS101 := Fr.app (Fr.nil _) Nq101
  obtain ⟨hx, hZ, hown, hby, hml, hnm, hret, hlk⟩ := id Cc101
  rw [hh101] at e101 B101 J101
  refine Go.of st101 ?_
  show Go p e s below _ _ _ _ T101 (mkF m 13 #[.val (.ref a1), .val (.ref s2), .unset] [(.int (Int32.ofNat c2.length))])
  refine Go.of (fun _ hr => XS.istoreN X101.here hx rfl (hb hby d9_13) rfl (l' := #[.val (.ref a1), .val (.ref s2), .val (.int (Int32.ofNat c2.length))]) rfl hr) ?_
  show Go p e s below _ _ _ _ T101 (mkF m 14 #[.val (.ref a1), .val (.ref s2), .val (.int (Int32.ofNat c2.length))] [])
  refine Go.of (fun _ hr => XS.aloadN X101.here hx rfl (hb hby d9_14) rfl rfl hr) ?_
  show Go p e s below _ _ _ _ T101 (mkF m 15 #[.val (.ref a1), .val (.ref s2), .val (.int (Int32.ofNat c2.length))] [(.ref a1)])
  refine Go.of (fun _ hr => XS.aloadN X101.here hx rfl (hb hby d9_15) rfl rfl hr) ?_
  show Go p e s below _ _ _ _ T101 (mkF m 16 #[.val (.ref a1), .val (.ref s2), .val (.int (Int32.ofNat c2.length))] [(.ref a1), (.ref a1)])
  obtain ⟨T102, X102, e102, st102⟩ := getF X101 hx hZ hown (host := "") (Or.inl (hw _ (List.mem_of_getElem? (i := 81) rfl))) Via.refl e101 Gn (g := (mkF m 16 #[.val (.ref a1), .val (.ref s2), .val (.int (Int32.ofNat c2.length))] [(.ref a1), (.ref a1)])) rfl rfl (hb hby d9_16)
  refine Go.of (fun _ hr => st102 _ hr) ?_
  show Go p e s below _ _ _ _ T102 (mkF m 19 #[.val (.ref a1), .val (.ref s2), .val (.int (Int32.ofNat c2.length))] [(.int (Int32.ofNat cs.length)), (.ref a1)])
  refine Go.of (fun _ hr => XS.iloadN X102.here hx rfl (hb hby d9_19) rfl  hr) ?_
  show Go p e s below _ _ _ _ T102 (mkF m 20 #[.val (.ref a1), .val (.ref s2), .val (.int (Int32.ofNat c2.length))] [(.int (Int32.ofNat c2.length)), (.int (Int32.ofNat cs.length)), (.ref a1)])
  refine Go.of (fun _ hr => XS.iadd X102.here hx rfl (hb hby d9_20) rfl hr) ?_
  show Go p e s below _ _ _ _ T102 (mkF m 21 #[.val (.ref a1), .val (.ref s2), .val (.int (Int32.ofNat c2.length))] [(.int ((Int32.ofNat cs.length) + (Int32.ofNat c2.length))), (.ref a1)])
  rw [oi_add (show cs.length + c2.length < 2147483648 by omega)]
  show Go p e s below _ _ _ _ T102 (mkF m 21 #[.val (.ref a1), .val (.ref s2), .val (.int (Int32.ofNat c2.length))] [(.int (Int32.ofNat (cs.length + c2.length))), (.ref a1)])
  obtain ⟨_, b103, T103, h103, L103, e103, Cc103, X103, B103, J103, g103, hQ103, st103⟩ := own_callV Cc101 B101 J101 X102 (hw _ (List.mem_of_getElem? (i := 83) rfl)) (own_decl (hw _ (List.mem_of_getElem? (i := 84) rfl)) (hw _ (List.mem_of_getElem? (i := 87) rfl))) (notFace_of_selects (args := #[]) (mvT hZ (hw _ (List.mem_of_getElem? (i := 86) rfl)))) (hw _ (List.mem_of_getElem? (i := 86) rfl)) (hw _ (List.mem_of_getElem? (i := 84) rfl)) (hw _ (List.mem_of_getElem? (i := 50) rfl)) (hw _ (List.mem_of_getElem? (i := 87) rfl)) (by decide) Ea1 (rm12 l Z a0 hw [] a1 v1 _ cs bc bs nn (cs.length + c2.length) _ h0 n0 O0 h0.size (own_ole O0) K0.1 Ea1 Gv Gc Gn Gm W1 hbo hcl hac) e102 (g := (mkF m 21 #[.val (.ref a1), .val (.ref s2), .val (.int (Int32.ofNat c2.length))] [(.int (Int32.ofNat (cs.length + c2.length))), (.ref a1)])) rfl (by rw [hml]; rfl) (argsL := [(.int (Int32.ofNat (cs.length + c2.length)))]) (rest := []) (lenOf pd21 rfl) rfl (W := 0) (by show 2 * 0 + _ ≤ _; exact Nat.le_of_eq rfl) (hb hby d9_21) (by decide) (by decide) (by decide) (by decide)
  obtain ⟨rfl, Nq103, hh103⟩ := hQ103
  have N103 := Fr.app N101 (show Fr nb _ from fun y hy => Nat.le_trans hnb (Nq103 y hy))
  have NS103 := Fr.app NS101 Nq103
  obtain ⟨hx, hZ, hown, hby, hml, hnm, hret, hlk⟩ := id Cc103
  rw [hh103] at e103 B103 J103
  refine Go.of st103 ?_
  show Go p e s below _ _ _ _ T103 (mkF m 24 #[.val (.ref a1), .val (.ref s2), .val (.int (Int32.ofNat c2.length))] [])
  refine Go.of (fun _ hr => XS.aloadN X103.here hx rfl (hb hby d9_24) rfl rfl hr) ?_
  show Go p e s below _ _ _ _ T103 (mkF m 25 #[.val (.ref a1), .val (.ref s2), .val (.int (Int32.ofNat c2.length))] [(.ref a1)])
  refine Go.of (fun _ hr => XS.aloadN X103.here hx rfl (hb hby d9_25) rfl rfl hr) ?_
  show Go p e s below _ _ _ _ T103 (mkF m 26 #[.val (.ref a1), .val (.ref s2), .val (.int (Int32.ofNat c2.length))] [(.ref a1), (.ref a1)])
  obtain ⟨T104, X104, e104, st104⟩ := getF X103 hx hZ hown (host := "") (Or.inl (hw _ (List.mem_of_getElem? (i := 81) rfl))) Via.refl e103 Gn (g := (mkF m 26 #[.val (.ref a1), .val (.ref s2), .val (.int (Int32.ofNat c2.length))] [(.ref a1), (.ref a1)])) rfl rfl (hb hby d9_26)
  refine Go.of (fun _ hr => st104 _ hr) ?_
  show Go p e s below _ _ _ _ T104 (mkF m 29 #[.val (.ref a1), .val (.ref s2), .val (.int (Int32.ofNat c2.length))] [(.int (Int32.ofNat cs.length)), (.ref a1)])
  refine Go.of (fun _ hr => XS.aloadN X104.here hx rfl (hb hby d9_29) rfl rfl hr) ?_
  show Go p e s below _ _ _ _ T104 (mkF m 30 #[.val (.ref a1), .val (.ref s2), .val (.int (Int32.ofNat c2.length))] [(.ref s2), (.int (Int32.ofNat cs.length)), (.ref a1)])
  obtain ⟨_, b105, T105, h105, L105, e105, Cc105, X105, B105, J105, g105, hQ105, st105⟩ := own_callV Cc103 B103 J103 X104 (hw _ (List.mem_of_getElem? (i := 88) rfl)) (own_decl (hw _ (List.mem_of_getElem? (i := 89) rfl)) (hw _ (List.mem_of_getElem? (i := 92) rfl))) (notFace_of_selects (args := #[]) (mvT hZ (hw _ (List.mem_of_getElem? (i := 91) rfl)))) (hw _ (List.mem_of_getElem? (i := 91) rfl)) (hw _ (List.mem_of_getElem? (i := 89) rfl)) (hw _ (List.mem_of_getElem? (i := 50) rfl)) (hw _ (List.mem_of_getElem? (i := 92) rfl)) (by decide) Ea1 (rm13 l Z a0 hw [] a1 v1 _ cs bc bs nn s2 t2 _ c2 cd b2 zc _ h0 n0 O0 nb hb0 (Nat.le_trans hnb K0.1) fr_a1 hm_a1 fr_v1 hm_v1 fs hfs S_F S_D S_H S_L Ea1 Gv Gc Gn Gm W1 hbo hcl Es2 Fv2 Fc2 hso V2 hn2 hr2 hac hr nea ne2 nes net nsa S_C hzc) e104 (g := (mkF m 30 #[.val (.ref a1), .val (.ref s2), .val (.int (Int32.ofNat c2.length))] [(.ref s2), (.int (Int32.ofNat cs.length)), (.ref a1)])) rfl (by rw [hml]; rfl) (argsL := [(.int (Int32.ofNat cs.length)), (.ref s2)]) (rest := []) (lenOf pd26 rfl) rfl (W := 0) (by show 2 * 0 + _ ≤ _; exact Nat.le_of_eq rfl) (hb hby d9_30) (by decide) (by decide) (by decide) (by decide)
  obtain ⟨rfl, Nq105, Kq105, v105, kw105, bc105, bs105, nn105, Dv105, Frv105, Gv105, Gc105, Gn105, Gm105, Hb105, Wv105, Jv105⟩ := hQ105
  have N105 := Fr.app N103 Nq105
  obtain ⟨hx, hZ, hown, hby, hml, hnm, hret, hlk⟩ := id Cc105
  have K105 := K0.trans Kq105 (allS (Or.inl (List.mem_of_getElem? (i := 0) rfl)) (allS (Or.inl (List.mem_of_getElem? (i := 1) rfl)) all0))
  have O105 := O0.keep Kq105 (allS (Nat.le_trans hb0 fr_a1) (allS (Nat.le_trans hb0 fr_v1) all0))
  refine Go.of st105 ?_
  have ne_a1_v105 : a1 ≠ v105 := own_neor Dv105 nea Ea1.lt
  have ne_s2_v105 : s2 ≠ v105 := own_neor Dv105 nes Es2.lt
  have ne_t2_v105 : t2 ≠ v105 := own_neor Dv105 ne2 V2.lt
  show Go p e s below _ _ _ _ T105 (mkF m 33 #[.val (.ref a1), .val (.ref s2), .val (.int (Int32.ofNat c2.length))] [])
  refine Go.of (fun _ hr => XS.aloadN X105.here hx rfl (hb hby d9_33) rfl rfl hr) ?_
  show Go p e s below _ _ _ _ T105 (mkF m 34 #[.val (.ref a1), .val (.ref s2), .val (.int (Int32.ofNat c2.length))] [(.ref a1)])
  refine Go.of (fun _ hr => XS.dup X105.here hx rfl (hb hby d9_34) rfl rfl hr) ?_
  show Go p e s below _ _ _ _ T105 (mkF m 35 #[.val (.ref a1), .val (.ref s2), .val (.int (Int32.ofNat c2.length))] [(.ref a1), (.ref a1)])
  obtain ⟨T106, X106, e106, st106⟩ := getF X105 hx hZ hown (host := "") (Or.inl (hw _ (List.mem_of_getElem? (i := 81) rfl))) Via.refl e105 Gn105 (g := (mkF m 35 #[.val (.ref a1), .val (.ref s2), .val (.int (Int32.ofNat c2.length))] [(.ref a1), (.ref a1)])) rfl rfl (hb hby d9_35)
  refine Go.of (fun _ hr => st106 _ hr) ?_
  show Go p e s below _ _ _ _ T106 (mkF m 38 #[.val (.ref a1), .val (.ref s2), .val (.int (Int32.ofNat c2.length))] [(.int (Int32.ofNat cs.length)), (.ref a1)])
  refine Go.of (fun _ hr => XS.iloadN X106.here hx rfl (hb hby d9_38) rfl  hr) ?_
  show Go p e s below _ _ _ _ T106 (mkF m 39 #[.val (.ref a1), .val (.ref s2), .val (.int (Int32.ofNat c2.length))] [(.int (Int32.ofNat c2.length)), (.int (Int32.ofNat cs.length)), (.ref a1)])
  refine Go.of (fun _ hr => XS.iadd X106.here hx rfl (hb hby d9_39) rfl hr) ?_
  show Go p e s below _ _ _ _ T106 (mkF m 40 #[.val (.ref a1), .val (.ref s2), .val (.int (Int32.ofNat c2.length))] [(.int ((Int32.ofNat cs.length) + (Int32.ofNat c2.length))), (.ref a1)])
  rw [oi_add (show cs.length + c2.length < 2147483648 by omega), ← List.length_append]
  show Go p e s below _ _ _ _ T106 (mkF m 40 #[.val (.ref a1), .val (.ref s2), .val (.int (Int32.ofNat c2.length))] [(.int (Int32.ofNat (cs ++ c2).length)), (.ref a1)])
  have f108 := (Ea1.keep Kq105)
  obtain ⟨T107, h107, X107, e107, W107, st107⟩ := putF X106 hx hZ hown (host := "") (Or.inl (hw _ (List.mem_of_getElem? (i := 81) rfl))) Via.refl e106 Gn105 f108 (Or.inl (hw _ (List.mem_of_getElem? (i := 82) rfl))) (hw _ (List.mem_of_getElem? (i := 41) rfl)) (ty := .int) (by decide) rfl rfl (g := (mkF m 40 #[.val (.ref a1), .val (.ref s2), .val (.int (Int32.ofNat c2.length))] [(.int (Int32.ofNat (cs ++ c2).length)), (.ref a1)])) rfl rfl (hb hby d9_40)
  have N107 := Fr.snoc X107 N105 fr_a1
  have J107 := Jv105.wr W107 (List.mem_cons_of_mem _ hm_a1)
  have B107 := B105.mono (Nat.le_of_eq W107.size.symm)
  have O107 := O105.wr W107 (Nat.le_trans hb0 fr_a1)
  have K107 := K105.wr W107 (Or.inl (List.mem_of_getElem? (i := 0) rfl))
  have Fw107 := Gn105.same W107
  refine Go.of (fun _ hr => st107 _ hr) ?_
  show Go p e s below _ _ _ _ T107 (mkF m 43 #[.val (.ref a1), .val (.ref s2), .val (.int (Int32.ofNat c2.length))] [])
  refine Go.of (fun _ hr => XS.aloadN X107.here hx rfl (hb hby d9_43) rfl rfl hr) ?_
  show Go p e s below _ _ _ _ T107 (mkF m 44 #[.val (.ref a1), .val (.ref s2), .val (.int (Int32.ofNat c2.length))] [(.ref a1)])
  have f109 := (Gv105.other W107 (Or.inr (slot_ne (Or.inl (hw _ (List.mem_of_getElem? (i := 55) rfl))) (Or.inl (hw _ (List.mem_of_getElem? (i := 82) rfl))) (by decide) (t := (.array .byte)) (t' := .int) (by decide) (by decide))))
  have f110 := (Gc105.other W107 (Or.inr (slot_ne (Or.inl (hw _ (List.mem_of_getElem? (i := 57) rfl))) (Or.inl (hw _ (List.mem_of_getElem? (i := 82) rfl))) (by decide) (t := .byte) (t' := .int) (by decide) (by decide))))
  have f111 := (Gm105.other W107 (Or.inr (slot_ne (Or.inl (hw _ (List.mem_of_getElem? (i := 240) rfl))) (Or.inl (hw _ (List.mem_of_getElem? (i := 82) rfl))) (by decide) (t := .boolean) (t' := .int) (by decide) (by decide))))
  have f112 := (Wv105.other W107 (Ne.symm ne_a1_v105))
  exact Go.retA X107 hx hlk B107 (J107.sub fun x hx => (List.mem_cons_of_mem _ hx)) e107 hret rfl rfl (hb hby d9_44) (by decide) (by decide) (fun vm_ hw_ => ⟨rfl, N107, K107, v105, _, bc105, bs105, nn105, Dv105, Frv105, f109, f110, Fw107, f111, Hb105, f112, J107.warm hw_⟩)

theorem d8_0 : decode jdk_67_method_7_code 0 = .ok (.aload_n 0, 1) := by decide +kernel
theorem d8_1 : decode jdk_67_method_7_code 1 = .ok (.aload_n 1, 1) := by decide +kernel
theorem d8_2 : decode jdk_67_method_7_code 2 = .ok (.invokespecial 29, 3) := by decide +kernel
theorem pd27 : parseMethodDescriptor "(Ljava/lang/String;)Ljava/lang/AbstractStringBuilder;" = some ⟨[(.object "java/lang/String")], some (.object "java/lang/AbstractStringBuilder")⟩ := by decide +kernel
theorem d8_5 : decode jdk_67_method_7_code 5 = .ok (.pop, 1) := by decide +kernel
theorem d8_6 : decode jdk_67_method_7_code 6 = .ok (.aload_n 0, 1) := by decide +kernel
theorem d8_7 : decode jdk_67_method_7_code 7 = .ok (.areturn, 1) := by decide +kernel
set_option maxRecDepth 65536 in
set_option maxHeartbeats 40000000 in
theorem rm8 (l : Launch) (Z : State) (a0 : Array Value) (hw : ∀ d ∈ tables_1, d.before a0 Z = true) (ws : List Jvm.Cond) (a1 v1 : Addr) (kv : ClassId) (cs : List Int32) (bc : Int32) (bs : List Int32) (nn : Nat) (s2 t2 : Addr) (k2 : ClassId) (c2 : List Int32) (cd : Int32) (b2 : List Int32) (zc : Int32) (ms : List Addr) (h0 : Heap) (n0 : Nat) (O0 : Old Z n0 h0) (nb : Nat) (hb0 : n0 ≤ nb) (hnb : nb ≤ h0.size) (fr_a1 : nb ≤ a1) (hm_a1 : a1 ∈ ms) (fr_v1 : nb ≤ v1) (hm_v1 : v1 ∈ ms) (fs : Value) (hfs : fs = .null ∨ ∃ a, fs = .ref a) (S_F : Sta Z Z.heap "jdk/internal/util/Preconditions" "SIOOBE_FORMATTER" "Ljava/util/function/BiFunction;" fs) (S_D : Sta Z Z.heap "java/lang/StringUTF16" "$assertionsDisabled" "Z" (.int 1)) (S_H : Sta Z Z.heap "java/lang/StringUTF16" "HI_BYTE_SHIFT" "I" (.int 0)) (S_L : Sta Z Z.heap "java/lang/StringUTF16" "LO_BYTE_SHIFT" "I" (.int 8)) (Ea1 : Exa Z h0 a1 "java/lang/StringBuilder") (Gv : Fld Z h0 a1 "java/lang/AbstractStringBuilder" "value" "[B" (.ref v1)) (Gc : Fld Z h0 a1 "java/lang/AbstractStringBuilder" "coder" "B" (.int bc)) (Gn : Fld Z h0 a1 "java/lang/AbstractStringBuilder" "count" "I" (.int (Int32.ofNat cs.length))) (Gm : Fld Z h0 a1 "java/lang/AbstractStringBuilder" "maybeLatin1" "Z" (.int 0)) (W1 : Arv Z h0 v1 kv .byte (Int32.ofNat nn) (bs.map Value.int) (.int 0)) (hbo : BOf cs bc bs nn) (hcl : cs.length ≤ 16) (Es2 : Exa Z h0 s2 "java/lang/String") (Fv2 : Fld Z h0 s2 "java/lang/String" "value" "[B" (.ref t2)) (Fc2 : Fld Z h0 s2 "java/lang/String" "coder" "B" (.int cd)) (hso : StrOf c2 cd b2) (V2 : Arv Z h0 t2 k2 .byte (Int32.ofNat b2.length) (b2.map Value.int) (.int 0)) (hn2 : c2.length ≤ 16) (hr2 : ∀ x ∈ c2, rng16 x) (hac : cs.length + c2.length ≤ 16) (hr : ∀ x ∈ cs, rng16 x) (nea : a1 ≠ v1) (ne2 : t2 ≠ v1) (nes : s2 ≠ v1) (net : t2 ≠ a1) (nsa : s2 ≠ a1) (S_C : Sta Z Z.heap "java/lang/String" "COMPACT_STRINGS" "Z" (.int zc)) (hzc : ¬ zc = 0) :
    Con l Z ms (⟨"java/lang/StringBuilder", "append", "(Ljava/lang/String;)Ljava/lang/StringBuilder;"⟩ : MethodName) jdk_67_method_7_code 2 (some (.object "java/lang/StringBuilder")) ws ({ frames := 9, cells := 1, slots := 32, locals := 130 } : Room) #[(.ref a1), (.ref s2)] h0 (fun v vm h L => v = some (.ref a1) ∧ Fr nb L ∧ Keep h0 h [a1, v1] ∧ ∃ v' kv' bc' bs' nn', (v' = v1 ∨ h0.size ≤ v') ∧ nb ≤ v' ∧ Fld Z h a1 "java/lang/AbstractStringBuilder" "value" "[B" (.ref v') ∧ Fld Z h a1 "java/lang/AbstractStringBuilder" "coder" "B" (.int bc') ∧ Fld Z h a1 "java/lang/AbstractStringBuilder" "count" "I" (.int (Int32.ofNat (cs ++ c2).length)) ∧ Fld Z h a1 "java/lang/AbstractStringBuilder" "maybeLatin1" "Z" (.int 0) ∧ BOf (cs ++ c2) bc' bs' nn' ∧ Arv Z h v' kv' .byte (Int32.ofNat nn') (bs'.map Value.int) (.int 0) ∧ Hd Z (v' :: ms) vm h) := by
  refine Con.mk (plainFor_of_name pn5) ?_
  intro p e s m below meth c s₁ Cc X0 e0 eb J0 B0 M0
  obtain ⟨hx, hZ, hown, hby, hml, hnm, hret, hlk⟩ := id Cc
  have N0 := Fr.nil nb
  have K0 := Keep.refl h0 [a1, v1]
  show Go p e s below _ _ _ _ s₁ (mkF m 0 #[.val (.ref a1), .val (.ref s2)] [])
  refine Go.of (fun _ hr => XS.aloadN X0.here hx rfl (hb hby d8_0) rfl rfl hr) ?_
  show Go p e s below _ _ _ _ s₁ (mkF m 1 #[.val (.ref a1), .val (.ref s2)] [(.ref a1)])
  refine Go.of (fun _ hr => XS.aloadN X0.here hx rfl (hb hby d8_1) rfl rfl hr) ?_
  show Go p e s below _ _ _ _ s₁ (mkF m 2 #[.val (.ref a1), .val (.ref s2)] [(.ref s2), (.ref a1)])
  obtain ⟨_, b101, T101, h101, L101, e101, Cc101, X101, B101, J101, g101, hQ101, st101⟩ := own_callP Cc B0 J0 X0 (y := (⟨"java/lang/AbstractStringBuilder", "append", "(Ljava/lang/String;)Ljava/lang/AbstractStringBuilder;"⟩ : MethodName)) (hw _ (List.mem_of_getElem? (i := 63) rfl)) (own_sm (hw _ (List.mem_of_getElem? (i := 64) rfl)) (own_nf (hw _ (List.mem_of_getElem? (i := 86) rfl)) rfl) (by decide)) (hw _ (List.mem_of_getElem? (i := 64) rfl)) (hw _ (List.mem_of_getElem? (i := 65) rfl)) (by decide) (hw _ (List.mem_of_getElem? (i := 50) rfl)) (hw _ (List.mem_of_getElem? (i := 67) rfl)) Ea1 (rm9 l Z a0 hw [] a1 v1 _ cs bc bs nn s2 t2 _ c2 cd b2 zc _ h0 n0 O0 nb hb0 (Nat.le_trans hnb K0.1) fr_a1 hm_a1 fr_v1 hm_v1 fs hfs S_F S_D S_H S_L Ea1 Gv Gc Gn Gm W1 hbo hcl Es2 Fv2 Fc2 hso V2 hn2 hr2 hac hr nea ne2 nes net nsa S_C hzc) e0 (g := (mkF m 2 #[.val (.ref a1), .val (.ref s2)] [(.ref s2), (.ref a1)])) rfl (by rw [hml]; rfl) (argsL := [(.ref s2)]) (rest := []) (lenOf pd27 rfl) rfl (W := 0) (by show 2 * 0 + _ ≤ _; exact Nat.le_of_eq rfl) (hb hby d8_2) (by decide) (by decide) (by decide) (by decide)
  obtain ⟨rfl, Nq101, Kq101, v101, kw101, bc101, bs101, nn101, Dv101, Frv101, Gv101, Gc101, Gn101, Gm101, Hb101, Wv101, Jv101⟩ := hQ101
  have N101 := Fr.app N0 Nq101
  obtain ⟨hx, hZ, hown, hby, hml, hnm, hret, hlk⟩ := id Cc101
  have K101 := K0.trans Kq101 (allS (Or.inl (List.mem_of_getElem? (i := 0) rfl)) (allS (Or.inl (List.mem_of_getElem? (i := 1) rfl)) all0))
  have O101 := O0.keep Kq101 (allS (Nat.le_trans hb0 fr_a1) (allS (Nat.le_trans hb0 fr_v1) all0))
  refine Go.of st101 ?_
  have ne_a1_v101 : a1 ≠ v101 := own_neor Dv101 nea Ea1.lt
  have ne_s2_v101 : s2 ≠ v101 := own_neor Dv101 nes Es2.lt
  have ne_t2_v101 : t2 ≠ v101 := own_neor Dv101 ne2 V2.lt
  show Go p e s below _ _ _ _ T101 (mkF m 5 #[.val (.ref a1), .val (.ref s2)] [(.ref a1)])
  refine Go.of (fun _ hr => XS.pop X101.here hx rfl (hb hby d8_5) rfl rfl hr) ?_
  show Go p e s below _ _ _ _ T101 (mkF m 6 #[.val (.ref a1), .val (.ref s2)] [])
  refine Go.of (fun _ hr => XS.aloadN X101.here hx rfl (hb hby d8_6) rfl rfl hr) ?_
  show Go p e s below _ _ _ _ T101 (mkF m 7 #[.val (.ref a1), .val (.ref s2)] [(.ref a1)])
  exact Go.retA X101 hx hlk B101 (Jv101.sub fun x hx => (List.mem_cons_of_mem _ hx)) e101 hret rfl rfl (hb hby d8_7) (by decide) (by decide) (fun vm_ hw_ => ⟨rfl, N101, K101, v101, _, bc101, bs101, nn101, Dv101, Frv101, Gv101, Gc101, Gn101, Gm101, Hb101, Wv101, Jv101.warm hw_⟩)

theorem d19_0 : decode jdk_68_method_64_code 0 = .ok (.aload_n 0, 1) := by decide +kernel
theorem d19_1 : decode jdk_68_method_64_code 1 = .ok (.getfield 15, 3) := by decide +kernel
theorem d19_4 : decode jdk_68_method_64_code 4 = .ok (.areturn, 1) := by decide +kernel
set_option maxRecDepth 65536 in
set_option maxHeartbeats 40000000 in
theorem rm19 (l : Launch) (Z : State) (a0 : Array Value) (hw : ∀ d ∈ tables_1, d.before a0 Z = true) (ws : List Jvm.Cond) (a1 v1 : Addr) (kv : ClassId) (cs : List Int32) (bc : Int32) (bs : List Int32) (nn : Nat) (ms : List Addr) (h0 : Heap) (n0 : Nat) (O0 : Old Z n0 h0) (nb : Nat) (hb0 : n0 ≤ nb) (hnb : nb ≤ h0.size) (Ea1 : Exa Z h0 a1 "java/lang/StringBuilder") (Gv : Fld Z h0 a1 "java/lang/AbstractStringBuilder" "value" "[B" (.ref v1)) (Gc : Fld Z h0 a1 "java/lang/AbstractStringBuilder" "coder" "B" (.int bc)) (Gn : Fld Z h0 a1 "java/lang/AbstractStringBuilder" "count" "I" (.int (Int32.ofNat cs.length))) (Gm : Fld Z h0 a1 "java/lang/AbstractStringBuilder" "maybeLatin1" "Z" (.int 0)) (W1 : Arv Z h0 v1 kv .byte (Int32.ofNat nn) (bs.map Value.int) (.int 0)) (hbo : BOf cs bc bs nn) (hcl : cs.length ≤ 16) :
    Con l Z ms (⟨"java/lang/AbstractStringBuilder", "getValue", "()[B"⟩ : MethodName) jdk_68_method_64_code 1 (some (.array .byte)) ws ({ frames := 0, cells := 0, slots := 0, locals := 0 } : Room) #[(.ref a1)] h0 (fun v vm h L => v = some (.ref v1) ∧ Fr nb L ∧ h = h0) := by
  refine Con.mk (plainFor_of_name pn4) ?_
  intro p e s m below meth c s₁ Cc X0 e0 eb J0 B0 M0
  obtain ⟨hx, hZ, hown, hby, hml, hnm, hret, hlk⟩ := id Cc
  have N0 := Fr.nil h0.size
  have K0 := Keep.refl h0 []
  show Go p e s below _ _ _ _ s₁ (mkF m 0 #[.val (.ref a1)] [])
  refine Go.of (fun _ hr => XS.aloadN X0.here hx rfl (hb hby d19_0) rfl rfl hr) ?_
  show Go p e s below _ _ _ _ s₁ (mkF m 1 #[.val (.ref a1)] [(.ref a1)])
  obtain ⟨T101, X101, e101, st101⟩ := getF X0 hx hZ hown (host := "") (Or.inl (hw _ (List.mem_of_getElem? (i := 54) rfl))) Via.refl e0 Gv (g := (mkF m 1 #[.val (.ref a1)] [(.ref a1)])) rfl rfl (hb hby d19_1)
  refine Go.of (fun _ hr => st101 _ hr) ?_
  show Go p e s below _ _ _ _ T101 (mkF m 4 #[.val (.ref a1)] [(.ref v1)])
  exact Go.retA X101 hx hlk B0 J0 e101 hret rfl rfl (hb hby d19_4) (by decide) (by decide) (fun vm_ hw_ => ⟨rfl, (fun y hy => Nat.le_trans hnb (N0 y hy)), rfl⟩)

theorem d21_0 : decode jdk_68_method_6_code 0 = .ok (.aload_n 0, 1) := by decide +kernel
theorem d21_1 : decode jdk_68_method_6_code 1 = .ok (.getfield 79, 3) := by decide +kernel
theorem d21_4 : decode jdk_68_method_6_code 4 = .ok (.ireturn, 1) := by decide +kernel
set_option maxRecDepth 65536 in
set_option maxHeartbeats 40000000 in
theorem rm21 (l : Launch) (Z : State) (a0 : Array Value) (hw : ∀ d ∈ tables_1, d.before a0 Z = true) (ws : List Jvm.Cond) (a1 v1 : Addr) (kv : ClassId) (cs : List Int32) (bc : Int32) (bs : List Int32) (nn : Nat) (ms : List Addr) (h0 : Heap) (n0 : Nat) (O0 : Old Z n0 h0) (nb : Nat) (hb0 : n0 ≤ nb) (hnb : nb ≤ h0.size) (Ea1 : Exa Z h0 a1 "java/lang/StringBuilder") (Gv : Fld Z h0 a1 "java/lang/AbstractStringBuilder" "value" "[B" (.ref v1)) (Gc : Fld Z h0 a1 "java/lang/AbstractStringBuilder" "coder" "B" (.int bc)) (Gn : Fld Z h0 a1 "java/lang/AbstractStringBuilder" "count" "I" (.int (Int32.ofNat cs.length))) (Gm : Fld Z h0 a1 "java/lang/AbstractStringBuilder" "maybeLatin1" "Z" (.int 0)) (W1 : Arv Z h0 v1 kv .byte (Int32.ofNat nn) (bs.map Value.int) (.int 0)) (hbo : BOf cs bc bs nn) (hcl : cs.length ≤ 16) :
    Con l Z ms (⟨"java/lang/AbstractStringBuilder", "length", "()I"⟩ : MethodName) jdk_68_method_6_code 1 (some .int) ws ({ frames := 0, cells := 0, slots := 0, locals := 0 } : Room) #[(.ref a1)] h0 (fun v vm h L => v = some (.int (Int32.ofNat cs.length)) ∧ Fr nb L ∧ h = h0) := by
  refine Con.mk (plainFor_of_name pn4) ?_
  intro p e s m below meth c s₁ Cc X0 e0 eb J0 B0 M0
  obtain ⟨hx, hZ, hown, hby, hml, hnm, hret, hlk⟩ := id Cc
  have N0 := Fr.nil h0.size
  have K0 := Keep.refl h0 []
  show Go p e s below _ _ _ _ s₁ (mkF m 0 #[.val (.ref a1)] [])
  refine Go.of (fun _ hr => XS.aloadN X0.here hx rfl (hb hby d21_0) rfl rfl hr) ?_
  show Go p e s below _ _ _ _ s₁ (mkF m 1 #[.val (.ref a1)] [(.ref a1)])
  obtain ⟨T101, X101, e101, st101⟩ := getF X0 hx hZ hown (host := "") (Or.inl (hw _ (List.mem_of_getElem? (i := 81) rfl))) Via.refl e0 Gn (g := (mkF m 1 #[.val (.ref a1)] [(.ref a1)])) rfl rfl (hb hby d21_1)
  refine Go.of (fun _ hr => st101 _ hr) ?_
  show Go p e s below _ _ _ _ T101 (mkF m 4 #[.val (.ref a1)] [(.int (Int32.ofNat cs.length))])
  exact Go.retI X101 hx hlk B0 J0 e101 hret (hb hby d21_4) (by decide) (by decide) (fun vm_ hw_ => ⟨rfl, (fun y hy => Nat.le_trans hnb (N0 y hy)), rfl⟩)

theorem d20_0 : decode jdk_67_method_93_code 0 = .ok (.aload_n 0, 1) := by decide +kernel
theorem d20_1 : decode jdk_67_method_93_code 1 = .ok (.invokespecial 343, 3) := by decide +kernel
theorem d20_4 : decode jdk_67_method_93_code 4 = .ok (.ireturn, 1) := by decide +kernel
set_option maxRecDepth 65536 in
set_option maxHeartbeats 40000000 in
theorem rm20 (l : Launch) (Z : State) (a0 : Array Value) (hw : ∀ d ∈ tables_1, d.before a0 Z = true) (ws : List Jvm.Cond) (a1 v1 : Addr) (kv : ClassId) (cs : List Int32) (bc : Int32) (bs : List Int32) (nn : Nat) (ms : List Addr) (h0 : Heap) (n0 : Nat) (O0 : Old Z n0 h0) (nb : Nat) (hb0 : n0 ≤ nb) (hnb : nb ≤ h0.size) (Ea1 : Exa Z h0 a1 "java/lang/StringBuilder") (Gv : Fld Z h0 a1 "java/lang/AbstractStringBuilder" "value" "[B" (.ref v1)) (Gc : Fld Z h0 a1 "java/lang/AbstractStringBuilder" "coder" "B" (.int bc)) (Gn : Fld Z h0 a1 "java/lang/AbstractStringBuilder" "count" "I" (.int (Int32.ofNat cs.length))) (Gm : Fld Z h0 a1 "java/lang/AbstractStringBuilder" "maybeLatin1" "Z" (.int 0)) (W1 : Arv Z h0 v1 kv .byte (Int32.ofNat nn) (bs.map Value.int) (.int 0)) (hbo : BOf cs bc bs nn) (hcl : cs.length ≤ 16) :
    Con l Z ms (⟨"java/lang/StringBuilder", "length", "()I"⟩ : MethodName) jdk_67_method_93_code 1 (some .int) ws ({ frames := 1, cells := 0, slots := 0, locals := 12 } : Room) #[(.ref a1)] h0 (fun v vm h L => v = some (.int (Int32.ofNat cs.length)) ∧ Fr nb L ∧ h = h0) := by
  refine Con.mk (plainFor_of_name pn5) ?_
  intro p e s m below meth c s₁ Cc X0 e0 eb J0 B0 M0
  obtain ⟨hx, hZ, hown, hby, hml, hnm, hret, hlk⟩ := id Cc
  have N0 := Fr.nil h0.size
  have K0 := Keep.refl h0 []
  show Go p e s below _ _ _ _ s₁ (mkF m 0 #[.val (.ref a1)] [])
  refine Go.of (fun _ hr => XS.aloadN X0.here hx rfl (hb hby d20_0) rfl rfl hr) ?_
  show Go p e s below _ _ _ _ s₁ (mkF m 1 #[.val (.ref a1)] [(.ref a1)])
  obtain ⟨_, b101, T101, h101, L101, e101, Cc101, X101, B101, J101, g101, hQ101, st101⟩ := own_callP Cc B0 J0 X0 (y := (⟨"java/lang/AbstractStringBuilder", "length", "()I"⟩ : MethodName)) (hw _ (List.mem_of_getElem? (i := 133) rfl)) (own_sm (hw _ (List.mem_of_getElem? (i := 129) rfl)) (own_nf (hw _ (List.mem_of_getElem? (i := 86) rfl)) rfl) (by decide)) (hw _ (List.mem_of_getElem? (i := 129) rfl)) (hw _ (List.mem_of_getElem? (i := 65) rfl)) (by decide) (hw _ (List.mem_of_getElem? (i := 50) rfl)) (hw _ (List.mem_of_getElem? (i := 134) rfl)) Ea1 (rm21 l Z a0 hw [] a1 v1 _ cs bc bs nn _ h0 n0 O0 h0.size (own_ole O0) K0.1 Ea1 Gv Gc Gn Gm W1 hbo hcl) e0 (g := (mkF m 1 #[.val (.ref a1)] [(.ref a1)])) rfl (by rw [hml]; rfl) (argsL := []) (rest := []) (lenOf pd25 rfl) rfl (W := 0) (by show 2 * 0 + _ ≤ _; exact Nat.le_of_eq rfl) (hb hby d20_1) (by decide) (by decide) (by decide) (by decide)
  obtain ⟨rfl, Nq101, hh101⟩ := hQ101
  have N101 := Fr.app N0 Nq101
  obtain ⟨hx, hZ, hown, hby, hml, hnm, hret, hlk⟩ := id Cc101
  rw [hh101] at e101 B101 J101
  refine Go.of st101 ?_
  show Go p e s below _ _ _ _ T101 (mkF m 4 #[.val (.ref a1)] [(.int (Int32.ofNat cs.length))])
  exact Go.retI X101 hx hlk B101 J101 e101 hret (hb hby d20_4) (by decide) (by decide) (fun vm_ hw_ => ⟨rfl, (fun y hy => Nat.le_trans hnb (N101 y hy)), rfl⟩)

theorem pn6 : plainName "java/util/Arrays" = true := by first | (simp [plainName, overriddenIn]; done) | decide +kernel
theorem d25_0 : decode jdk_65_method_131_code 0 = .ok (.iload_n 1, 1) := by decide +kernel
theorem d25_1 : decode jdk_65_method_131_code 1 = .ok (.iload_n 0, 1) := by decide +kernel
theorem d25_2 : decode jdk_65_method_131_code 2 = .ok (.if_icmp .ge 35, 3) := by decide +kernel
theorem d25_37 : decode jdk_65_method_131_code 37 = .ok (.return_, 1) := by decide +kernel
set_option maxRecDepth 65536 in
set_option maxHeartbeats 40000000 in
theorem rm25 (l : Launch) (Z : State) (a0 : Array Value) (hw : ∀ d ∈ tables_1, d.before a0 Z = true) (ws : List Jvm.Cond) (j : Nat) (ms : List Addr) (h0 : Heap) (n0 : Nat) (O0 : Old Z n0 h0) (nb : Nat) (hb0 : n0 ≤ nb) (hnb : nb ≤ h0.size) (hj : j ≤ 1000) :
    Con l Z ms (⟨"java/util/Arrays", "checkLength", "(II)V"⟩ : MethodName) jdk_65_method_131_code 2 none ws ({ frames := 0, cells := 0, slots := 0, locals := 0 } : Room) #[(.int (0 : Int32)), (.int (Int32.ofNat j))] h0 (fun v vm h L => v = none ∧ Fr nb L ∧ h = h0) := by
  refine Con.mk (plainFor_of_name pn6) ?_
  intro p e s m below meth c s₁ Cc X0 e0 eb J0 B0 M0
  obtain ⟨hx, hZ, hown, hby, hml, hnm, hret, hlk⟩ := id Cc
  have N0 := Fr.nil h0.size
  have K0 := Keep.refl h0 []
  show Go p e s below _ _ _ _ s₁ (mkF m 0 #[.val (.int (0 : Int32)), .val (.int (Int32.ofNat j))] [])
  refine Go.of (fun _ hr => XS.iloadN X0.here hx rfl (hb hby d25_0) rfl  hr) ?_
  show Go p e s below _ _ _ _ s₁ (mkF m 1 #[.val (.int (0 : Int32)), .val (.int (Int32.ofNat j))] [(.int (Int32.ofNat j))])
  refine Go.of (fun _ hr => XS.iloadN X0.here hx rfl (hb hby d25_1) rfl  hr) ?_
  show Go p e s below _ _ _ _ s₁ (mkF m 2 #[.val (.int (0 : Int32)), .val (.int (Int32.ofNat j))] [(.int (0 : Int32)), (.int (Int32.ofNat j))])
  refine Go.of (fun _ hr => XS.icmpYes X0.here hx rfl (pc0 := 2) (pc' := 37) rfl (hb hby d25_2) rfl (flt (oi_nn (by omega))).2.1 (by decide) (by decide) hr) ?_
  show Go p e s below _ _ _ _ s₁ (mkF m 37 #[.val (.int (0 : Int32)), .val (.int (Int32.ofNat j))] [])
  exact Go.retV X0 hx hlk B0 J0 e0 hret (hb hby d25_37) (by decide) (by decide) (fun vm_ hw_ => ⟨rfl, (fun y hy => Nat.le_trans hnb (N0 y hy)), rfl⟩)

theorem d26_0 : decode jdk_29_method_69_code 0 = .ok (.iload_n 0, 1) := by decide +kernel
theorem d26_1 : decode jdk_29_method_69_code 1 = .ok (.iload_n 1, 1) := by decide +kernel
theorem d26_2 : decode jdk_29_method_69_code 2 = .ok (.if_icmp .gt 7, 3) := by decide +kernel
theorem d26_9 : decode jdk_29_method_69_code 9 = .ok (.iload_n 1, 1) := by decide +kernel
theorem d26_10 : decode jdk_29_method_69_code 10 = .ok (.ireturn, 1) := by decide +kernel
set_option maxRecDepth 65536 in
set_option maxHeartbeats 40000000 in
theorem rm26 (l : Launch) (Z : State) (a0 : Array Value) (hw : ∀ d ∈ tables_1, d.before a0 Z = true) (ws : List Jvm.Cond) (q j : Nat) (ms : List Addr) (h0 : Heap) (n0 : Nat) (O0 : Old Z n0 h0) (nb : Nat) (hb0 : n0 ≤ nb) (hnb : nb ≤ h0.size) (hq : q ≤ 1000) (hj : j < q) :
    Con l Z ms (⟨"java/lang/Math", "min", "(II)I"⟩ : MethodName) jdk_29_method_69_code 2 (some .int) ws ({ frames := 0, cells := 0, slots := 0, locals := 0 } : Room) #[(.int (Int32.ofNat q)), (.int (Int32.ofNat j))] h0 (fun v vm h L => v = some (.int (Int32.ofNat j)) ∧ Fr nb L ∧ h = h0) := by
  refine Con.mk (by decide +kernel) ?_
  intro p e s m below meth c s₁ Cc X0 e0 eb J0 B0 M0
  obtain ⟨hx, hZ, hown, hby, hml, hnm, hret, hlk⟩ := id Cc
  have N0 := Fr.nil h0.size
  have K0 := Keep.refl h0 []
  show Go p e s below _ _ _ _ s₁ (mkF m 0 #[.val (.int (Int32.ofNat q)), .val (.int (Int32.ofNat j))] [])
  refine Go.of (fun _ hr => XS.iloadN X0.here hx rfl (hb hby d26_0) rfl  hr) ?_
  show Go p e s below _ _ _ _ s₁ (mkF m 1 #[.val (.int (Int32.ofNat q)), .val (.int (Int32.ofNat j))] [(.int (Int32.ofNat q))])
  refine Go.of (fun _ hr => XS.iloadN X0.here hx rfl (hb hby d26_1) rfl  hr) ?_
  show Go p e s below _ _ _ _ s₁ (mkF m 2 #[.val (.int (Int32.ofNat q)), .val (.int (Int32.ofNat j))] [(.int (Int32.ofNat j)), (.int (Int32.ofNat q))])
  refine Go.of (fun _ hr => XS.icmpYes X0.here hx rfl (pc0 := 2) (pc' := 9) rfl (hb hby d26_2) rfl (tlt (oi_lt (by omega) (by omega) hj)).2.2.1 (by decide) (by decide) hr) ?_
  show Go p e s below _ _ _ _ s₁ (mkF m 9 #[.val (.int (Int32.ofNat q)), .val (.int (Int32.ofNat j))] [])
  refine Go.of (fun _ hr => XS.iloadN X0.here hx rfl (hb hby d26_9) rfl  hr) ?_
  show Go p e s below _ _ _ _ s₁ (mkF m 10 #[.val (.int (Int32.ofNat q)), .val (.int (Int32.ofNat j))] [(.int (Int32.ofNat j))])
  exact Go.retI X0 hx hlk B0 J0 e0 hret (hb hby d26_10) (by decide) (by decide) (fun vm_ hw_ => ⟨rfl, (fun y hy => Nat.le_trans hnb (N0 y hy)), rfl⟩)

theorem d24_0 : decode jdk_65_method_133_code 0 = .ok (.iload_n 1, 1) := by decide +kernel
theorem d24_1 : decode jdk_65_method_133_code 1 = .ok (.iload_n 2, 1) := by decide +kernel
theorem d24_2 : decode jdk_65_method_133_code 2 = .ok (.invokestatic 343, 3) := by decide +kernel
theorem d24_5 : decode jdk_65_method_133_code 5 = .ok (.iload_n 2, 1) := by decide +kernel
theorem d24_6 : decode jdk_65_method_133_code 6 = .ok (.iload_n 1, 1) := by decide +kernel
theorem d24_7 : decode jdk_65_method_133_code 7 = .ok (.isub, 1) := by decide +kernel
theorem d24_8 : decode jdk_65_method_133_code 8 = .ok (.istore_n 3, 1) := by decide +kernel
theorem d24_9 : decode jdk_65_method_133_code 9 = .ok (.iload_n 3, 1) := by decide +kernel
theorem d24_10 : decode jdk_65_method_133_code 10 = .ok (.newarray .byte, 2) := by decide +kernel
theorem d24_12 : decode jdk_65_method_133_code 12 = .ok (.astore 4, 2) := by decide +kernel
theorem d24_14 : decode jdk_65_method_133_code 14 = .ok (.aload_n 0, 1) := by decide +kernel
theorem d24_15 : decode jdk_65_method_133_code 15 = .ok (.iload_n 1, 1) := by decide +kernel
theorem d24_16 : decode jdk_65_method_133_code 16 = .ok (.aload 4, 2) := by decide +kernel
theorem d24_18 : decode jdk_65_method_133_code 18 = .ok (.iconst 0, 1) := by decide +kernel
theorem d24_19 : decode jdk_65_method_133_code 19 = .ok (.aload_n 0, 1) := by decide +kernel
theorem d24_20 : decode jdk_65_method_133_code 20 = .ok (.arraylength, 1) := by decide +kernel
theorem d24_21 : decode jdk_65_method_133_code 21 = .ok (.iload_n 1, 1) := by decide +kernel
theorem d24_22 : decode jdk_65_method_133_code 22 = .ok (.isub, 1) := by decide +kernel
theorem d24_23 : decode jdk_65_method_133_code 23 = .ok (.iload_n 3, 1) := by decide +kernel
theorem d24_24 : decode jdk_65_method_133_code 24 = .ok (.invokestatic 304, 3) := by decide +kernel
theorem pd28 : parseMethodDescriptor "(II)I" = some ⟨[.int, .int], some .int⟩ := by decide +kernel
theorem d24_27 : decode jdk_65_method_133_code 27 = .ok (.invokestatic 150, 3) := by decide +kernel
theorem d24_30 : decode jdk_65_method_133_code 30 = .ok (.aload 4, 2) := by decide +kernel
theorem d24_32 : decode jdk_65_method_133_code 32 = .ok (.areturn, 1) := by decide +kernel
set_option maxRecDepth 65536 in
set_option maxHeartbeats 40000000 in
theorem rm24 (l : Launch) (Z : State) (a0 : Array Value) (hw : ∀ d ∈ tables_1, d.before a0 Z = true) (ws : List Jvm.Cond) (v1 : Addr) (kv : ClassId) (bs : List Int32) (nn : Nat) (ms : List Addr) (h0 : Heap) (n0 : Nat) (O0 : Old Z n0 h0) (nb : Nat) (hb0 : n0 ≤ nb) (hnb : nb ≤ h0.size) (W1 : Arv Z h0 v1 kv .byte (Int32.ofNat nn) (bs.map Value.int) (.int 0)) (hc : nn ≤ 32) (hj : bs.length < nn) :
    Con l Z ms (⟨"java/util/Arrays", "copyOfRangeByte", "([BII)[B"⟩ : MethodName) jdk_65_method_133_code 5 (some (.array .byte)) ws ({ frames := 1, cells := 1, slots := 32, locals := 40 } : Room) #[(.ref v1), (.int (0 : Int32)), (.int (Int32.ofNat bs.length))] h0 (fun v vm h L => ∃ r k, v = some (.ref r) ∧ Fr nb L ∧ Ext h0 h ∧ h0.size ≤ r ∧ Arv Z h r k .byte (Int32.ofNat bs.length) (bs.map Value.int) (.int 0)) := by
  refine Con.mk (plainFor_of_name pn6) ?_
  intro p e s m below meth c s₁ Cc X0 e0 eb J0 B0 M0
  obtain ⟨hx, hZ, hown, hby, hml, hnm, hret, hlk⟩ := id Cc
  have N0 := Fr.nil h0.size
  have K0 := Keep.refl h0 []
  show Go p e s below _ _ _ _ s₁ (mkF m 0 #[.val (.ref v1), .val (.int (0 : Int32)), .val (.int (Int32.ofNat bs.length)), .unset, .unset] [])
  refine Go.of (fun _ hr => XS.iloadN X0.here hx rfl (hb hby d24_0) rfl  hr) ?_
  show Go p e s below _ _ _ _ s₁ (mkF m 1 #[.val (.ref v1), .val (.int (0 : Int32)), .val (.int (Int32.ofNat bs.length)), .unset, .unset] [(.int (0 : Int32))])
  refine Go.of (fun _ hr => XS.iloadN X0.here hx rfl (hb hby d24_1) rfl  hr) ?_
  show Go p e s below _ _ _ _ s₁ (mkF m 2 #[.val (.ref v1), .val (.int (0 : Int32)), .val (.int (Int32.ofNat bs.length)), .unset, .unset] [(.int (Int32.ofNat bs.length)), (.int (0 : Int32))])
  obtain ⟨_, b101, T101, h101, L101, e101, Cc101, X101, B101, J101, g101, hQ101, st101⟩ := own_callS Cc B0 J0 X0 (hw _ (List.mem_of_getElem? (i := 147) rfl)) (hw _ (List.mem_of_getElem? (i := 148) rfl)) (hw _ (List.mem_of_getElem? (i := 142) rfl)) (hw _ (List.mem_of_getElem? (i := 149) rfl)) (by decide) (rm25 l Z a0 hw [] bs.length _ h0 n0 O0 h0.size (own_ole O0) K0.1 (by omega)) e0 (g := (mkF m 2 #[.val (.ref v1), .val (.int (0 : Int32)), .val (.int (Int32.ofNat bs.length)), .unset, .unset] [(.int (Int32.ofNat bs.length)), (.int (0 : Int32))])) rfl (by rw [hml]; rfl) (argsL := [(.int (0 : Int32)), (.int (Int32.ofNat bs.length))]) (rest := []) (lenOf pd10 rfl) rfl (W := 0) (by show 2 * 0 + _ ≤ _; exact Nat.le_of_eq rfl) (hb hby d24_2) (by decide) (by decide) (by decide) (by decide)
  obtain ⟨rfl, Nq101, hh101⟩ := hQ101
  have N101 := Fr.app N0 Nq101
  obtain ⟨hx, hZ, hown, hby, hml, hnm, hret, hlk⟩ := id Cc101
  rw [hh101] at e101 B101 J101
  refine Go.of st101 ?_
  show Go p e s below _ _ _ _ T101 (mkF m 5 #[.val (.ref v1), .val (.int (0 : Int32)), .val (.int (Int32.ofNat bs.length)), .unset, .unset] [])
  refine Go.of (fun _ hr => XS.iloadN X101.here hx rfl (hb hby d24_5) rfl  hr) ?_
  show Go p e s below _ _ _ _ T101 (mkF m 6 #[.val (.ref v1), .val (.int (0 : Int32)), .val (.int (Int32.ofNat bs.length)), .unset, .unset] [(.int (Int32.ofNat bs.length))])
  refine Go.of (fun _ hr => XS.iloadN X101.here hx rfl (hb hby d24_6) rfl  hr) ?_
  show Go p e s below _ _ _ _ T101 (mkF m 7 #[.val (.ref v1), .val (.int (0 : Int32)), .val (.int (Int32.ofNat bs.length)), .unset, .unset] [(.int (0 : Int32)), (.int (Int32.ofNat bs.length))])
  refine Go.of (fun _ hr => XS.isub X101.here hx rfl (hb hby d24_7) rfl hr) ?_
  show Go p e s below _ _ _ _ T101 (mkF m 8 #[.val (.ref v1), .val (.int (0 : Int32)), .val (.int (Int32.ofNat bs.length)), .unset, .unset] [(.int ((Int32.ofNat bs.length) - (0 : Int32)))])
  rw [Int32.sub_zero]
  show Go p e s below _ _ _ _ T101 (mkF m 8 #[.val (.ref v1), .val (.int (0 : Int32)), .val (.int (Int32.ofNat bs.length)), .unset, .unset] [(.int (Int32.ofNat bs.length))])
  refine Go.of (fun _ hr => XS.istoreN X101.here hx rfl (hb hby d24_8) rfl (l' := #[.val (.ref v1), .val (.int (0 : Int32)), .val (.int (Int32.ofNat bs.length)), .val (.int (Int32.ofNat bs.length)), .unset]) rfl hr) ?_
  show Go p e s below _ _ _ _ T101 (mkF m 9 #[.val (.ref v1), .val (.int (0 : Int32)), .val (.int (Int32.ofNat bs.length)), .val (.int (Int32.ofNat bs.length)), .unset] [])
  refine Go.of (fun _ hr => XS.iloadN X101.here hx rfl (hb hby d24_9) rfl  hr) ?_
  show Go p e s below _ _ _ _ T101 (mkF m 10 #[.val (.ref v1), .val (.int (0 : Int32)), .val (.int (Int32.ofNat bs.length)), .val (.int (Int32.ofNat bs.length)), .unset] [(.int (Int32.ofNat bs.length))])
  obtain ⟨T102, h102, k102, X102, e102, E102, A102, st102⟩ := newP X101 hx hZ (hw _ (List.mem_of_getElem? (i := 9) rfl)) e101 (g := (mkF m 10 #[.val (.ref v1), .val (.int (0 : Int32)), .val (.int (Int32.ofNat bs.length)), .val (.int (Int32.ofNat bs.length)), .unset] [(.int (Int32.ofNat bs.length))])) rfl (hb hby d24_10) rfl (oi_nn (by omega)) (cap := 32) (by rw [oi_nat (by omega)]; omega) (by decide) (by decide) (by decide)
  obtain ⟨o102, g102⟩ : ∃ z, z = h0.size := ⟨_, rfl⟩
  rw [← g102] at A102 st102
  have ne_v1_o102 : v1 ≠ o102 := Nat.ne_of_lt (Nat.lt_of_lt_of_le W1.lt (Nat.le_of_eq g102.symm))
  have V102 := Arv.new A102 (oi_nn (by omega))
  have lt102 : o102 < h102.size := A102.lt
  have J102 := J101.add E102 g102 lt102
  have B102 := B101.mono E102.1
  have O102 := O0.ext E102
  have sz102 : h0.size ≤ o102 := Nat.le_trans K0.1 (Nat.le_of_eq g102.symm)
  have fr102 : h0.size ≤ o102 := sz102
  have K102 := K0.ext E102
  refine Go.of (fun _ hr => st102 _ hr) ?_
  show Go p e s below _ _ _ _ T102 (mkF m 12 #[.val (.ref v1), .val (.int (0 : Int32)), .val (.int (Int32.ofNat bs.length)), .val (.int (Int32.ofNat bs.length)), .unset] [(.ref o102)])
  refine Go.of (fun _ hr => XS.astore X102.here hx rfl (hb hby d24_12) rfl rfl (l' := #[.val (.ref v1), .val (.int (0 : Int32)), .val (.int (Int32.ofNat bs.length)), .val (.int (Int32.ofNat bs.length)), .val (.ref o102)]) rfl hr) ?_
  show Go p e s below _ _ _ _ T102 (mkF m 14 #[.val (.ref v1), .val (.int (0 : Int32)), .val (.int (Int32.ofNat bs.length)), .val (.int (Int32.ofNat bs.length)), .val (.ref o102)] [])
  refine Go.of (fun _ hr => XS.aloadN X102.here hx rfl (hb hby d24_14) rfl rfl hr) ?_
  show Go p e s below _ _ _ _ T102 (mkF m 15 #[.val (.ref v1), .val (.int (0 : Int32)), .val (.int (Int32.ofNat bs.length)), .val (.int (Int32.ofNat bs.length)), .val (.ref o102)] [(.ref v1)])
  refine Go.of (fun _ hr => XS.iloadN X102.here hx rfl (hb hby d24_15) rfl  hr) ?_
  show Go p e s below _ _ _ _ T102 (mkF m 16 #[.val (.ref v1), .val (.int (0 : Int32)), .val (.int (Int32.ofNat bs.length)), .val (.int (Int32.ofNat bs.length)), .val (.ref o102)] [(.int (0 : Int32)), (.ref v1)])
  refine Go.of (fun _ hr => XS.aload X102.here hx rfl (hb hby d24_16) rfl rfl hr) ?_
  show Go p e s below _ _ _ _ T102 (mkF m 18 #[.val (.ref v1), .val (.int (0 : Int32)), .val (.int (Int32.ofNat bs.length)), .val (.int (Int32.ofNat bs.length)), .val (.ref o102)] [(.ref o102), (.int (0 : Int32)), (.ref v1)])
  refine Go.of (fun _ hr => XS.iconst X102.here hx rfl (hb hby d24_18) hr) ?_
  show Go p e s below _ _ _ _ T102 (mkF m 19 #[.val (.ref v1), .val (.int (0 : Int32)), .val (.int (Int32.ofNat bs.length)), .val (.int (Int32.ofNat bs.length)), .val (.ref o102)] [(.int (0 : Int32)), (.ref o102), (.int (0 : Int32)), (.ref v1)])
  refine Go.of (fun _ hr => XS.aloadN X102.here hx rfl (hb hby d24_19) rfl rfl hr) ?_
  show Go p e s below _ _ _ _ T102 (mkF m 20 #[.val (.ref v1), .val (.int (0 : Int32)), .val (.int (Int32.ofNat bs.length)), .val (.int (Int32.ofNat bs.length)), .val (.ref o102)] [(.ref v1), (.int (0 : Int32)), (.ref o102), (.int (0 : Int32)), (.ref v1)])
  have f104 := (W1.ext E102)
  obtain ⟨cl103, Ar103, q103, S103, N103_, H103, G103⟩ := id f104
  refine Go.of (fun _ hr => X102.arraylength hx (by rw [e102]; exact Ar103.1) (State.isArrayOf_alike hZ.alike Ar103.2.1) (g := (mkF m 20 #[.val (.ref v1), .val (.int (0 : Int32)), .val (.int (Int32.ofNat bs.length)), .val (.int (Int32.ofNat bs.length)), .val (.ref o102)] [(.ref v1), (.int (0 : Int32)), (.ref o102), (.int (0 : Int32)), (.ref v1)])) rfl rfl (hb hby d24_20) _ hr) ?_
  rw [len_of S103 N103_]
  show Go p e s below _ _ _ _ T102 (mkF m 21 #[.val (.ref v1), .val (.int (0 : Int32)), .val (.int (Int32.ofNat bs.length)), .val (.int (Int32.ofNat bs.length)), .val (.ref o102)] [(.int (Int32.ofNat nn)), (.int (0 : Int32)), (.ref o102), (.int (0 : Int32)), (.ref v1)])
  refine Go.of (fun _ hr => XS.iloadN X102.here hx rfl (hb hby d24_21) rfl  hr) ?_
  show Go p e s below _ _ _ _ T102 (mkF m 22 #[.val (.ref v1), .val (.int (0 : Int32)), .val (.int (Int32.ofNat bs.length)), .val (.int (Int32.ofNat bs.length)), .val (.ref o102)] [(.int (0 : Int32)), (.int (Int32.ofNat nn)), (.int (0 : Int32)), (.ref o102), (.int (0 : Int32)), (.ref v1)])
  refine Go.of (fun _ hr => XS.isub X102.here hx rfl (hb hby d24_22) rfl hr) ?_
  show Go p e s below _ _ _ _ T102 (mkF m 23 #[.val (.ref v1), .val (.int (0 : Int32)), .val (.int (Int32.ofNat bs.length)), .val (.int (Int32.ofNat bs.length)), .val (.ref o102)] [(.int ((Int32.ofNat nn) - (0 : Int32))), (.int (0 : Int32)), (.ref o102), (.int (0 : Int32)), (.ref v1)])
  rw [Int32.sub_zero]
  show Go p e s below _ _ _ _ T102 (mkF m 23 #[.val (.ref v1), .val (.int (0 : Int32)), .val (.int (Int32.ofNat bs.length)), .val (.int (Int32.ofNat bs.length)), .val (.ref o102)] [(.int (Int32.ofNat nn)), (.int (0 : Int32)), (.ref o102), (.int (0 : Int32)), (.ref v1)])
  refine Go.of (fun _ hr => XS.iloadN X102.here hx rfl (hb hby d24_23) rfl  hr) ?_
  show Go p e s below _ _ _ _ T102 (mkF m 24 #[.val (.ref v1), .val (.int (0 : Int32)), .val (.int (Int32.ofNat bs.length)), .val (.int (Int32.ofNat bs.length)), .val (.ref o102)] [(.int (Int32.ofNat bs.length)), (.int (Int32.ofNat nn)), (.int (0 : Int32)), (.ref o102), (.int (0 : Int32)), (.ref v1)])
  obtain ⟨_, b105, T105, h105, L105, e105, Cc105, X105, B105, J105, g105, hQ105, st105⟩ := own_callS Cc101 B102 J102 X102 (hw _ (List.mem_of_getElem? (i := 150) rfl)) (hw _ (List.mem_of_getElem? (i := 151) rfl)) (hw _ (List.mem_of_getElem? (i := 152) rfl)) (hw _ (List.mem_of_getElem? (i := 153) rfl)) (by decide) (rm26 l Z a0 hw [] nn bs.length _ h102 n0 O102 h0.size (own_ole O0) K102.1 (by omega) hj) e102 (g := (mkF m 24 #[.val (.ref v1), .val (.int (0 : Int32)), .val (.int (Int32.ofNat bs.length)), .val (.int (Int32.ofNat bs.length)), .val (.ref o102)] [(.int (Int32.ofNat bs.length)), (.int (Int32.ofNat nn)), (.int (0 : Int32)), (.ref o102), (.int (0 : Int32)), (.ref v1)])) rfl (by rw [hml]; rfl) (argsL := [(.int (Int32.ofNat nn)), (.int (Int32.ofNat bs.length))]) (rest := [(.int (0 : Int32)), (.ref o102), (.int (0 : Int32)), (.ref v1)]) (lenOf pd28 rfl) rfl (W := 4) (by show 2 * 0 + _ ≤ _; exact Nat.le_of_eq rfl) (hb hby d24_24) (by decide) (by decide) (by decide) (by decide)
  obtain ⟨rfl, Nq105, hh105⟩ := hQ105
  have N105 := Fr.app N101 Nq105
  obtain ⟨hx, hZ, hown, hby, hml, hnm, hret, hlk⟩ := id Cc105
  rw [hh105] at e105 B105 J105
  refine Go.of st105 ?_
  show Go p e s below _ _ _ _ T105 (mkF m 27 #[.val (.ref v1), .val (.int (0 : Int32)), .val (.int (Int32.ofNat bs.length)), .val (.int (Int32.ofNat bs.length)), .val (.ref o102)] [(.int (Int32.ofNat bs.length)), (.int (0 : Int32)), (.ref o102), (.int (0 : Int32)), (.ref v1)])
  obtain ⟨T106, h106, L106, X106, e106, N106, Kq106, V106, st106⟩ := cpA X105 hx hZ hown (hw _ (List.mem_of_getElem? (i := 154) rfl)) (hw _ (List.mem_of_getElem? (i := 107) rfl)) (hw _ (List.mem_of_getElem? (i := 105) rfl)) (hw _ (List.mem_of_getElem? (i := 106) rfl)) e105 f104 (V102.pad (pad_rep _ _ bs.length)) (us := bs.map Value.int) (Or.inl ⟨rfl, rfl⟩) (by decide) (by decide) (oi_nn (by omega)) (cp4 (by omega) (by rw [oi_nat (by omega)]; omega)) (cp4 (by omega) (by rw [oi_nat (by omega)]; exact Nat.le_refl _)) (cpu bs (by omega)) (cpl [] bs (by decide) (by omega)) N105 fr102 (g := (mkF m 27 #[.val (.ref v1), .val (.int (0 : Int32)), .val (.int (Int32.ofNat bs.length)), .val (.int (Int32.ofNat bs.length)), .val (.ref o102)] [(.int (Int32.ofNat bs.length)), (.int (0 : Int32)), (.ref o102), (.int (0 : Int32)), (.ref v1)])) rfl (by rw [hml]; rfl) rfl (hb hby d24_27) (by decide) (W := 0) (by show 2 * 0 + _ ≤ _; exact Nat.le_of_eq rfl) (by decide)
  have K106 := K102.trans Kq106 (allS (Or.inr sz102) all0)
  have O106 := O102.keep Kq106 (allS (Nat.le_trans (own_ole O0) fr102) all0)
  have B106 := B105.mono Kq106.1
  have J106 := Hd.keep J105 Kq106 (allS (List.mem_cons_self ..) all0)
  have Vc106 : Arv Z h106 o102 k102 .byte (Int32.ofNat bs.length) (bs.map Value.int) (.int (0 : Int32)) := by have q := V106; exact cp_res [] bs (by decide) (by omega) ▸ q
  refine Go.of (fun _ hr => st106 _ hr) ?_
  show Go p e s below _ _ _ _ T106 (mkF m 30 #[.val (.ref v1), .val (.int (0 : Int32)), .val (.int (Int32.ofNat bs.length)), .val (.int (Int32.ofNat bs.length)), .val (.ref o102)] [])
  refine Go.of (fun _ hr => XS.aload X106.here hx rfl (hb hby d24_30) rfl rfl hr) ?_
  show Go p e s below _ _ _ _ T106 (mkF m 32 #[.val (.ref v1), .val (.int (0 : Int32)), .val (.int (Int32.ofNat bs.length)), .val (.int (Int32.ofNat bs.length)), .val (.ref o102)] [(.ref o102)])
  exact Go.retA X106 hx hlk B106 (J106.sub fun x hx => (List.mem_cons_of_mem _ hx)) e106 hret rfl rfl (hb hby d24_32) (by decide) (by decide) (fun vm_ hw_ => ⟨_, _, rfl, (fun y hy => Nat.le_trans hnb (N106 y hy)), keep_ext K106, sz102, Vc106⟩)

theorem d23_0 : decode jdk_65_method_132_code 0 = .ok (.iload_n 1, 1) := by decide +kernel
theorem d23_1 : decode jdk_65_method_132_code 1 = .ok (.ifCond .ne 9, 3) := by decide +kernel
theorem d23_4 : decode jdk_65_method_132_code 4 = .ok (.iload_n 2, 1) := by decide +kernel
theorem d23_5 : decode jdk_65_method_132_code 5 = .ok (.aload_n 0, 1) := by decide +kernel
theorem d23_6 : decode jdk_65_method_132_code 6 = .ok (.arraylength, 1) := by decide +kernel
theorem d23_7 : decode jdk_65_method_132_code 7 = .ok (.if_icmp .eq 10, 3) := by decide +kernel
theorem d23_10 : decode jdk_65_method_132_code 10 = .ok (.aload_n 0, 1) := by decide +kernel
theorem d23_11 : decode jdk_65_method_132_code 11 = .ok (.iload_n 1, 1) := by decide +kernel
theorem d23_12 : decode jdk_65_method_132_code 12 = .ok (.iload_n 2, 1) := by decide +kernel
theorem d23_13 : decode jdk_65_method_132_code 13 = .ok (.invokestatic 339, 3) := by decide +kernel
theorem pd29 : parseMethodDescriptor "([BII)[B" = some ⟨[(.array .byte), .int, .int], some (.array .byte)⟩ := by decide +kernel
theorem d23_16 : decode jdk_65_method_132_code 16 = .ok (.areturn, 1) := by decide +kernel
set_option maxRecDepth 65536 in
set_option maxHeartbeats 40000000 in
theorem rm23 (l : Launch) (Z : State) (a0 : Array Value) (hw : ∀ d ∈ tables_1, d.before a0 Z = true) (ws : List Jvm.Cond) (v1 : Addr) (kv : ClassId) (bs : List Int32) (nn : Nat) (ms : List Addr) (h0 : Heap) (n0 : Nat) (O0 : Old Z n0 h0) (nb : Nat) (hb0 : n0 ≤ nb) (hnb : nb ≤ h0.size) (W1 : Arv Z h0 v1 kv .byte (Int32.ofNat nn) (bs.map Value.int) (.int 0)) (hc : nn ≤ 32) (hj : bs.length < nn) :
    Con l Z ms (⟨"java/util/Arrays", "copyOfRange", "([BII)[B"⟩ : MethodName) jdk_65_method_132_code 3 (some (.array .byte)) ws ({ frames := 2, cells := 1, slots := 32, locals := 56 } : Room) #[(.ref v1), (.int (0 : Int32)), (.int (Int32.ofNat bs.length))] h0 (fun v vm h L => ∃ r k, v = some (.ref r) ∧ Fr nb L ∧ Ext h0 h ∧ h0.size ≤ r ∧ Arv Z h r k .byte (Int32.ofNat bs.length) (bs.map Value.int) (.int 0)) := by
  refine Con.mk (plainFor_of_name pn6) ?_
  intro p e s m below meth c s₁ Cc X0 e0 eb J0 B0 M0
  obtain ⟨hx, hZ, hown, hby, hml, hnm, hret, hlk⟩ := id Cc
  have N0 := Fr.nil h0.size
  have K0 := Keep.refl h0 []
  show Go p e s below _ _ _ _ s₁ (mkF m 0 #[.val (.ref v1), .val (.int (0 : Int32)), .val (.int (Int32.ofNat bs.length))] [])
  refine Go.of (fun _ hr => XS.iloadN X0.here hx rfl (hb hby d23_0) rfl  hr) ?_
  show Go p e s below _ _ _ _ s₁ (mkF m 1 #[.val (.ref v1), .val (.int (0 : Int32)), .val (.int (Int32.ofNat bs.length))] [(.int (0 : Int32))])
  refine Go.of (fun _ hr => XS.ifNo X0.here hx rfl (hb hby d23_1) rfl ((if0 _ _).trans (teq (by decide : ((0 : Int32) = (0 : Int32)))).2) hr) ?_
  show Go p e s below _ _ _ _ s₁ (mkF m 4 #[.val (.ref v1), .val (.int (0 : Int32)), .val (.int (Int32.ofNat bs.length))] [])
  refine Go.of (fun _ hr => XS.iloadN X0.here hx rfl (hb hby d23_4) rfl  hr) ?_
  show Go p e s below _ _ _ _ s₁ (mkF m 5 #[.val (.ref v1), .val (.int (0 : Int32)), .val (.int (Int32.ofNat bs.length))] [(.int (Int32.ofNat bs.length))])
  refine Go.of (fun _ hr => XS.aloadN X0.here hx rfl (hb hby d23_5) rfl rfl hr) ?_
  show Go p e s below _ _ _ _ s₁ (mkF m 6 #[.val (.ref v1), .val (.int (0 : Int32)), .val (.int (Int32.ofNat bs.length))] [(.ref v1), (.int (Int32.ofNat bs.length))])
  obtain ⟨cl101, Ar101, q101, S101, N101_, H101, G101⟩ := id W1
  refine Go.of (fun _ hr => X0.arraylength hx (by rw [e0]; exact Ar101.1) (State.isArrayOf_alike hZ.alike Ar101.2.1) (g := (mkF m 6 #[.val (.ref v1), .val (.int (0 : Int32)), .val (.int (Int32.ofNat bs.length))] [(.ref v1), (.int (Int32.ofNat bs.length))])) rfl rfl (hb hby d23_6) _ hr) ?_
  rw [len_of S101 N101_]
  show Go p e s below _ _ _ _ s₁ (mkF m 7 #[.val (.ref v1), .val (.int (0 : Int32)), .val (.int (Int32.ofNat bs.length))] [(.int (Int32.ofNat nn)), (.int (Int32.ofNat bs.length))])
  refine Go.of (fun _ hr => XS.icmpNo X0.here hx rfl (hb hby d23_7) rfl (feq (fun q => absurd (oi_inj (by omega) (by omega) q) (by omega))).1 hr) ?_
  show Go p e s below _ _ _ _ s₁ (mkF m 10 #[.val (.ref v1), .val (.int (0 : Int32)), .val (.int (Int32.ofNat bs.length))] [])
  refine Go.of (fun _ hr => XS.aloadN X0.here hx rfl (hb hby d23_10) rfl rfl hr) ?_
  show Go p e s below _ _ _ _ s₁ (mkF m 11 #[.val (.ref v1), .val (.int (0 : Int32)), .val (.int (Int32.ofNat bs.length))] [(.ref v1)])
  refine Go.of (fun _ hr => XS.iloadN X0.here hx rfl (hb hby d23_11) rfl  hr) ?_
  show Go p e s below _ _ _ _ s₁ (mkF m 12 #[.val (.ref v1), .val (.int (0 : Int32)), .val (.int (Int32.ofNat bs.length))] [(.int (0 : Int32)), (.ref v1)])
  refine Go.of (fun _ hr => XS.iloadN X0.here hx rfl (hb hby d23_12) rfl  hr) ?_
  show Go p e s below _ _ _ _ s₁ (mkF m 13 #[.val (.ref v1), .val (.int (0 : Int32)), .val (.int (Int32.ofNat bs.length))] [(.int (Int32.ofNat bs.length)), (.int (0 : Int32)), (.ref v1)])
  obtain ⟨_, b102, T102, h102, L102, e102, Cc102, X102, B102, J102, g102, hQ102, st102⟩ := own_callS Cc B0 J0 X0 (hw _ (List.mem_of_getElem? (i := 144) rfl)) (hw _ (List.mem_of_getElem? (i := 145) rfl)) (hw _ (List.mem_of_getElem? (i := 142) rfl)) (hw _ (List.mem_of_getElem? (i := 146) rfl)) (by decide) (rm24 l Z a0 hw [] v1 _ bs nn _ h0 n0 O0 h0.size (own_ole O0) K0.1 W1 hc hj) e0 (g := (mkF m 13 #[.val (.ref v1), .val (.int (0 : Int32)), .val (.int (Int32.ofNat bs.length))] [(.int (Int32.ofNat bs.length)), (.int (0 : Int32)), (.ref v1)])) rfl (by rw [hml]; rfl) (argsL := [(.ref v1), (.int (0 : Int32)), (.int (Int32.ofNat bs.length))]) (rest := []) (lenOf pd29 rfl) rfl (W := 0) (by show 2 * 0 + _ ≤ _; exact Nat.le_of_eq rfl) (hb hby d23_13) (by decide) (by decide) (by decide) (by decide)
  obtain ⟨r102, kr102, rfl, Nq102, Eq102, R_r102, Vr102⟩ := hQ102
  have N102 := Fr.app N0 Nq102
  obtain ⟨hx, hZ, hown, hby, hml, hnm, hret, hlk⟩ := id Cc102
  have sz_r102 : h0.size ≤ r102 := Nat.le_trans K0.1 R_r102
  have fr_r102 : h0.size ≤ r102 := sz_r102
  have ne_v1_r102 : v1 ≠ r102 := Nat.ne_of_lt (Nat.lt_of_lt_of_le W1.lt R_r102)
  have K102 := K0.ext Eq102
  have O102 := O0.ext Eq102
  refine Go.of st102 ?_
  show Go p e s below _ _ _ _ T102 (mkF m 16 #[.val (.ref v1), .val (.int (0 : Int32)), .val (.int (Int32.ofNat bs.length))] [(.ref r102)])
  exact Go.retA X102 hx hlk B102 J102 e102 hret rfl rfl (hb hby d23_16) (by decide) (by decide) (fun vm_ hw_ => ⟨_, _, rfl, (fun y hy => Nat.le_trans hnb (N102 y hy)), keep_ext K102, sz_r102, Vr102⟩)

theorem d18_0 : decode jdk_42_method_150_code 0 = .ok (.aload_n 0, 1) := by decide +kernel
theorem d18_1 : decode jdk_42_method_150_code 1 = .ok (.invokespecial 1, 3) := by decide +kernel
theorem d18_4 : decode jdk_42_method_150_code 4 = .ok (.aload_n 1, 1) := by decide +kernel
theorem d18_5 : decode jdk_42_method_150_code 5 = .ok (.invokevirtual 552, 3) := by decide +kernel
theorem pd30 : parseMethodDescriptor "()[B" = some ⟨[], some (.array .byte)⟩ := by decide +kernel
theorem d18_8 : decode jdk_42_method_150_code 8 = .ok (.astore_n 3, 1) := by decide +kernel
theorem d18_9 : decode jdk_42_method_150_code 9 = .ok (.aload_n 1, 1) := by decide +kernel
theorem d18_10 : decode jdk_42_method_150_code 10 = .ok (.invokevirtual 549, 3) := by decide +kernel
theorem d18_13 : decode jdk_42_method_150_code 13 = .ok (.istore 4, 2) := by decide +kernel
theorem d18_15 : decode jdk_42_method_150_code 15 = .ok (.aload_n 1, 1) := by decide +kernel
theorem d18_16 : decode jdk_42_method_150_code 16 = .ok (.invokevirtual 1047, 3) := by decide +kernel
theorem d18_19 : decode jdk_42_method_150_code 19 = .ok (.ifCond .eq 22, 3) := by decide +kernel
theorem d18_22 : decode jdk_42_method_150_code 22 = .ok (.aload_n 0, 1) := by decide +kernel
theorem d18_23 : decode jdk_42_method_150_code 23 = .ok (.iconst 0, 1) := by decide +kernel
theorem d18_24 : decode jdk_42_method_150_code 24 = .ok (.putfield 15, 3) := by decide +kernel
theorem d18_27 : decode jdk_42_method_150_code 27 = .ok (.aload_n 0, 1) := by decide +kernel
theorem d18_28 : decode jdk_42_method_150_code 28 = .ok (.aload_n 3, 1) := by decide +kernel
theorem d18_29 : decode jdk_42_method_150_code 29 = .ok (.iconst 0, 1) := by decide +kernel
theorem d18_30 : decode jdk_42_method_150_code 30 = .ok (.iload 4, 2) := by decide +kernel
theorem d18_32 : decode jdk_42_method_150_code 32 = .ok (.invokestatic 54, 3) := by decide +kernel
theorem d18_35 : decode jdk_42_method_150_code 35 = .ok (.putfield 9, 3) := by decide +kernel
theorem d18_38 : decode jdk_42_method_150_code 38 = .ok (.goto 59, 3) := by decide +kernel
theorem d18_97 : decode jdk_42_method_150_code 97 = .ok (.return_, 1) := by decide +kernel
theorem d18_41 : decode jdk_42_method_150_code 41 = .ok (.getstatic 38, 3) := by decide +kernel
theorem d18_44 : decode jdk_42_method_150_code 44 = .ok (.ifCond .eq 35, 3) := by decide +kernel
theorem d18_47 : decode jdk_42_method_150_code 47 = .ok (.aload_n 1, 1) := by decide +kernel
theorem d18_48 : decode jdk_42_method_150_code 48 = .ok (.getfield 1048, 3) := by decide +kernel
theorem d18_51 : decode jdk_42_method_150_code 51 = .ok (.ifCond .eq 28, 3) := by decide +kernel
theorem d18_79 : decode jdk_42_method_150_code 79 = .ok (.aload_n 0, 1) := by decide +kernel
theorem d18_80 : decode jdk_42_method_150_code 80 = .ok (.iconst 1, 1) := by decide +kernel
theorem d18_81 : decode jdk_42_method_150_code 81 = .ok (.putfield 15, 3) := by decide +kernel
theorem d18_84 : decode jdk_42_method_150_code 84 = .ok (.aload_n 0, 1) := by decide +kernel
theorem d18_85 : decode jdk_42_method_150_code 85 = .ok (.aload_n 3, 1) := by decide +kernel
theorem d18_86 : decode jdk_42_method_150_code 86 = .ok (.iconst 0, 1) := by decide +kernel
theorem d18_87 : decode jdk_42_method_150_code 87 = .ok (.iload 4, 2) := by decide +kernel
theorem d18_89 : decode jdk_42_method_150_code 89 = .ok (.iconst 1, 1) := by decide +kernel
theorem d18_90 : decode jdk_42_method_150_code 90 = .ok (.ishl, 1) := by decide +kernel
theorem d18_91 : decode jdk_42_method_150_code 91 = .ok (.invokestatic 54, 3) := by decide +kernel
theorem d18_94 : decode jdk_42_method_150_code 94 = .ok (.putfield 9, 3) := by decide +kernel
set_option maxRecDepth 65536 in
set_option maxHeartbeats 40000000 in
theorem rm18 (l : Launch) (Z : State) (a0 : Array Value) (hw : ∀ d ∈ tables_1, d.before a0 Z = true) (ws : List Jvm.Cond) (x1 : Addr) (u1 u2 : Value) (a1 v1 : Addr) (kv : ClassId) (cs : List Int32) (bc : Int32) (bs : List Int32) (nn : Nat) (zc : Int32) (ms : List Addr) (h0 : Heap) (n0 : Nat) (O0 : Old Z n0 h0) (nb : Nat) (hb0 : n0 ≤ nb) (hnb : nb ≤ h0.size) (fr_x1 : nb ≤ x1) (hm_x1 : x1 ∈ ms) (Ea1 : Exa Z h0 a1 "java/lang/StringBuilder") (Gv : Fld Z h0 a1 "java/lang/AbstractStringBuilder" "value" "[B" (.ref v1)) (Gc : Fld Z h0 a1 "java/lang/AbstractStringBuilder" "coder" "B" (.int bc)) (Gn : Fld Z h0 a1 "java/lang/AbstractStringBuilder" "count" "I" (.int (Int32.ofNat cs.length))) (Gm : Fld Z h0 a1 "java/lang/AbstractStringBuilder" "maybeLatin1" "Z" (.int 0)) (W1 : Arv Z h0 v1 kv .byte (Int32.ofNat nn) (bs.map Value.int) (.int 0)) (hbo : BOf cs bc bs nn) (hcl : cs.length ≤ 16) (E1 : Exa Z h0 x1 "java/lang/String") (F1 : Fld Z h0 x1 "java/lang/String" "value" "[B" u1) (F2 : Fld Z h0 x1 "java/lang/String" "coder" "B" u2) (hlt : cs.length < 16) (nex : a1 ≠ x1) (nev : v1 ≠ x1) (S_C : Sta Z Z.heap "java/lang/String" "COMPACT_STRINGS" "Z" (.int zc)) (hzc : ¬ zc = 0) :
    Con l Z ms (⟨"java/lang/String", "<init>", "(Ljava/lang/AbstractStringBuilder;Ljava/lang/Void;)V"⟩ : MethodName) jdk_42_method_150_code 5 none ws ({ frames := 3, cells := 1, slots := 32, locals := 71 } : Room) #[(.ref x1), (.ref a1), .null] h0 (fun v vm h L => v = none ∧ Fr nb L ∧ Keep h0 h [x1] ∧ ∃ t k cd bb, h0.size ≤ t ∧ Fld Z h x1 "java/lang/String" "value" "[B" (.ref t) ∧ Fld Z h x1 "java/lang/String" "coder" "B" (.int cd) ∧ StrOf cs cd bb ∧ Arv Z h t k .byte (Int32.ofNat bb.length) (bb.map Value.int) (.int 0)) := by
  rcases id hbo with ⟨rfl, rfl, rfl, hbl⟩ | ⟨rfl, rfl, rfl⟩
  · refine Con.mk (plainFor_of_name pn1) ?_
    intro p e s m below meth c s₁ Cc X0 e0 eb J0 B0 M0
    obtain ⟨hx, hZ, hown, hby, hml, hnm, hret, hlk⟩ := id Cc
    have N0 := Fr.nil nb
    have K0 := Keep.refl h0 [x1]
    show Go p e s below _ _ _ _ s₁ (mkF m 0 #[.val (.ref x1), .val (.ref a1), .val .null, .unset, .unset] [])
    refine Go.of (fun _ hr => XS.aloadN X0.here hx rfl (hb hby d18_0) rfl rfl hr) ?_
    show Go p e s below _ _ _ _ s₁ (mkF m 1 #[.val (.ref x1), .val (.ref a1), .val .null, .unset, .unset] [(.ref x1)])
    obtain ⟨T101, X101, e101, st101⟩ := initO X0 hx hZ hown (hw _ (List.mem_of_getElem? (i := 121) rfl)) (hw _ (List.mem_of_getElem? (i := 21) rfl)) (hw _ (List.mem_of_getElem? (i := 22) rfl)) e0 (g := (mkF m 1 #[.val (.ref x1), .val (.ref a1), .val .null, .unset, .unset] [(.ref x1)])) rfl (by rw [hml]; rfl) rfl (hb hby d18_1) (by decide) (W := 0) (by show 2 * 0 + _ ≤ _; exact Nat.le_of_eq rfl) (by decide)
    refine Go.of (fun _ hr => st101 _ hr) ?_
    show Go p e s below _ _ _ _ T101 (mkF m 4 #[.val (.ref x1), .val (.ref a1), .val .null, .unset, .unset] [])
    refine Go.of (fun _ hr => XS.aloadN X101.here hx rfl (hb hby d18_4) rfl rfl hr) ?_
    show Go p e s below _ _ _ _ T101 (mkF m 5 #[.val (.ref x1), .val (.ref a1), .val .null, .unset, .unset] [(.ref a1)])
    obtain ⟨_, b102, T102, h102, L102, e102, Cc102, X102, B102, J102, g102, hQ102, st102⟩ := own_callV Cc B0 J0 X101 (hw _ (List.mem_of_getElem? (i := 122) rfl)) (hw _ (List.mem_of_getElem? (i := 123) rfl)) (notFace_of_selects (args := #[]) (mvT hZ (hw _ (List.mem_of_getElem? (i := 125) rfl)))) (hw _ (List.mem_of_getElem? (i := 125) rfl)) (hw _ (List.mem_of_getElem? (i := 124) rfl)) (hw _ (List.mem_of_getElem? (i := 50) rfl)) (hw _ (List.mem_of_getElem? (i := 126) rfl)) (by decide) Ea1 (rm19 l Z a0 hw [] a1 v1 _ cs (0 : Int32) (cs.map lo8) 16 _ h0 n0 O0 h0.size (own_ole O0) K0.1 Ea1 Gv Gc Gn Gm W1 hbo hcl) e101 (g := (mkF m 5 #[.val (.ref x1), .val (.ref a1), .val .null, .unset, .unset] [(.ref a1)])) rfl (by rw [hml]; rfl) (argsL := []) (rest := []) (lenOf pd30 rfl) rfl (W := 0) (by show 2 * 0 + _ ≤ _; exact Nat.le_of_eq rfl) (hb hby d18_5) (by decide) (by decide) (by decide) (by decide)
    obtain ⟨rfl, Nq102, hh102⟩ := hQ102
    have N102 := Fr.app N0 (show Fr nb _ from fun y hy => Nat.le_trans hnb (Nq102 y hy))
    have NS102 := Fr.app (Fr.nil _) Nq102
    obtain ⟨hx, hZ, hown, hby, hml, hnm, hret, hlk⟩ := id Cc102
    rw [hh102] at e102 B102 J102
    refine Go.of st102 ?_
    show Go p e s below _ _ _ _ T102 (mkF m 8 #[.val (.ref x1), .val (.ref a1), .val .null, .unset, .unset] [(.ref v1)])
    refine Go.of (fun _ hr => XS.astoreN X102.here hx rfl (hb hby d18_8) rfl rfl (l' := #[.val (.ref x1), .val (.ref a1), .val .null, .val (.ref v1), .unset]) rfl hr) ?_
    show Go p e s below _ _ _ _ T102 (mkF m 9 #[.val (.ref x1), .val (.ref a1), .val .null, .val (.ref v1), .unset] [])
    refine Go.of (fun _ hr => XS.aloadN X102.here hx rfl (hb hby d18_9) rfl rfl hr) ?_
    show Go p e s below _ _ _ _ T102 (mkF m 10 #[.val (.ref x1), .val (.ref a1), .val .null, .val (.ref v1), .unset] [(.ref a1)])
    obtain ⟨_, b103, T103, h103, L103, e103, Cc103, X103, B103, J103, g103, hQ103, st103⟩ := own_callV Cc102 B102 J102 X102 (hw _ (List.mem_of_getElem? (i := 127) rfl)) (hw _ (List.mem_of_getElem? (i := 128) rfl)) (own_nf (args := #[]) (mvT hZ (hw _ (List.mem_of_getElem? (i := 86) rfl))) rfl) (hw _ (List.mem_of_getElem? (i := 130) rfl)) (hw _ (List.mem_of_getElem? (i := 131) rfl)) (hw _ (List.mem_of_getElem? (i := 42) rfl)) (hw _ (List.mem_of_getElem? (i := 132) rfl)) (by decide) Ea1 (rm20 l Z a0 hw [] a1 v1 _ cs (0 : Int32) (cs.map lo8) 16 _ h0 n0 O0 h0.size (own_ole O0) K0.1 Ea1 Gv Gc Gn Gm W1 hbo hcl) e102 (g := (mkF m 10 #[.val (.ref x1), .val (.ref a1), .val .null, .val (.ref v1), .unset] [(.ref a1)])) rfl (by rw [hml]; rfl) (argsL := []) (rest := []) (lenOf pd25 rfl) rfl (W := 0) (by show 2 * 0 + _ ≤ _; exact Nat.le_of_eq rfl) (hb hby d18_10) (by decide) (by decide) (by decide) (by decide)
    obtain ⟨rfl, Nq103, hh103⟩ := hQ103
    have N103 := Fr.app N102 (show Fr nb _ from fun y hy => Nat.le_trans hnb (Nq103 y hy))
    have NS103 := Fr.app NS102 Nq103
    obtain ⟨hx, hZ, hown, hby, hml, hnm, hret, hlk⟩ := id Cc103
    rw [hh103] at e103 B103 J103
    refine Go.of st103 ?_
    show Go p e s below _ _ _ _ T103 (mkF m 13 #[.val (.ref x1), .val (.ref a1), .val .null, .val (.ref v1), .unset] [(.int (Int32.ofNat cs.length))])
    refine Go.of (fun _ hr => XS.istore X103.here hx rfl (hb hby d18_13) rfl (l' := #[.val (.ref x1), .val (.ref a1), .val .null, .val (.ref v1), .val (.int (Int32.ofNat cs.length))]) rfl hr) ?_
    show Go p e s below _ _ _ _ T103 (mkF m 15 #[.val (.ref x1), .val (.ref a1), .val .null, .val (.ref v1), .val (.int (Int32.ofNat cs.length))] [])
    refine Go.of (fun _ hr => XS.aloadN X103.here hx rfl (hb hby d18_15) rfl rfl hr) ?_
    show Go p e s below _ _ _ _ T103 (mkF m 16 #[.val (.ref x1), .val (.ref a1), .val .null, .val (.ref v1), .val (.int (Int32.ofNat cs.length))] [(.ref a1)])
    obtain ⟨_, b104, T104, h104, L104, e104, Cc104, X104, B104, J104, g104, hQ104, st104⟩ := own_callV Cc103 B103 J103 X103 (hw _ (List.mem_of_getElem? (i := 135) rfl)) (hw _ (List.mem_of_getElem? (i := 136) rfl)) (notFace_of_selects (args := #[]) (mvT hZ (hw _ (List.mem_of_getElem? (i := 138) rfl)))) (hw _ (List.mem_of_getElem? (i := 138) rfl)) (hw _ (List.mem_of_getElem? (i := 137) rfl)) (hw _ (List.mem_of_getElem? (i := 50) rfl)) (hw _ (List.mem_of_getElem? (i := 139) rfl)) (by decide) Ea1 (rm22 l Z a0 hw [] a1 zc _ h0 n0 O0 h0.size (own_ole O0) K0.1 Ea1 Gc S_C hzc) e103 (g := (mkF m 16 #[.val (.ref x1), .val (.ref a1), .val .null, .val (.ref v1), .val (.int (Int32.ofNat cs.length))] [(.ref a1)])) rfl (by rw [hml]; rfl) (argsL := []) (rest := []) (lenOf pd13 rfl) rfl (W := 0) (by show 2 * 0 + _ ≤ _; exact Nat.le_of_eq rfl) (hb hby d18_16) (by decide) (by decide) (by decide) (by decide)
    obtain ⟨rfl, Nq104, hh104⟩ := hQ104
    have N104 := Fr.app N103 (show Fr nb _ from fun y hy => Nat.le_trans hnb (Nq104 y hy))
    have NS104 := Fr.app NS103 Nq104
    obtain ⟨hx, hZ, hown, hby, hml, hnm, hret, hlk⟩ := id Cc104
    rw [hh104] at e104 B104 J104
    refine Go.of st104 ?_
    show Go p e s below _ _ _ _ T104 (mkF m 19 #[.val (.ref x1), .val (.ref a1), .val .null, .val (.ref v1), .val (.int (Int32.ofNat cs.length))] [(.int (1 : Int32))])
    refine Go.of (fun _ hr => XS.ifNo X104.here hx rfl (hb hby d18_19) rfl ((if0 _ _).trans (feq (by decide : ¬ ((1 : Int32) = (0 : Int32)))).1) hr) ?_
    show Go p e s below _ _ _ _ T104 (mkF m 22 #[.val (.ref x1), .val (.ref a1), .val .null, .val (.ref v1), .val (.int (Int32.ofNat cs.length))] [])
    refine Go.of (fun _ hr => XS.aloadN X104.here hx rfl (hb hby d18_22) rfl rfl hr) ?_
    show Go p e s below _ _ _ _ T104 (mkF m 23 #[.val (.ref x1), .val (.ref a1), .val .null, .val (.ref v1), .val (.int (Int32.ofNat cs.length))] [(.ref x1)])
    refine Go.of (fun _ hr => XS.iconst X104.here hx rfl (hb hby d18_23) hr) ?_
    show Go p e s below _ _ _ _ T104 (mkF m 24 #[.val (.ref x1), .val (.ref a1), .val .null, .val (.ref v1), .val (.int (Int32.ofNat cs.length))] [(.int (0 : Int32)), (.ref x1)])
    obtain ⟨T105, h105, X105, e105, W105, st105⟩ := putFN X104 hx hZ hown (hw _ (List.mem_of_getElem? (i := 80) rfl)) Via.refl e104 F2 E1 (Or.inr ⟨(hw _ (List.mem_of_getElem? (i := 11) rfl)), rfl, hnm⟩) (hw _ (List.mem_of_getElem? (i := 8) rfl)) (ty := .byte) (v := (.int (0 : Int32))) (v' := (.int (0 : Int32))) (by decide) rfl rfl (g := (mkF m 24 #[.val (.ref x1), .val (.ref a1), .val .null, .val (.ref v1), .val (.int (Int32.ofNat cs.length))] [(.int (0 : Int32)), (.ref x1)])) rfl rfl (hb hby d18_24)
    have N105 := Fr.snoc X105 N104 fr_x1
    have J105 := J104.wr W105 hm_x1
    have B105 := B104.mono (Nat.le_of_eq W105.size.symm)
    have O105 := O0.wr W105 (Nat.le_trans hb0 fr_x1)
    have K105 := K0.wr W105 (Or.inl (List.mem_of_getElem? (i := 0) rfl))
    have Fw105 := F2.same W105
    refine Go.of (fun _ hr => st105 _ hr) ?_
    show Go p e s below _ _ _ _ T105 (mkF m 27 #[.val (.ref x1), .val (.ref a1), .val .null, .val (.ref v1), .val (.int (Int32.ofNat cs.length))] [])
    refine Go.of (fun _ hr => XS.aloadN X105.here hx rfl (hb hby d18_27) rfl rfl hr) ?_
    show Go p e s below _ _ _ _ T105 (mkF m 28 #[.val (.ref x1), .val (.ref a1), .val .null, .val (.ref v1), .val (.int (Int32.ofNat cs.length))] [(.ref x1)])
    refine Go.of (fun _ hr => XS.aloadN X105.here hx rfl (hb hby d18_28) rfl rfl hr) ?_
    show Go p e s below _ _ _ _ T105 (mkF m 29 #[.val (.ref x1), .val (.ref a1), .val .null, .val (.ref v1), .val (.int (Int32.ofNat cs.length))] [(.ref v1), (.ref x1)])
    refine Go.of (fun _ hr => XS.iconst X105.here hx rfl (hb hby d18_29) hr) ?_
    show Go p e s below _ _ _ _ T105 (mkF m 30 #[.val (.ref x1), .val (.ref a1), .val .null, .val (.ref v1), .val (.int (Int32.ofNat cs.length))] [(.int (0 : Int32)), (.ref v1), (.ref x1)])
    refine Go.of (fun _ hr => XS.iload X105.here hx rfl (hb hby d18_30) rfl  hr) ?_
    show Go p e s below _ _ _ _ T105 (mkF m 32 #[.val (.ref x1), .val (.ref a1), .val .null, .val (.ref v1), .val (.int (Int32.ofNat cs.length))] [(.int (Int32.ofNat cs.length)), (.int (0 : Int32)), (.ref v1), (.ref x1)])
    rw [show Int32.ofNat cs.length = Int32.ofNat (cs.map lo8).length from by rw [List.length_map]]
    show Go p e s below _ _ _ _ T105 (mkF m 32 #[.val (.ref x1), .val (.ref a1), .val .null, .val (.ref v1), .val (.int (Int32.ofNat (cs.map lo8).length))] [(.int (Int32.ofNat (cs.map lo8).length)), (.int (0 : Int32)), (.ref v1), (.ref x1)])
    have f107 := (W1.other W105 nev)
    obtain ⟨_, b106, T106, h106, L106, e106, Cc106, X106, B106, J106, g106, hQ106, st106⟩ := own_callS Cc104 B105 J105 X105 (hw _ (List.mem_of_getElem? (i := 140) rfl)) (hw _ (List.mem_of_getElem? (i := 141) rfl)) (hw _ (List.mem_of_getElem? (i := 142) rfl)) (hw _ (List.mem_of_getElem? (i := 143) rfl)) (by decide) (rm23 l Z a0 hw [] v1 _ (cs.map lo8) 16 _ h105 n0 O105 h0.size (own_ole O0) K105.1 f107 (by decide) ((bo_len hbo).2 hlt)) e105 (g := (mkF m 32 #[.val (.ref x1), .val (.ref a1), .val .null, .val (.ref v1), .val (.int (Int32.ofNat (cs.map lo8).length))] [(.int (Int32.ofNat (cs.map lo8).length)), (.int (0 : Int32)), (.ref v1), (.ref x1)])) rfl (by rw [hml]; rfl) (argsL := [(.ref v1), (.int (0 : Int32)), (.int (Int32.ofNat (cs.map lo8).length))]) (rest := [(.ref x1)]) (lenOf pd29 rfl) rfl (W := 1) (by show 2 * 0 + _ ≤ _; exact Nat.le_of_eq rfl) (hb hby d18_32) (by decide) (by decide) (by decide) (by decide)
    have f108 := (Ea1.wr W105)
    have f109 := (E1.wr W105)
    obtain ⟨r106, kr106, rfl, Nq106, Eq106, R_r106, Vr106⟩ := hQ106
    have N106 := Fr.app N105 (show Fr nb _ from fun y hy => Nat.le_trans hnb (Nq106 y hy))
    obtain ⟨hx, hZ, hown, hby, hml, hnm, hret, hlk⟩ := id Cc106
    have sz_r106 : h0.size ≤ r106 := Nat.le_trans K105.1 R_r106
    have fr_r106 : nb ≤ r106 := Nat.le_trans hnb sz_r106
    have ne_a1_r106 : a1 ≠ r106 := Nat.ne_of_lt (Nat.lt_of_lt_of_le f108.lt R_r106)
    have ne_v1_r106 : v1 ≠ r106 := Nat.ne_of_lt (Nat.lt_of_lt_of_le f107.lt R_r106)
    have ne_x1_r106 : x1 ≠ r106 := Nat.ne_of_lt (Nat.lt_of_lt_of_le f109.lt R_r106)
    have K106 := K105.ext Eq106
    have O106 := O105.ext Eq106
    refine Go.of st106 ?_
    show Go p e s below _ _ _ _ T106 (mkF m 35 #[.val (.ref x1), .val (.ref a1), .val .null, .val (.ref v1), .val (.int (Int32.ofNat (cs.map lo8).length))] [(.ref r106), (.ref x1)])
    have f111 := ((F1.other W105 (Or.inr (slot_ne (Or.inr (hw _ (List.mem_of_getElem? (i := 10) rfl))) (Or.inr (hw _ (List.mem_of_getElem? (i := 11) rfl))) (by decide) (t := (.array .byte)) (t' := .byte) (by decide) (by decide)))).ext Eq106)
    have f112 := (f109.ext Eq106)
    obtain ⟨T110, h110, X110, e110, W110, st110⟩ := putF X106 hx hZ hown (host := "") (Or.inl (hw _ (List.mem_of_getElem? (i := 73) rfl))) Via.refl e106 f111 f112 (Or.inr ⟨(hw _ (List.mem_of_getElem? (i := 10) rfl)), rfl, hnm⟩) (hw _ (List.mem_of_getElem? (i := 8) rfl)) (ty := (.array .byte)) (by decide) rfl rfl (g := (mkF m 35 #[.val (.ref x1), .val (.ref a1), .val .null, .val (.ref v1), .val (.int (Int32.ofNat (cs.map lo8).length))] [(.ref r106), (.ref x1)])) rfl rfl (hb hby d18_35)
    have N110 := Fr.snoc X110 N106 fr_x1
    have J110 := J106.wr W110 hm_x1
    have B110 := B106.mono (Nat.le_of_eq W110.size.symm)
    have O110 := O106.wr W110 (Nat.le_trans hb0 fr_x1)
    have K110 := K106.wr W110 (Or.inl (List.mem_of_getElem? (i := 0) rfl))
    have Fw110 := f111.same W110
    refine Go.of (fun _ hr => st110 _ hr) ?_
    show Go p e s below _ _ _ _ T110 (mkF m 38 #[.val (.ref x1), .val (.ref a1), .val .null, .val (.ref v1), .val (.int (Int32.ofNat (cs.map lo8).length))] [])
    refine Go.of (fun _ hr => XS.goto X110.here hx rfl (pc0 := 38) (pc' := 97) rfl (hb hby d18_38) (by decide) (by decide) hr) ?_
    show Go p e s below _ _ _ _ T110 (mkF m 97 #[.val (.ref x1), .val (.ref a1), .val .null, .val (.ref v1), .val (.int (Int32.ofNat (cs.map lo8).length))] [])
    have f113 := ((Fw105.ext Eq106).other W110 (Or.inr (slot_ne (Or.inr (hw _ (List.mem_of_getElem? (i := 11) rfl))) (Or.inr (hw _ (List.mem_of_getElem? (i := 10) rfl))) (by decide) (t := .byte) (t' := (.array .byte)) (by decide) (by decide))))
    have f114 := (Vr106.other W110 (Ne.symm ne_x1_r106))
    exact Go.retV X110 hx hlk B110 J110 e110 hret (hb hby d18_97) (by decide) (by decide) (fun vm_ hw_ => ⟨rfl, N110, K110, _, _, 0, (cs.map lo8), sz_r106, Fw110, f113, Or.inl ⟨rfl, rfl, hbl⟩, f114⟩)
  · refine Con.mk (plainFor_of_name pn1) ?_
    intro p e s m below meth c s₁ Cc X0 e0 eb J0 B0 M0
    obtain ⟨hx, hZ, hown, hby, hml, hnm, hret, hlk⟩ := id Cc
    have N0 := Fr.nil nb
    have K0 := Keep.refl h0 [x1]
    show Go p e s below _ _ _ _ s₁ (mkF m 0 #[.val (.ref x1), .val (.ref a1), .val .null, .unset, .unset] [])
    refine Go.of (fun _ hr => XS.aloadN X0.here hx rfl (hb hby d18_0) rfl rfl hr) ?_
    show Go p e s below _ _ _ _ s₁ (mkF m 1 #[.val (.ref x1), .val (.ref a1), .val .null, .unset, .unset] [(.ref x1)])
    obtain ⟨T101, X101, e101, st101⟩ := initO X0 hx hZ hown (hw _ (List.mem_of_getElem? (i := 121) rfl)) (hw _ (List.mem_of_getElem? (i := 21) rfl)) (hw _ (List.mem_of_getElem? (i := 22) rfl)) e0 (g := (mkF m 1 #[.val (.ref x1), .val (.ref a1), .val .null, .unset, .unset] [(.ref x1)])) rfl (by rw [hml]; rfl) rfl (hb hby d18_1) (by decide) (W := 0) (by show 2 * 0 + _ ≤ _; exact Nat.le_of_eq rfl) (by decide)
    refine Go.of (fun _ hr => st101 _ hr) ?_
    show Go p e s below _ _ _ _ T101 (mkF m 4 #[.val (.ref x1), .val (.ref a1), .val .null, .unset, .unset] [])
    refine Go.of (fun _ hr => XS.aloadN X101.here hx rfl (hb hby d18_4) rfl rfl hr) ?_
    show Go p e s below _ _ _ _ T101 (mkF m 5 #[.val (.ref x1), .val (.ref a1), .val .null, .unset, .unset] [(.ref a1)])
    obtain ⟨_, b102, T102, h102, L102, e102, Cc102, X102, B102, J102, g102, hQ102, st102⟩ := own_callV Cc B0 J0 X101 (hw _ (List.mem_of_getElem? (i := 122) rfl)) (hw _ (List.mem_of_getElem? (i := 123) rfl)) (notFace_of_selects (args := #[]) (mvT hZ (hw _ (List.mem_of_getElem? (i := 125) rfl)))) (hw _ (List.mem_of_getElem? (i := 125) rfl)) (hw _ (List.mem_of_getElem? (i := 124) rfl)) (hw _ (List.mem_of_getElem? (i := 50) rfl)) (hw _ (List.mem_of_getElem? (i := 126) rfl)) (by decide) Ea1 (rm19 l Z a0 hw [] a1 v1 _ cs (1 : Int32) (utf cs) 32 _ h0 n0 O0 h0.size (own_ole O0) K0.1 Ea1 Gv Gc Gn Gm W1 hbo hcl) e101 (g := (mkF m 5 #[.val (.ref x1), .val (.ref a1), .val .null, .unset, .unset] [(.ref a1)])) rfl (by rw [hml]; rfl) (argsL := []) (rest := []) (lenOf pd30 rfl) rfl (W := 0) (by show 2 * 0 + _ ≤ _; exact Nat.le_of_eq rfl) (hb hby d18_5) (by decide) (by decide) (by decide) (by decide)
    obtain ⟨rfl, Nq102, hh102⟩ := hQ102
    have N102 := Fr.app N0 (show Fr nb _ from fun y hy => Nat.le_trans hnb (Nq102 y hy))
    have NS102 := Fr.app (Fr.nil _) Nq102
    obtain ⟨hx, hZ, hown, hby, hml, hnm, hret, hlk⟩ := id Cc102
    rw [hh102] at e102 B102 J102
    refine Go.of st102 ?_
    show Go p e s below _ _ _ _ T102 (mkF m 8 #[.val (.ref x1), .val (.ref a1), .val .null, .unset, .unset] [(.ref v1)])
    refine Go.of (fun _ hr => XS.astoreN X102.here hx rfl (hb hby d18_8) rfl rfl (l' := #[.val (.ref x1), .val (.ref a1), .val .null, .val (.ref v1), .unset]) rfl hr) ?_
    show Go p e s below _ _ _ _ T102 (mkF m 9 #[.val (.ref x1), .val (.ref a1), .val .null, .val (.ref v1), .unset] [])
    refine Go.of (fun _ hr => XS.aloadN X102.here hx rfl (hb hby d18_9) rfl rfl hr) ?_
    show Go p e s below _ _ _ _ T102 (mkF m 10 #[.val (.ref x1), .val (.ref a1), .val .null, .val (.ref v1), .unset] [(.ref a1)])
    obtain ⟨_, b103, T103, h103, L103, e103, Cc103, X103, B103, J103, g103, hQ103, st103⟩ := own_callV Cc102 B102 J102 X102 (hw _ (List.mem_of_getElem? (i := 127) rfl)) (hw _ (List.mem_of_getElem? (i := 128) rfl)) (own_nf (args := #[]) (mvT hZ (hw _ (List.mem_of_getElem? (i := 86) rfl))) rfl) (hw _ (List.mem_of_getElem? (i := 130) rfl)) (hw _ (List.mem_of_getElem? (i := 131) rfl)) (hw _ (List.mem_of_getElem? (i := 42) rfl)) (hw _ (List.mem_of_getElem? (i := 132) rfl)) (by decide) Ea1 (rm20 l Z a0 hw [] a1 v1 _ cs (1 : Int32) (utf cs) 32 _ h0 n0 O0 h0.size (own_ole O0) K0.1 Ea1 Gv Gc Gn Gm W1 hbo hcl) e102 (g := (mkF m 10 #[.val (.ref x1), .val (.ref a1), .val .null, .val (.ref v1), .unset] [(.ref a1)])) rfl (by rw [hml]; rfl) (argsL := []) (rest := []) (lenOf pd25 rfl) rfl (W := 0) (by show 2 * 0 + _ ≤ _; exact Nat.le_of_eq rfl) (hb hby d18_10) (by decide) (by decide) (by decide) (by decide)
    obtain ⟨rfl, Nq103, hh103⟩ := hQ103
    have N103 := Fr.app N102 (show Fr nb _ from fun y hy => Nat.le_trans hnb (Nq103 y hy))
    have NS103 := Fr.app NS102 Nq103
    obtain ⟨hx, hZ, hown, hby, hml, hnm, hret, hlk⟩ := id Cc103
    rw [hh103] at e103 B103 J103
    refine Go.of st103 ?_
    show Go p e s below _ _ _ _ T103 (mkF m 13 #[.val (.ref x1), .val (.ref a1), .val .null, .val (.ref v1), .unset] [(.int (Int32.ofNat cs.length))])
    refine Go.of (fun _ hr => XS.istore X103.here hx rfl (hb hby d18_13) rfl (l' := #[.val (.ref x1), .val (.ref a1), .val .null, .val (.ref v1), .val (.int (Int32.ofNat cs.length))]) rfl hr) ?_
    show Go p e s below _ _ _ _ T103 (mkF m 15 #[.val (.ref x1), .val (.ref a1), .val .null, .val (.ref v1), .val (.int (Int32.ofNat cs.length))] [])
    refine Go.of (fun _ hr => XS.aloadN X103.here hx rfl (hb hby d18_15) rfl rfl hr) ?_
    show Go p e s below _ _ _ _ T103 (mkF m 16 #[.val (.ref x1), .val (.ref a1), .val .null, .val (.ref v1), .val (.int (Int32.ofNat cs.length))] [(.ref a1)])
    obtain ⟨_, b104, T104, h104, L104, e104, Cc104, X104, B104, J104, g104, hQ104, st104⟩ := own_callV Cc103 B103 J103 X103 (hw _ (List.mem_of_getElem? (i := 135) rfl)) (hw _ (List.mem_of_getElem? (i := 136) rfl)) (notFace_of_selects (args := #[]) (mvT hZ (hw _ (List.mem_of_getElem? (i := 138) rfl)))) (hw _ (List.mem_of_getElem? (i := 138) rfl)) (hw _ (List.mem_of_getElem? (i := 137) rfl)) (hw _ (List.mem_of_getElem? (i := 50) rfl)) (hw _ (List.mem_of_getElem? (i := 139) rfl)) (by decide) Ea1 (rmU22 l Z a0 hw [] a1 zc _ h0 n0 O0 h0.size (own_ole O0) K0.1 Ea1 Gc S_C hzc) e103 (g := (mkF m 16 #[.val (.ref x1), .val (.ref a1), .val .null, .val (.ref v1), .val (.int (Int32.ofNat cs.length))] [(.ref a1)])) rfl (by rw [hml]; rfl) (argsL := []) (rest := []) (lenOf pd13 rfl) rfl (W := 0) (by show 2 * 0 + _ ≤ _; exact Nat.le_of_eq rfl) (hb hby d18_16) (by decide) (by decide) (by decide) (by decide)
    obtain ⟨rfl, Nq104, hh104⟩ := hQ104
    have N104 := Fr.app N103 (show Fr nb _ from fun y hy => Nat.le_trans hnb (Nq104 y hy))
    have NS104 := Fr.app NS103 Nq104
    obtain ⟨hx, hZ, hown, hby, hml, hnm, hret, hlk⟩ := id Cc104
    rw [hh104] at e104 B104 J104
    refine Go.of st104 ?_
    show Go p e s below _ _ _ _ T104 (mkF m 19 #[.val (.ref x1), .val (.ref a1), .val .null, .val (.ref v1), .val (.int (Int32.ofNat cs.length))] [(.int (0 : Int32))])
    refine Go.of (fun _ hr => XS.ifYes X104.here hx rfl (pc0 := 19) (pc' := 41) rfl (hb hby d18_19) rfl ((if0 _ _).trans (teq (by decide : ((0 : Int32) = (0 : Int32)))).1) (by decide) (by decide) hr) ?_
    show Go p e s below _ _ _ _ T104 (mkF m 41 #[.val (.ref x1), .val (.ref a1), .val .null, .val (.ref v1), .val (.int (Int32.ofNat cs.length))] [])
    obtain ⟨T105, X105, e105, st105⟩ := getS2 X104 hx hZ hown (host := "") (Or.inl (hw _ (List.mem_of_getElem? (i := 79) rfl))) Via.refl e104 (S_C.ext O0.2) (g := (mkF m 41 #[.val (.ref x1), .val (.ref a1), .val .null, .val (.ref v1), .val (.int (Int32.ofNat cs.length))] [])) rfl (hb hby d18_41)
    refine Go.of (fun _ hr => st105 _ hr) ?_
    show Go p e s below _ _ _ _ T105 (mkF m 44 #[.val (.ref x1), .val (.ref a1), .val .null, .val (.ref v1), .val (.int (Int32.ofNat cs.length))] [(.int zc)])
    refine Go.of (fun _ hr => XS.ifNo X105.here hx rfl (hb hby d18_44) rfl ((if0 _ _).trans (feq hzc).1) hr) ?_
    show Go p e s below _ _ _ _ T105 (mkF m 47 #[.val (.ref x1), .val (.ref a1), .val .null, .val (.ref v1), .val (.int (Int32.ofNat cs.length))] [])
    refine Go.of (fun _ hr => XS.aloadN X105.here hx rfl (hb hby d18_47) rfl rfl hr) ?_
    show Go p e s below _ _ _ _ T105 (mkF m 48 #[.val (.ref x1), .val (.ref a1), .val .null, .val (.ref v1), .val (.int (Int32.ofNat cs.length))] [(.ref a1)])
    obtain ⟨T106, X106, e106, st106⟩ := getF X105 hx hZ hown (host := "") (Or.inl (hw _ (List.mem_of_getElem? (i := 239) rfl))) Via.refl e105 Gm (g := (mkF m 48 #[.val (.ref x1), .val (.ref a1), .val .null, .val (.ref v1), .val (.int (Int32.ofNat cs.length))] [(.ref a1)])) rfl rfl (hb hby d18_48)
    refine Go.of (fun _ hr => st106 _ hr) ?_
    show Go p e s below _ _ _ _ T106 (mkF m 51 #[.val (.ref x1), .val (.ref a1), .val .null, .val (.ref v1), .val (.int (Int32.ofNat cs.length))] [(.int (0 : Int32))])
    refine Go.of (fun _ hr => XS.ifYes X106.here hx rfl (pc0 := 51) (pc' := 79) rfl (hb hby d18_51) rfl ((if0 _ _).trans (teq (by decide : ((0 : Int32) = (0 : Int32)))).1) (by decide) (by decide) hr) ?_
    show Go p e s below _ _ _ _ T106 (mkF m 79 #[.val (.ref x1), .val (.ref a1), .val .null, .val (.ref v1), .val (.int (Int32.ofNat cs.length))] [])
    refine Go.of (fun _ hr => XS.aloadN X106.here hx rfl (hb hby d18_79) rfl rfl hr) ?_
    show Go p e s below _ _ _ _ T106 (mkF m 80 #[.val (.ref x1), .val (.ref a1), .val .null, .val (.ref v1), .val (.int (Int32.ofNat cs.length))] [(.ref x1)])
    refine Go.of (fun _ hr => XS.iconst X106.here hx rfl (hb hby d18_80) hr) ?_
    show Go p e s below _ _ _ _ T106 (mkF m 81 #[.val (.ref x1), .val (.ref a1), .val .null, .val (.ref v1), .val (.int (Int32.ofNat cs.length))] [(.int (1 : Int32)), (.ref x1)])
    obtain ⟨T107, h107, X107, e107, W107, st107⟩ := putFN X106 hx hZ hown (hw _ (List.mem_of_getElem? (i := 80) rfl)) Via.refl e106 F2 E1 (Or.inr ⟨(hw _ (List.mem_of_getElem? (i := 11) rfl)), rfl, hnm⟩) (hw _ (List.mem_of_getElem? (i := 8) rfl)) (ty := .byte) (v := (.int (1 : Int32))) (v' := (.int (1 : Int32))) (by decide) rfl rfl (g := (mkF m 81 #[.val (.ref x1), .val (.ref a1), .val .null, .val (.ref v1), .val (.int (Int32.ofNat cs.length))] [(.int (1 : Int32)), (.ref x1)])) rfl rfl (hb hby d18_81)
    have N107 := Fr.snoc X107 N104 fr_x1
    have J107 := J104.wr W107 hm_x1
    have B107 := B104.mono (Nat.le_of_eq W107.size.symm)
    have O107 := O0.wr W107 (Nat.le_trans hb0 fr_x1)
    have K107 := K0.wr W107 (Or.inl (List.mem_of_getElem? (i := 0) rfl))
    have Fw107 := F2.same W107
    refine Go.of (fun _ hr => st107 _ hr) ?_
    show Go p e s below _ _ _ _ T107 (mkF m 84 #[.val (.ref x1), .val (.ref a1), .val .null, .val (.ref v1), .val (.int (Int32.ofNat cs.length))] [])
    refine Go.of (fun _ hr => XS.aloadN X107.here hx rfl (hb hby d18_84) rfl rfl hr) ?_
    show Go p e s below _ _ _ _ T107 (mkF m 85 #[.val (.ref x1), .val (.ref a1), .val .null, .val (.ref v1), .val (.int (Int32.ofNat cs.length))] [(.ref x1)])
    refine Go.of (fun _ hr => XS.aloadN X107.here hx rfl (hb hby d18_85) rfl rfl hr) ?_
    show Go p e s below _ _ _ _ T107 (mkF m 86 #[.val (.ref x1), .val (.ref a1), .val .null, .val (.ref v1), .val (.int (Int32.ofNat cs.length))] [(.ref v1), (.ref x1)])
    refine Go.of (fun _ hr => XS.iconst X107.here hx rfl (hb hby d18_86) hr) ?_
    show Go p e s below _ _ _ _ T107 (mkF m 87 #[.val (.ref x1), .val (.ref a1), .val .null, .val (.ref v1), .val (.int (Int32.ofNat cs.length))] [(.int (0 : Int32)), (.ref v1), (.ref x1)])
    refine Go.of (fun _ hr => XS.iload X107.here hx rfl (hb hby d18_87) rfl  hr) ?_
    show Go p e s below _ _ _ _ T107 (mkF m 89 #[.val (.ref x1), .val (.ref a1), .val .null, .val (.ref v1), .val (.int (Int32.ofNat cs.length))] [(.int (Int32.ofNat cs.length)), (.int (0 : Int32)), (.ref v1), (.ref x1)])
    refine Go.of (fun _ hr => XS.iconst X107.here hx rfl (hb hby d18_89) hr) ?_
    show Go p e s below _ _ _ _ T107 (mkF m 90 #[.val (.ref x1), .val (.ref a1), .val .null, .val (.ref v1), .val (.int (Int32.ofNat cs.length))] [(.int (1 : Int32)), (.int (Int32.ofNat cs.length)), (.int (0 : Int32)), (.ref v1), (.ref x1)])
    refine Go.of (fun _ hr => XS.ishl X107.here hx rfl (hb hby d18_90) rfl hr) ?_
    show Go p e s below _ _ _ _ T107 (mkF m 91 #[.val (.ref x1), .val (.ref a1), .val .null, .val (.ref v1), .val (.int (Int32.ofNat cs.length))] [(.int ((Int32.ofNat cs.length) <<< ((1 : Int32) &&& 31))), (.int (0 : Int32)), (.ref v1), (.ref x1)])
    rw [oi_shl1 (show 2 * cs.length < 2147483648 by omega), ← utf_len]
    show Go p e s below _ _ _ _ T107 (mkF m 91 #[.val (.ref x1), .val (.ref a1), .val .null, .val (.ref v1), .val (.int (Int32.ofNat cs.length))] [(.int (Int32.ofNat (utf cs).length)), (.int (0 : Int32)), (.ref v1), (.ref x1)])
    have f109 := (W1.other W107 nev)
    obtain ⟨_, b108, T108, h108, L108, e108, Cc108, X108, B108, J108, g108, hQ108, st108⟩ := own_callS Cc104 B107 J107 X107 (hw _ (List.mem_of_getElem? (i := 140) rfl)) (hw _ (List.mem_of_getElem? (i := 141) rfl)) (hw _ (List.mem_of_getElem? (i := 142) rfl)) (hw _ (List.mem_of_getElem? (i := 143) rfl)) (by decide) (rm23 l Z a0 hw [] v1 _ (utf cs) 32 _ h107 n0 O107 h0.size (own_ole O0) K107.1 f109 (by decide) ((bo_len hbo).2 hlt)) e107 (g := (mkF m 91 #[.val (.ref x1), .val (.ref a1), .val .null, .val (.ref v1), .val (.int (Int32.ofNat cs.length))] [(.int (Int32.ofNat (utf cs).length)), (.int (0 : Int32)), (.ref v1), (.ref x1)])) rfl (by rw [hml]; rfl) (argsL := [(.ref v1), (.int (0 : Int32)), (.int (Int32.ofNat (utf cs).length))]) (rest := [(.ref x1)]) (lenOf pd29 rfl) rfl (W := 1) (by show 2 * 0 + _ ≤ _; exact Nat.le_of_eq rfl) (hb hby d18_91) (by decide) (by decide) (by decide) (by decide)
    have f110 := (Ea1.wr W107)
    have f111 := (E1.wr W107)
    obtain ⟨r108, kr108, rfl, Nq108, Eq108, R_r108, Vr108⟩ := hQ108
    have N108 := Fr.app N107 (show Fr nb _ from fun y hy => Nat.le_trans hnb (Nq108 y hy))
    obtain ⟨hx, hZ, hown, hby, hml, hnm, hret, hlk⟩ := id Cc108
    have sz_r108 : h0.size ≤ r108 := Nat.le_trans K107.1 R_r108
    have fr_r108 : nb ≤ r108 := Nat.le_trans hnb sz_r108
    have ne_a1_r108 : a1 ≠ r108 := Nat.ne_of_lt (Nat.lt_of_lt_of_le f110.lt R_r108)
    have ne_v1_r108 : v1 ≠ r108 := Nat.ne_of_lt (Nat.lt_of_lt_of_le f109.lt R_r108)
    have ne_x1_r108 : x1 ≠ r108 := Nat.ne_of_lt (Nat.lt_of_lt_of_le f111.lt R_r108)
    have K108 := K107.ext Eq108
    have O108 := O107.ext Eq108
    refine Go.of st108 ?_
    show Go p e s below _ _ _ _ T108 (mkF m 94 #[.val (.ref x1), .val (.ref a1), .val .null, .val (.ref v1), .val (.int (Int32.ofNat cs.length))] [(.ref r108), (.ref x1)])
    have f113 := ((F1.other W107 (Or.inr (slot_ne (Or.inr (hw _ (List.mem_of_getElem? (i := 10) rfl))) (Or.inr (hw _ (List.mem_of_getElem? (i := 11) rfl))) (by decide) (t := (.array .byte)) (t' := .byte) (by decide) (by decide)))).ext Eq108)
    have f114 := (f111.ext Eq108)
    obtain ⟨T112, h112, X112, e112, W112, st112⟩ := putF X108 hx hZ hown (host := "") (Or.inl (hw _ (List.mem_of_getElem? (i := 73) rfl))) Via.refl e108 f113 f114 (Or.inr ⟨(hw _ (List.mem_of_getElem? (i := 10) rfl)), rfl, hnm⟩) (hw _ (List.mem_of_getElem? (i := 8) rfl)) (ty := (.array .byte)) (by decide) rfl rfl (g := (mkF m 94 #[.val (.ref x1), .val (.ref a1), .val .null, .val (.ref v1), .val (.int (Int32.ofNat cs.length))] [(.ref r108), (.ref x1)])) rfl rfl (hb hby d18_94)
    have N112 := Fr.snoc X112 N108 fr_x1
    have J112 := J108.wr W112 hm_x1
    have B112 := B108.mono (Nat.le_of_eq W112.size.symm)
    have O112 := O108.wr W112 (Nat.le_trans hb0 fr_x1)
    have K112 := K108.wr W112 (Or.inl (List.mem_of_getElem? (i := 0) rfl))
    have Fw112 := f113.same W112
    refine Go.of (fun _ hr => st112 _ hr) ?_
    show Go p e s below _ _ _ _ T112 (mkF m 97 #[.val (.ref x1), .val (.ref a1), .val .null, .val (.ref v1), .val (.int (Int32.ofNat cs.length))] [])
    have f115 := ((Fw107.ext Eq108).other W112 (Or.inr (slot_ne (Or.inr (hw _ (List.mem_of_getElem? (i := 11) rfl))) (Or.inr (hw _ (List.mem_of_getElem? (i := 10) rfl))) (by decide) (t := .byte) (t' := (.array .byte)) (by decide) (by decide))))
    have f116 := (Vr108.other W112 (Ne.symm ne_x1_r108))
    exact Go.retV X112 hx hlk B112 J112 e112 hret (hb hby d18_97) (by decide) (by decide) (fun vm_ hw_ => ⟨rfl, N112, K112, _, _, 1, (utf cs), sz_r108, Fw112, f115, Or.inr ⟨rfl, rfl⟩, f116⟩)

theorem d17_0 : decode jdk_42_method_53_code 0 = .ok (.aload_n 0, 1) := by decide +kernel
theorem d17_1 : decode jdk_42_method_53_code 1 = .ok (.aload_n 1, 1) := by decide +kernel
theorem d17_2 : decode jdk_42_method_53_code 2 = .ok (.aconst_null, 1) := by decide +kernel
theorem d17_3 : decode jdk_42_method_53_code 3 = .ok (.invokespecial 489, 3) := by decide +kernel
theorem pd31 : parseMethodDescriptor "(Ljava/lang/AbstractStringBuilder;Ljava/lang/Void;)V" = some ⟨[(.object "java/lang/AbstractStringBuilder"), (.object "java/lang/Void")], none⟩ := by decide +kernel
theorem d17_6 : decode jdk_42_method_53_code 6 = .ok (.return_, 1) := by decide +kernel
set_option maxRecDepth 65536 in
set_option maxHeartbeats 40000000 in
theorem rm17 (l : Launch) (Z : State) (a0 : Array Value) (hw : ∀ d ∈ tables_1, d.before a0 Z = true) (ws : List Jvm.Cond) (x1 : Addr) (u1 u2 : Value) (a1 v1 : Addr) (kv : ClassId) (cs : List Int32) (bc : Int32) (bs : List Int32) (nn : Nat) (zc : Int32) (ms : List Addr) (h0 : Heap) (n0 : Nat) (O0 : Old Z n0 h0) (nb : Nat) (hb0 : n0 ≤ nb) (hnb : nb ≤ h0.size) (fr_x1 : nb ≤ x1) (hm_x1 : x1 ∈ ms) (Ea1 : Exa Z h0 a1 "java/lang/StringBuilder") (Gv : Fld Z h0 a1 "java/lang/AbstractStringBuilder" "value" "[B" (.ref v1)) (Gc : Fld Z h0 a1 "java/lang/AbstractStringBuilder" "coder" "B" (.int bc)) (Gn : Fld Z h0 a1 "java/lang/AbstractStringBuilder" "count" "I" (.int (Int32.ofNat cs.length))) (Gm : Fld Z h0 a1 "java/lang/AbstractStringBuilder" "maybeLatin1" "Z" (.int 0)) (W1 : Arv Z h0 v1 kv .byte (Int32.ofNat nn) (bs.map Value.int) (.int 0)) (hbo : BOf cs bc bs nn) (hcl : cs.length ≤ 16) (E1 : Exa Z h0 x1 "java/lang/String") (F1 : Fld Z h0 x1 "java/lang/String" "value" "[B" u1) (F2 : Fld Z h0 x1 "java/lang/String" "coder" "B" u2) (hlt : cs.length < 16) (nex : a1 ≠ x1) (nev : v1 ≠ x1) (S_C : Sta Z Z.heap "java/lang/String" "COMPACT_STRINGS" "Z" (.int zc)) (hzc : ¬ zc = 0) :
    Con l Z ms (⟨"java/lang/String", "<init>", "(Ljava/lang/StringBuilder;)V"⟩ : MethodName) jdk_42_method_53_code 2 none ws ({ frames := 4, cells := 1, slots := 32, locals := 87 } : Room) #[(.ref x1), (.ref a1)] h0 (fun v vm h L => v = none ∧ Fr nb L ∧ Keep h0 h [x1] ∧ ∃ t k cd bb, h0.size ≤ t ∧ Fld Z h x1 "java/lang/String" "value" "[B" (.ref t) ∧ Fld Z h x1 "java/lang/String" "coder" "B" (.int cd) ∧ StrOf cs cd bb ∧ Arv Z h t k .byte (Int32.ofNat bb.length) (bb.map Value.int) (.int 0)) := by
  refine Con.mk (plainFor_of_name pn1) ?_
  intro p e s m below meth c s₁ Cc X0 e0 eb J0 B0 M0
  obtain ⟨hx, hZ, hown, hby, hml, hnm, hret, hlk⟩ := id Cc
  have N0 := Fr.nil nb
  have K0 := Keep.refl h0 [x1]
  show Go p e s below _ _ _ _ s₁ (mkF m 0 #[.val (.ref x1), .val (.ref a1)] [])
  refine Go.of (fun _ hr => XS.aloadN X0.here hx rfl (hb hby d17_0) rfl rfl hr) ?_
  show Go p e s below _ _ _ _ s₁ (mkF m 1 #[.val (.ref x1), .val (.ref a1)] [(.ref x1)])
  refine Go.of (fun _ hr => XS.aloadN X0.here hx rfl (hb hby d17_1) rfl rfl hr) ?_
  show Go p e s below _ _ _ _ s₁ (mkF m 2 #[.val (.ref x1), .val (.ref a1)] [(.ref a1), (.ref x1)])
  refine Go.of (fun _ hr => XS.aconstNull X0.here hx rfl (hb hby d17_2) hr) ?_
  show Go p e s below _ _ _ _ s₁ (mkF m 3 #[.val (.ref x1), .val (.ref a1)] [.null, (.ref a1), (.ref x1)])
  obtain ⟨_, b101, T101, h101, L101, e101, Cc101, X101, B101, J101, g101, hQ101, st101⟩ := own_callI Cc B0 J0 X0 rfl (hw _ (List.mem_of_getElem? (i := 118) rfl)) (hw _ (List.mem_of_getElem? (i := 119) rfl)) (hw _ (List.mem_of_getElem? (i := 7) rfl)) (hw _ (List.mem_of_getElem? (i := 120) rfl)) (by decide) (rm18 l Z a0 hw [] x1 _ _ a1 v1 _ cs bc bs nn zc _ h0 n0 O0 nb hb0 (Nat.le_trans hnb K0.1) fr_x1 hm_x1 Ea1 Gv Gc Gn Gm W1 hbo hcl E1 F1 F2 hlt nex nev S_C hzc) e0 (g := (mkF m 3 #[.val (.ref x1), .val (.ref a1)] [.null, (.ref a1), (.ref x1)])) rfl (by rw [hml]; rfl) (argsL := [(.ref a1), .null]) (rest := []) (lenOf pd31 rfl) rfl (W := 0) (by show 2 * 0 + _ ≤ _; exact Nat.le_of_eq rfl) (hb hby d17_3) (by decide) (by decide) (by decide) (by decide)
  obtain ⟨rfl, Nq101, Kq101, t101, kt101, cd101, bb101, R_t101, Fv101, Fc101, So101, Vt101⟩ := hQ101
  have N101 := Fr.app N0 Nq101
  obtain ⟨hx, hZ, hown, hby, hml, hnm, hret, hlk⟩ := id Cc101
  have sz_t101 : h0.size ≤ t101 := Nat.le_trans K0.1 R_t101
  have fr_t101 : nb ≤ t101 := Nat.le_trans hnb sz_t101
  have ne_a1_t101 : a1 ≠ t101 := Nat.ne_of_lt (Nat.lt_of_lt_of_le Ea1.lt R_t101)
  have ne_v1_t101 : v1 ≠ t101 := Nat.ne_of_lt (Nat.lt_of_lt_of_le W1.lt R_t101)
  have ne_x1_t101 : x1 ≠ t101 := Nat.ne_of_lt (Nat.lt_of_lt_of_le E1.lt R_t101)
  have K101 := K0.trans Kq101 (allS (Or.inl (List.mem_of_getElem? (i := 0) rfl)) all0)
  have O101 := O0.keep Kq101 (allS (Nat.le_trans hb0 fr_x1) all0)
  refine Go.of st101 ?_
  show Go p e s below _ _ _ _ T101 (mkF m 6 #[.val (.ref x1), .val (.ref a1)] [])
  exact Go.retV X101 hx hlk B101 J101 e101 hret (hb hby d17_6) (by decide) (by decide) (fun vm_ hw_ => ⟨rfl, N101, K101, _, _, _, _, sz_t101, Fv101, Fc101, So101, Vt101⟩)

theorem d16_0 : decode jdk_67_method_42_code 0 = .ok (.new 18, 3) := by decide +kernel
theorem d16_3 : decode jdk_67_method_42_code 3 = .ok (.dup, 1) := by decide +kernel
theorem d16_4 : decode jdk_67_method_42_code 4 = .ok (.aload_n 0, 1) := by decide +kernel
theorem d16_5 : decode jdk_67_method_42_code 5 = .ok (.invokespecial 137, 3) := by decide +kernel
theorem pd32 : parseMethodDescriptor "(Ljava/lang/StringBuilder;)V" = some ⟨[(.object "java/lang/StringBuilder")], none⟩ := by decide +kernel
theorem d16_8 : decode jdk_67_method_42_code 8 = .ok (.areturn, 1) := by decide +kernel
set_option maxRecDepth 65536 in
set_option maxHeartbeats 40000000 in
theorem rm16 (l : Launch) (Z : State) (a0 : Array Value) (hw : ∀ d ∈ tables_1, d.before a0 Z = true) (ws : List Jvm.Cond) (a1 v1 : Addr) (kv : ClassId) (cs : List Int32) (bc : Int32) (bs : List Int32) (nn : Nat) (zc : Int32) (ms : List Addr) (h0 : Heap) (n0 : Nat) (O0 : Old Z n0 h0) (nb : Nat) (hb0 : n0 ≤ nb) (hnb : nb ≤ h0.size) (Ea1 : Exa Z h0 a1 "java/lang/StringBuilder") (Gv : Fld Z h0 a1 "java/lang/AbstractStringBuilder" "value" "[B" (.ref v1)) (Gc : Fld Z h0 a1 "java/lang/AbstractStringBuilder" "coder" "B" (.int bc)) (Gn : Fld Z h0 a1 "java/lang/AbstractStringBuilder" "count" "I" (.int (Int32.ofNat cs.length))) (Gm : Fld Z h0 a1 "java/lang/AbstractStringBuilder" "maybeLatin1" "Z" (.int 0)) (W1 : Arv Z h0 v1 kv .byte (Int32.ofNat nn) (bs.map Value.int) (.int 0)) (hbo : BOf cs bc bs nn) (hcl : cs.length ≤ 16) (hlt : cs.length < 16) (S_C : Sta Z Z.heap "java/lang/String" "COMPACT_STRINGS" "Z" (.int zc)) (hzc : ¬ zc = 0) :
    Con l Z ms (⟨"java/lang/StringBuilder", "toString", "()Ljava/lang/String;"⟩ : MethodName) jdk_67_method_42_code 1 (some (.object "java/lang/String")) ws ({ frames := 5, cells := 2, slots := 36, locals := 101 } : Room) #[(.ref a1)] h0 (fun v vm h L => ∃ r t k cd bb, v = some (.ref r) ∧ Fr nb L ∧ Ext h0 h ∧ h0.size ≤ r ∧ h0.size ≤ t ∧ Exa Z h r "java/lang/String" ∧ Fld Z h r "java/lang/String" "value" "[B" (.ref t) ∧ Fld Z h r "java/lang/String" "coder" "B" (.int cd) ∧ StrOf cs cd bb ∧ Arv Z h t k .byte (Int32.ofNat bb.length) (bb.map Value.int) (.int 0)) := by
  refine Con.mk (plainFor_of_name pn5) ?_
  intro p e s m below meth c s₁ Cc X0 e0 eb J0 B0 M0
  obtain ⟨hx, hZ, hown, hby, hml, hnm, hret, hlk⟩ := id Cc
  have N0 := Fr.nil h0.size
  have K0 := Keep.refl h0 []
  show Go p e s below _ _ _ _ s₁ (mkF m 0 #[.val (.ref a1)] [])
  obtain ⟨T101, h101, X101, e101, E101, A101, D101, -, st101⟩ := newO X0 hx hZ hown (hw _ (List.mem_of_getElem? (i := 114) rfl)) (hw _ (List.mem_of_getElem? (i := 8) rfl)) (hw _ (List.mem_of_getElem? (i := 7) rfl)) e0 (g := (mkF m 0 #[.val (.ref a1)] [])) rfl (hb hby d16_0) (by decide) (by decide)
  obtain ⟨o101, g101⟩ : ∃ z, z = h0.size := ⟨_, rfl⟩
  rw [← g101] at A101 D101 st101
  have ne_a1_o101 : a1 ≠ o101 := Nat.ne_of_lt (Nat.lt_of_lt_of_le Ea1.lt (Nat.le_of_eq g101.symm))
  have ne_v1_o101 : v1 ≠ o101 := Nat.ne_of_lt (Nat.lt_of_lt_of_le W1.lt (Nat.le_of_eq g101.symm))
  have lt101 : o101 < h101.size := A101.lt
  have J101 := J0.add E101 g101 lt101
  have B101 := B0.mono E101.1
  have O101 := O0.ext E101
  have sz101 : h0.size ≤ o101 := Nat.le_trans K0.1 (Nat.le_of_eq g101.symm)
  have fr101 : h0.size ≤ o101 := sz101
  have K101 := K0.ext E101
  have F101_value : Fld Z h101 o101 "java/lang/String" "value" "[B" .null := D101 (Or.inr (hw _ (List.mem_of_getElem? (i := 10) rfl))) (ty := (.array .byte)) (by decide)
  have F101_coder : Fld Z h101 o101 "java/lang/String" "coder" "B" (.int (0 : Int32)) := D101 (Or.inr (hw _ (List.mem_of_getElem? (i := 11) rfl))) (ty := .byte) (by decide)
  refine Go.of (fun _ hr => st101 _ hr) ?_
  show Go p e s below _ _ _ _ T101 (mkF m 3 #[.val (.ref a1)] [(.ref o101)])
  refine Go.of (fun _ hr => XS.dup X101.here hx rfl (hb hby d16_3) rfl rfl hr) ?_
  show Go p e s below _ _ _ _ T101 (mkF m 4 #[.val (.ref a1)] [(.ref o101), (.ref o101)])
  refine Go.of (fun _ hr => XS.aloadN X101.here hx rfl (hb hby d16_4) rfl rfl hr) ?_
  show Go p e s below _ _ _ _ T101 (mkF m 5 #[.val (.ref a1)] [(.ref a1), (.ref o101), (.ref o101)])
  have f103 := (Ea1.ext E101)
  have f104 := (Gv.ext E101)
  have f105 := (Gc.ext E101)
  have f106 := (Gn.ext E101)
  have f107 := (Gm.ext E101)
  have f108 := (W1.ext E101)
  obtain ⟨_, b102, T102, h102, L102, e102, Cc102, X102, B102, J102, g102, hQ102, st102⟩ := own_callI Cc B101 J101 X101 rfl (hw _ (List.mem_of_getElem? (i := 115) rfl)) (hw _ (List.mem_of_getElem? (i := 116) rfl)) (hw _ (List.mem_of_getElem? (i := 7) rfl)) (hw _ (List.mem_of_getElem? (i := 117) rfl)) (by decide) (rm17 l Z a0 hw [] o101 _ _ a1 v1 _ cs bc bs nn zc _ h101 n0 O101 h0.size (own_ole O0) K101.1 fr101 (List.mem_cons_self ..) f103 f104 f105 f106 f107 f108 hbo hcl A101 F101_value F101_coder hlt ne_a1_o101 ne_v1_o101 S_C hzc) e101 (g := (mkF m 5 #[.val (.ref a1)] [(.ref a1), (.ref o101), (.ref o101)])) rfl (by rw [hml]; rfl) (argsL := [(.ref a1)]) (rest := [(.ref o101)]) (lenOf pd32 rfl) rfl (W := 1) (by show 2 * 0 + _ ≤ _; exact Nat.le_of_eq rfl) (hb hby d16_5) (by decide) (by decide) (by decide) (by decide)
  obtain ⟨rfl, Nq102, Kq102, t102, kt102, cd102, bb102, R_t102, Fv102, Fc102, So102, Vt102⟩ := hQ102
  have N102 := Fr.app N0 Nq102
  obtain ⟨hx, hZ, hown, hby, hml, hnm, hret, hlk⟩ := id Cc102
  have sz_t102 : h0.size ≤ t102 := Nat.le_trans K101.1 R_t102
  have fr_t102 : h0.size ≤ t102 := sz_t102
  have ne_a1_t102 : a1 ≠ t102 := Nat.ne_of_lt (Nat.lt_of_lt_of_le f103.lt R_t102)
  have ne_v1_t102 : v1 ≠ t102 := Nat.ne_of_lt (Nat.lt_of_lt_of_le f108.lt R_t102)
  have ne_o101_t102 : o101 ≠ t102 := Nat.ne_of_lt (Nat.lt_of_lt_of_le A101.lt R_t102)
  have K102 := K101.trans Kq102 (allS (Or.inr sz101) all0)
  have O102 := O101.keep Kq102 (allS (Nat.le_trans (own_ole O0) fr101) all0)
  refine Go.of st102 ?_
  show Go p e s below _ _ _ _ T102 (mkF m 8 #[.val (.ref a1)] [(.ref o101)])
  have f109 := (A101.keep Kq102)
  exact Go.retA X102 hx hlk B102 (J102.sub fun x hx => (List.mem_cons_of_mem _ hx)) e102 hret rfl rfl (hb hby d16_8) (by decide) (by decide) (fun vm_ hw_ => ⟨_, _, _, _, _, rfl, (fun y hy => Nat.le_trans hnb (N102 y hy)), keep_ext K102, sz101, sz_t102, f109, Fv102, Fc102, So102, Vt102⟩)

theorem pn7 : plainName "com/example/dispatcher/dispatcher/web/FieldErrorToStringPinLaw" = true := by first | (simp [plainName, overriddenIn]; done) | decide +kernel
theorem d1_0 : decode method_2_code 0 = .ok (.iload_n 0, 1) := by decide +kernel
theorem d1_1 : decode method_2_code 1 = .ok (.ifCond .ne 6, 3) := by decide +kernel
theorem d1_4 : decode method_2_code 4 = .ok (.ldc 7, 2) := by decide +kernel
theorem d1_6 : decode method_2_code 6 = .ok (.areturn, 1) := by decide +kernel
theorem d1_7 : decode method_2_code 7 = .ok (.iload_n 0, 1) := by decide +kernel
theorem d1_8 : decode method_2_code 8 = .ok (.iconst 1, 1) := by decide +kernel
theorem d1_9 : decode method_2_code 9 = .ok (.if_icmp .ne 8, 3) := by decide +kernel
theorem d1_12 : decode method_2_code 12 = .ok (.iload_n 1, 1) := by decide +kernel
theorem d1_13 : decode method_2_code 13 = .ok (.invokestatic 9, 3) := by decide +kernel
theorem pd33 : parseMethodDescriptor "(C)Ljava/lang/String;" = some ⟨[.char], some (.object "java/lang/String")⟩ := by decide +kernel
theorem d1_16 : decode method_2_code 16 = .ok (.areturn, 1) := by decide +kernel
theorem d1_17 : decode method_2_code 17 = .ok (.new 10, 3) := by decide +kernel
theorem d1_20 : decode method_2_code 20 = .ok (.dup, 1) := by decide +kernel
theorem d1_21 : decode method_2_code 21 = .ok (.iconst 2, 1) := by decide +kernel
theorem d1_22 : decode method_2_code 22 = .ok (.newarray .char, 2) := by decide +kernel
theorem d1_24 : decode method_2_code 24 = .ok (.dup, 1) := by decide +kernel
theorem d1_25 : decode method_2_code 25 = .ok (.iconst 0, 1) := by decide +kernel
theorem d1_26 : decode method_2_code 26 = .ok (.iload_n 1, 1) := by decide +kernel
theorem d1_27 : decode method_2_code 27 = .ok (.castore, 1) := by decide +kernel
theorem d1_28 : decode method_2_code 28 = .ok (.dup, 1) := by decide +kernel
theorem d1_29 : decode method_2_code 29 = .ok (.iconst 1, 1) := by decide +kernel
theorem d1_30 : decode method_2_code 30 = .ok (.iload_n 2, 1) := by decide +kernel
theorem d1_31 : decode method_2_code 31 = .ok (.castore, 1) := by decide +kernel
theorem d1_32 : decode method_2_code 32 = .ok (.invokespecial 15, 3) := by decide +kernel
theorem pd34 : parseMethodDescriptor "([C)V" = some ⟨[(.array .char)], none⟩ := by decide +kernel
theorem d1_35 : decode method_2_code 35 = .ok (.areturn, 1) := by decide +kernel
set_option maxRecDepth 65536 in
set_option maxHeartbeats 40000000 in
theorem rm1 (l : Launch) (Z : State) (a0 : Array Value) (hw : ∀ d ∈ tables_1, d.before a0 Z = true) (ws : List Jvm.Cond) (n1 x1 x2 : Int32) (zc : Int32) (ms : List Addr) (h0 : Heap) (n0 : Nat) (O0 : Old Z n0 h0) (nb : Nat) (hb0 : n0 ≤ nb) (hnb : nb ≤ h0.size) (S_D : Sta Z Z.heap "java/lang/StringUTF16" "$assertionsDisabled" "Z" (.int 1)) (S_H : Sta Z Z.heap "java/lang/StringUTF16" "HI_BYTE_SHIFT" "I" (.int 0)) (S_L : Sta Z Z.heap "java/lang/StringUTF16" "LO_BYTE_SHIFT" "I" (.int 8)) (hq_x1 : rng16 x1) (hq_x2 : rng16 x2) (S_C : Sta Z Z.heap "java/lang/String" "COMPACT_STRINGS" "Z" (.int zc)) (hzc : ¬ zc = 0) :
    Con l Z ms (⟨"com/example/dispatcher/dispatcher/web/FieldErrorToStringPinLaw", "mk", "(ICC)Ljava/lang/String;"⟩ : MethodName) method_2_code 3 (some (.object "java/lang/String")) ws ({ frames := 6, cells := 4, slots := 54, locals := 88 } : Room) #[(.int n1), (.int x1), (.int x2)] h0 (fun v vm h L => ∃ r t k cd bb, v = some (.ref r) ∧ Fr nb L ∧ Ext h0 h ∧ r ∉ ms ∧ t ∉ ms ∧ Exa Z h r "java/lang/String" ∧ Fld Z h r "java/lang/String" "value" "[B" (.ref t) ∧ Fld Z h r "java/lang/String" "coder" "B" (.int cd) ∧ StrOf (mkL n1 x1 x2) cd bb ∧ Arv Z h t k .byte (Int32.ofNat bb.length) (bb.map Value.int) (.int 0)) := by
  refine Con.mk (plainFor_of_name pn7) ?_
  intro p e s m below meth c s₁ Cc X0 e0 eb J0 B0 M0
  obtain ⟨hx, hZ, hown, hby, hml, hnm, hret, hlk⟩ := id Cc
  have N0 := Fr.nil h0.size
  have K0 := Keep.refl h0 []
  show Go p e s below _ _ _ _ s₁ (mkF m 0 #[.val (.int n1), .val (.int x1), .val (.int x2)] [])
  refine Go.of (fun _ hr => XS.iloadN X0.here hx rfl (hb hby d1_0) rfl  hr) ?_
  show Go p e s below _ _ _ _ s₁ (mkF m 1 #[.val (.int n1), .val (.int x1), .val (.int x2)] [(.int n1)])
  by_cases hb1_101 : n1 = (0 : Int32)
  · refine Go.of (fun _ hr => XS.ifNo X0.here hx rfl (hb hby d1_1) rfl ((if0 _ _).trans (teq hb1_101).2) hr) ?_
    show Go p e s below _ _ _ _ s₁ (mkF m 4 #[.val (.int n1), .val (.int x1), .val (.int x2)] [])
    obtain ⟨o102, t102, k102, b102, T102, h102, e102, Cc102, X102, B102, J102, E102, Sy102, na102, nt102, lt102, st102⟩ := own_ldcV Cc B0 J0 X0 lit0_in lit0_one (hw _ (List.mem_of_getElem? (i := 6) rfl)) (own_wS Z a0 hw) lit0_lat lit0_len (by rw [eb]; exact N0) (by rw [eb]; exact O0.2) e0 (g := (mkF m 4 #[.val (.int n1), .val (.int x1), .val (.int x2)] [])) rfl (hb hby d1_4) (n := 0) lit0_sz (by decide) (by decide) (by decide)
    obtain ⟨hx, hZ, hown, hby, hml, hnm, hret, hlk⟩ := id Cc102
    have K102 := K0.ext E102
    have O102 := O0.ext E102
    refine Go.of (fun _ hr => st102 _ hr) ?_
    show Go p e s below _ _ _ _ T102 (mkF m 6 #[.val (.int n1), .val (.int x1), .val (.int x2)] [(.ref o102)])
    exact Go.retA X102 hx hlk B102 J102 e102 hret rfl rfl (hb hby d1_6) (by decide) (by decide) (fun vm_ hw_ => ⟨_, _, _, 0, (litI ""), rfl, (fun y hy => Nat.le_trans hnb (N0 y hy)), keep_ext K102, (fun hz => na102 hz), (fun hz => nt102 hz), Sy102.1, Sy102.2.2.1, Sy102.2.1, (by rw [show mkL n1 x1 x2 = [] from by simp [mkL, hb1_101]]; exact so_emp), Sy102.2.2.2⟩)
  · refine Go.of (fun _ hr => XS.ifYes X0.here hx rfl (pc0 := 1) (pc' := 7) rfl (hb hby d1_1) rfl ((if0 _ _).trans (feq hb1_101).2) (by decide) (by decide) hr) ?_
    show Go p e s below _ _ _ _ s₁ (mkF m 7 #[.val (.int n1), .val (.int x1), .val (.int x2)] [])
    refine Go.of (fun _ hr => XS.iloadN X0.here hx rfl (hb hby d1_7) rfl  hr) ?_
    show Go p e s below _ _ _ _ s₁ (mkF m 8 #[.val (.int n1), .val (.int x1), .val (.int x2)] [(.int n1)])
    refine Go.of (fun _ hr => XS.iconst X0.here hx rfl (hb hby d1_8) hr) ?_
    show Go p e s below _ _ _ _ s₁ (mkF m 9 #[.val (.int n1), .val (.int x1), .val (.int x2)] [(.int (1 : Int32)), (.int n1)])
    by_cases hb9_103 : n1 = (1 : Int32)
    · refine Go.of (fun _ hr => XS.icmpNo X0.here hx rfl (hb hby d1_9) rfl (teq hb9_103).2 hr) ?_
      show Go p e s below _ _ _ _ s₁ (mkF m 12 #[.val (.int n1), .val (.int x1), .val (.int x2)] [])
      refine Go.of (fun _ hr => XS.iloadN X0.here hx rfl (hb hby d1_12) rfl  hr) ?_
      show Go p e s below _ _ _ _ s₁ (mkF m 13 #[.val (.int n1), .val (.int x1), .val (.int x2)] [(.int x1)])
      obtain ⟨_, b104, T104, h104, L104, e104, Cc104, X104, B104, J104, g104, hQ104, st104⟩ := own_callS Cc B0 J0 X0 (hw _ (List.mem_of_getElem? (i := 184) rfl)) (hw _ (List.mem_of_getElem? (i := 185) rfl)) (hw _ (List.mem_of_getElem? (i := 7) rfl)) (hw _ (List.mem_of_getElem? (i := 186) rfl)) (by decide) (rm34 l Z a0 hw [] x1 zc _ h0 n0 O0 h0.size (own_ole O0) K0.1 S_D S_H S_L S_C hzc) e0 (g := (mkF m 13 #[.val (.int n1), .val (.int x1), .val (.int x2)] [(.int x1)])) rfl (by rw [hml]; rfl) (argsL := [(.int x1)]) (rest := []) (lenOf pd33 rfl) rfl (W := 0) (by show 2 * 0 + _ ≤ _; exact Nat.le_of_eq rfl) (hb hby d1_13) (by decide) (by decide) (by decide) (by decide)
      obtain ⟨r104, t104, kt104, cd104, bb104, rfl, Nq104, Eq104, R_r104, R_t104, Er104, Fv104, Fc104, So104, Vt104⟩ := hQ104
      have N104 := Fr.app N0 Nq104
      obtain ⟨hx, hZ, hown, hby, hml, hnm, hret, hlk⟩ := id Cc104
      have sz_r104 : h0.size ≤ r104 := Nat.le_trans K0.1 R_r104
      have fr_r104 : h0.size ≤ r104 := sz_r104
      have sz_t104 : h0.size ≤ t104 := Nat.le_trans K0.1 R_t104
      have fr_t104 : h0.size ≤ t104 := sz_t104
      have K104 := K0.ext Eq104
      have O104 := O0.ext Eq104
      refine Go.of st104 ?_
      show Go p e s below _ _ _ _ T104 (mkF m 16 #[.val (.int n1), .val (.int x1), .val (.int x2)] [(.ref r104)])
      exact Go.retA X104 hx hlk B104 J104 e104 hret rfl rfl (hb hby d1_16) (by decide) (by decide) (fun vm_ hw_ => ⟨_, _, _, cd104, bb104, rfl, (fun y hy => Nat.le_trans hnb (N104 y hy)), keep_ext K104, (J0.nms sz_r104), (J0.nms sz_t104), Er104, Fv104, Fc104, (by rw [show mkL n1 x1 x2 = [x1] from by simp [mkL, hb1_101, hb9_103]]; exact So104), Vt104⟩)
    · refine Go.of (fun _ hr => XS.icmpYes X0.here hx rfl (pc0 := 9) (pc' := 17) rfl (hb hby d1_9) rfl (feq hb9_103).2 (by decide) (by decide) hr) ?_
      show Go p e s below _ _ _ _ s₁ (mkF m 17 #[.val (.int n1), .val (.int x1), .val (.int x2)] [])
      obtain ⟨T105, h105, X105, e105, E105, A105, D105, -, st105⟩ := newO X0 hx hZ hown (hw _ (List.mem_of_getElem? (i := 251) rfl)) (hw _ (List.mem_of_getElem? (i := 8) rfl)) (hw _ (List.mem_of_getElem? (i := 7) rfl)) e0 (g := (mkF m 17 #[.val (.int n1), .val (.int x1), .val (.int x2)] [])) rfl (hb hby d1_17) (by decide) (by decide)
      obtain ⟨o105, g105⟩ : ∃ z, z = h0.size := ⟨_, rfl⟩
      rw [← g105] at A105 D105 st105
      have lt105 : o105 < h105.size := A105.lt
      have J105 := J0.add E105 g105 lt105
      have B105 := B0.mono E105.1
      have O105 := O0.ext E105
      have sz105 : h0.size ≤ o105 := Nat.le_trans K0.1 (Nat.le_of_eq g105.symm)
      have fr105 : h0.size ≤ o105 := sz105
      have K105 := K0.ext E105
      have F105_value : Fld Z h105 o105 "java/lang/String" "value" "[B" .null := D105 (Or.inr (hw _ (List.mem_of_getElem? (i := 10) rfl))) (ty := (.array .byte)) (by decide)
      have F105_coder : Fld Z h105 o105 "java/lang/String" "coder" "B" (.int (0 : Int32)) := D105 (Or.inr (hw _ (List.mem_of_getElem? (i := 11) rfl))) (ty := .byte) (by decide)
      refine Go.of (fun _ hr => st105 _ hr) ?_
      show Go p e s below _ _ _ _ T105 (mkF m 20 #[.val (.int n1), .val (.int x1), .val (.int x2)] [(.ref o105)])
      refine Go.of (fun _ hr => XS.dup X105.here hx rfl (hb hby d1_20) rfl rfl hr) ?_
      show Go p e s below _ _ _ _ T105 (mkF m 21 #[.val (.int n1), .val (.int x1), .val (.int x2)] [(.ref o105), (.ref o105)])
      refine Go.of (fun _ hr => XS.iconst X105.here hx rfl (hb hby d1_21) hr) ?_
      show Go p e s below _ _ _ _ T105 (mkF m 22 #[.val (.int n1), .val (.int x1), .val (.int x2)] [(.int (2 : Int32)), (.ref o105), (.ref o105)])
      obtain ⟨T106, h106, k106, X106, e106, E106, A106, st106⟩ := newP X105 hx hZ (hw _ (List.mem_of_getElem? (i := 252) rfl)) e105 (g := (mkF m 22 #[.val (.int n1), .val (.int x1), .val (.int x2)] [(.int (2 : Int32)), (.ref o105), (.ref o105)])) rfl (hb hby d1_22) rfl (by decide) (cap := 2) (by decide) (by decide) (by decide) (by decide)
      obtain ⟨o106, g106⟩ : ∃ z, z = h105.size := ⟨_, rfl⟩
      rw [← g106] at A106 st106
      have ne_o105_o106 : o105 ≠ o106 := Nat.ne_of_lt (Nat.lt_of_lt_of_le A105.lt (Nat.le_of_eq g106.symm))
      have V106 : Arv Z h106 o106 k106 .char (2 : Int32) [(.int (0 : Int32)), (.int (0 : Int32))] (.int (0 : Int32)) := (Arv.new A106 (by decide)).pad (pad_rep [] (.int (0 : Int32)) 2)
      have lt106 : o106 < h106.size := A106.lt
      have J106 := J105.add E106 g106 lt106
      have B106 := B105.mono E106.1
      have O106 := O105.ext E106
      have sz106 : h0.size ≤ o106 := Nat.le_trans K105.1 (Nat.le_of_eq g106.symm)
      have fr106 : h0.size ≤ o106 := sz106
      have K106 := K105.ext E106
      refine Go.of (fun _ hr => st106 _ hr) ?_
      show Go p e s below _ _ _ _ T106 (mkF m 24 #[.val (.int n1), .val (.int x1), .val (.int x2)] [(.ref o106), (.ref o105), (.ref o105)])
      refine Go.of (fun _ hr => XS.dup X106.here hx rfl (hb hby d1_24) rfl rfl hr) ?_
      show Go p e s below _ _ _ _ T106 (mkF m 25 #[.val (.int n1), .val (.int x1), .val (.int x2)] [(.ref o106), (.ref o106), (.ref o105), (.ref o105)])
      refine Go.of (fun _ hr => XS.iconst X106.here hx rfl (hb hby d1_25) hr) ?_
      show Go p e s below _ _ _ _ T106 (mkF m 26 #[.val (.int n1), .val (.int x1), .val (.int x2)] [(.int (0 : Int32)), (.ref o106), (.ref o106), (.ref o105), (.ref o105)])
      refine Go.of (fun _ hr => XS.iloadN X106.here hx rfl (hb hby d1_26) rfl  hr) ?_
      show Go p e s below _ _ _ _ T106 (mkF m 27 #[.val (.int n1), .val (.int x1), .val (.int x2)] [(.int x1), (.int (0 : Int32)), (.ref o106), (.ref o106), (.ref o105), (.ref o105)])
      obtain ⟨cl107, Ar107, q107, S107, N107_, H107, G107⟩ := id V106
      have hin107 : ¬ ((0 : Int32) < 0 ∨ cl107.slots.size ≤ ((0 : Int32)).toNatClampNeg) := inb_of S107 ⟨by decide, by decide⟩
      obtain ⟨T107, h107, X107, e107, W107, st107⟩ := stC X106 hx hZ e106 Ar107 (j := (0 : Int32)) hin107 (g := (mkF m 27 #[.val (.int n1), .val (.int x1), .val (.int x2)] [(.int x1), (.int (0 : Int32)), (.ref o106), (.ref o106), (.ref o105), (.ref o105)])) rfl rfl (hb hby d1_27)
      have W107' := W107
      rw [show nar .char x1 = x1 from (nar_c hq_x1.1 hq_x1.2)] at W107'
      have V107 : Arv Z h107 o106 k106 .char (2 : Int32) [(.int x1), (.int (0 : Int32))] (.int (0 : Int32)) := Arv.set Ar107 q107 S107 N107_ H107 G107 (fits_c hq_x1.1 hq_x1.2) W107' 0 rfl (by simp)
      have N107 := Fr.snoc X107 N0 fr106
      have J107 := J106.wr W107 (List.mem_cons_self ..)
      have B107 := B106.mono (Nat.le_of_eq W107.size.symm)
      have O107 := O106.wr W107 (Nat.le_trans (own_ole O0) fr106)
      have K107 := K106.wr W107 (Or.inr sz106)
      refine Go.of (fun _ hr => st107 _ hr) ?_
      show Go p e s below _ _ _ _ T107 (mkF m 28 #[.val (.int n1), .val (.int x1), .val (.int x2)] [(.ref o106), (.ref o105), (.ref o105)])
      refine Go.of (fun _ hr => XS.dup X107.here hx rfl (hb hby d1_28) rfl rfl hr) ?_
      show Go p e s below _ _ _ _ T107 (mkF m 29 #[.val (.int n1), .val (.int x1), .val (.int x2)] [(.ref o106), (.ref o106), (.ref o105), (.ref o105)])
      refine Go.of (fun _ hr => XS.iconst X107.here hx rfl (hb hby d1_29) hr) ?_
      show Go p e s below _ _ _ _ T107 (mkF m 30 #[.val (.int n1), .val (.int x1), .val (.int x2)] [(.int (1 : Int32)), (.ref o106), (.ref o106), (.ref o105), (.ref o105)])
      refine Go.of (fun _ hr => XS.iloadN X107.here hx rfl (hb hby d1_30) rfl  hr) ?_
      show Go p e s below _ _ _ _ T107 (mkF m 31 #[.val (.int n1), .val (.int x1), .val (.int x2)] [(.int x2), (.int (1 : Int32)), (.ref o106), (.ref o106), (.ref o105), (.ref o105)])
      obtain ⟨cl108, Ar108, q108, S108, N108_, H108, G108⟩ := id V107
      have hin108 : ¬ ((1 : Int32) < 0 ∨ cl108.slots.size ≤ ((1 : Int32)).toNatClampNeg) := inb_of S108 ⟨by decide, by decide⟩
      obtain ⟨T108, h108, X108, e108, W108, st108⟩ := stC X107 hx hZ e107 Ar108 (j := (1 : Int32)) hin108 (g := (mkF m 31 #[.val (.int n1), .val (.int x1), .val (.int x2)] [(.int x2), (.int (1 : Int32)), (.ref o106), (.ref o106), (.ref o105), (.ref o105)])) rfl rfl (hb hby d1_31)
      have W108' := W108
      rw [show nar .char x2 = x2 from (nar_c hq_x2.1 hq_x2.2)] at W108'
      have V108 : Arv Z h108 o106 k106 .char (2 : Int32) [(.int x1), (.int x2)] (.int (0 : Int32)) := Arv.set Ar108 q108 S108 N108_ H108 G108 (fits_c hq_x2.1 hq_x2.2) W108' 1 rfl (by simp)
      have N108 := Fr.snoc X108 N107 fr106
      have J108 := J107.wr W108 (List.mem_cons_self ..)
      have B108 := B107.mono (Nat.le_of_eq W108.size.symm)
      have O108 := O107.wr W108 (Nat.le_trans (own_ole O0) fr106)
      have K108 := K107.wr W108 (Or.inr sz106)
      refine Go.of (fun _ hr => st108 _ hr) ?_
      show Go p e s below _ _ _ _ T108 (mkF m 32 #[.val (.int n1), .val (.int x1), .val (.int x2)] [(.ref o106), (.ref o105), (.ref o105)])
      have f110 := (((A105.ext E106).wr W107).wr W108)
      have f111 := (((F105_value.ext E106).other W107 (Or.inl ne_o105_o106)).other W108 (Or.inl ne_o105_o106))
      have f112 := (((F105_coder.ext E106).other W107 (Or.inl ne_o105_o106)).other W108 (Or.inl ne_o105_o106))
      obtain ⟨_, b109, T109, h109, L109, e109, Cc109, X109, B109, J109, g109, hQ109, st109⟩ := own_callI Cc B108 J108 X108 rfl (hw _ (List.mem_of_getElem? (i := 253) rfl)) (hw _ (List.mem_of_getElem? (i := 254) rfl)) (hw _ (List.mem_of_getElem? (i := 7) rfl)) (hw _ (List.mem_of_getElem? (i := 255) rfl)) (by decide) (rm52 l Z a0 hw [] o105 o106 _ [x1, x2] _ _ zc _ h108 n0 O108 h0.size (own_ole O0) K108.1 fr105 (List.mem_cons_of_mem _ (List.mem_cons_self ..)) S_D S_H S_L (by simp) (by intro x hx; simp only [List.mem_cons, List.not_mem_nil, or_false] at hx; rcases hx with rfl | rfl <;> assumption) V108 (Ne.symm ne_o105_o106) f110 f111 f112 (show ¬ Int32.ofNat 2 = (0 : Int32) from by decide) S_C hzc) e108 (g := (mkF m 32 #[.val (.int n1), .val (.int x1), .val (.int x2)] [(.ref o106), (.ref o105), (.ref o105)])) rfl (by rw [hml]; rfl) (argsL := [(.ref o106)]) (rest := [(.ref o105)]) (lenOf pd34 rfl) rfl (W := 1) (by show 2 * 0 + _ ≤ _; exact Nat.le_of_eq rfl) (hb hby d1_32) (by decide) (by decide) (by decide) (by decide)
      obtain ⟨rfl, Nq109, Kq109, t109, kt109, cd109, bb109, nt109, Fv109, Fc109, So109, Vt109⟩ := hQ109
      have N109 := Fr.app N108 Nq109
      obtain ⟨hx, hZ, hown, hby, hml, hnm, hret, hlk⟩ := id Cc109
      have K109 := K108.trans Kq109 (allS (Or.inr sz105) all0)
      have O109 := O108.keep Kq109 (allS (Nat.le_trans (own_ole O0) fr105) all0)
      refine Go.of st109 ?_
      have nx_t109_o106 : t109 ≠ o106 := fun q => nt109 (by rw [q]; exact (List.mem_cons_self ..))
      have nx_t109_o105 : t109 ≠ o105 := fun q => nt109 (by rw [q]; exact (List.mem_cons_of_mem _ (List.mem_cons_self ..)))
      show Go p e s below _ _ _ _ T109 (mkF m 35 #[.val (.int n1), .val (.int x1), .val (.int x2)] [(.ref o105)])
      have f113 := (f110.keep Kq109)
      exact Go.retA X109 hx hlk B109 (J109.sub fun x hx => (List.mem_cons_of_mem _ (List.mem_cons_of_mem _ hx))) e109 hret rfl rfl (hb hby d1_35) (by decide) (by decide) (fun vm_ hw_ => ⟨_, _, _, cd109, bb109, rfl, (fun y hy => Nat.le_trans hnb (N109 y hy)), keep_ext K109, (J0.nms sz105), (fun hz => nt109 (List.mem_cons_of_mem _ (List.mem_cons_of_mem _ hz))), f113, Fv109, Fc109, (by rw [show mkL n1 x1 x2 = [x1, x2] from by simp [mkL, hb1_101, hb9_103]]; exact So109), Vt109⟩)

theorem pn8 : plainName "java/util/Objects" = true := by first | (simp [plainName, overriddenIn]; done) | decide +kernel
theorem d4_0 : decode jdk_31_method_11_code 0 = .ok (.aload_n 0, 1) := by decide +kernel
theorem d4_1 : decode jdk_31_method_11_code 1 = .ok (.ifnonnull 12, 3) := by decide +kernel
theorem d4_13 : decode jdk_31_method_11_code 13 = .ok (.aload_n 0, 1) := by decide +kernel
theorem d4_14 : decode jdk_31_method_11_code 14 = .ok (.areturn, 1) := by decide +kernel
set_option maxRecDepth 65536 in
set_option maxHeartbeats 40000000 in
theorem rm4 (l : Launch) (Z : State) (a0 : Array Value) (hw : ∀ d ∈ tables_1, d.before a0 Z = true) (ws : List Jvm.Cond) (x1 x2 : Addr) (ms : List Addr) (h0 : Heap) (n0 : Nat) (O0 : Old Z n0 h0) (nb : Nat) (hb0 : n0 ≤ nb) (hnb : nb ≤ h0.size) :
    Con l Z ms (⟨"java/util/Objects", "requireNonNull", "(Ljava/lang/Object;Ljava/lang/String;)Ljava/lang/Object;"⟩ : MethodName) jdk_31_method_11_code 2 (some (.object "java/lang/Object")) ws ({ frames := 0, cells := 0, slots := 0, locals := 0 } : Room) #[(.ref x1), (.ref x2)] h0 (fun v vm h L => v = some (.ref x1) ∧ Fr nb L ∧ h = h0) := by
  refine Con.mk (plainFor_of_name pn8) ?_
  intro p e s m below meth c s₁ Cc X0 e0 eb J0 B0 M0
  obtain ⟨hx, hZ, hown, hby, hml, hnm, hret, hlk⟩ := id Cc
  have N0 := Fr.nil h0.size
  have K0 := Keep.refl h0 []
  show Go p e s below _ _ _ _ s₁ (mkF m 0 #[.val (.ref x1), .val (.ref x2)] [])
  refine Go.of (fun _ hr => XS.aloadN X0.here hx rfl (hb hby d4_0) rfl rfl hr) ?_
  show Go p e s below _ _ _ _ s₁ (mkF m 1 #[.val (.ref x1), .val (.ref x2)] [(.ref x1)])
  refine Go.of (fun _ hr => XS.ifnonnullYes X0.here hx rfl (pc0 := 1) (pc' := 13) rfl (hb hby d4_1) rfl (by decide) (by decide) hr) ?_
  show Go p e s below _ _ _ _ s₁ (mkF m 13 #[.val (.ref x1), .val (.ref x2)] [])
  refine Go.of (fun _ hr => XS.aloadN X0.here hx rfl (hb hby d4_13) rfl rfl hr) ?_
  show Go p e s below _ _ _ _ s₁ (mkF m 14 #[.val (.ref x1), .val (.ref x2)] [(.ref x1)])
  exact Go.retA X0 hx hlk B0 J0 e0 hret rfl rfl (hb hby d4_14) (by decide) (by decide) (fun vm_ hw_ => ⟨rfl, (fun y hy => Nat.le_trans hnb (N0 y hy)), rfl⟩)

theorem pn9 : plainName "com/example/dispatcher/dispatcher/web/FieldError" = true := by first | (simp [plainName, overriddenIn]; done) | decide +kernel
theorem d2_0 : decode prog_71_method_1_code 0 = .ok (.aload_n 0, 1) := by decide +kernel
theorem d2_1 : decode prog_71_method_1_code 1 = .ok (.invokespecial 1, 3) := by decide +kernel
theorem d2_4 : decode prog_71_method_1_code 4 = .ok (.aload_n 0, 1) := by decide +kernel
theorem d2_5 : decode prog_71_method_1_code 5 = .ok (.aload_n 1, 1) := by decide +kernel
theorem d2_6 : decode prog_71_method_1_code 6 = .ok (.ldc 7, 2) := by decide +kernel
theorem d2_8 : decode prog_71_method_1_code 8 = .ok (.invokestatic 9, 3) := by decide +kernel
theorem pd35 : parseMethodDescriptor "(Ljava/lang/Object;Ljava/lang/String;)Ljava/lang/Object;" = some ⟨[(.object "java/lang/Object"), (.object "java/lang/String")], some (.object "java/lang/Object")⟩ := by decide +kernel
theorem d2_11 : decode prog_71_method_1_code 11 = .ok (.checkcast 15, 3) := by decide +kernel
theorem d2_14 : decode prog_71_method_1_code 14 = .ok (.putfield 17, 3) := by decide +kernel
theorem d2_17 : decode prog_71_method_1_code 17 = .ok (.aload_n 0, 1) := by decide +kernel
theorem d2_18 : decode prog_71_method_1_code 18 = .ok (.aload_n 2, 1) := by decide +kernel
theorem d2_19 : decode prog_71_method_1_code 19 = .ok (.ldc 22, 2) := by decide +kernel
theorem d2_21 : decode prog_71_method_1_code 21 = .ok (.invokestatic 9, 3) := by decide +kernel
theorem d2_24 : decode prog_71_method_1_code 24 = .ok (.checkcast 15, 3) := by decide +kernel
theorem d2_27 : decode prog_71_method_1_code 27 = .ok (.putfield 24, 3) := by decide +kernel
theorem d2_30 : decode prog_71_method_1_code 30 = .ok (.return_, 1) := by decide +kernel
set_option maxRecDepth 65536 in
set_option maxHeartbeats 40000000 in
theorem rm2 (l : Launch) (Z : State) (a0 : Array Value) (hw : ∀ d ∈ tables_1, d.before a0 Z = true) (ws : List Jvm.Cond) (a1 x1 x2 : Addr) (u1 u2 : Value) (ms : List Addr) (h0 : Heap) (n0 : Nat) (O0 : Old Z n0 h0) (nb : Nat) (hb0 : n0 ≤ nb) (hnb : nb ≤ h0.size) (fr_a1 : nb ≤ a1) (hm_a1 : a1 ∈ ms) (E1 : Exa Z h0 a1 "com/example/dispatcher/dispatcher/web/FieldError") (F1 : Fld Z h0 a1 "com/example/dispatcher/dispatcher/web/FieldError" "field" "Ljava/lang/String;" u1) (F2 : Fld Z h0 a1 "com/example/dispatcher/dispatcher/web/FieldError" "message" "Ljava/lang/String;" u2) (E3 : Exa Z h0 x1 "java/lang/String") (E4 : Exa Z h0 x2 "java/lang/String") :
    Con l Z ms (⟨"com/example/dispatcher/dispatcher/web/FieldError", "<init>", "(Ljava/lang/String;Ljava/lang/String;)V"⟩ : MethodName) prog_71_method_1_code 3 none ws ({ frames := 2, cells := 4, slots := 56, locals := 15 } : Room) #[(.ref a1), (.ref x1), (.ref x2)] h0 (fun v vm h L => v = none ∧ Fr nb L ∧ Keep h0 h [a1] ∧ Fld Z h a1 "com/example/dispatcher/dispatcher/web/FieldError" "field" "Ljava/lang/String;" (.ref x1) ∧ Fld Z h a1 "com/example/dispatcher/dispatcher/web/FieldError" "message" "Ljava/lang/String;" (.ref x2)) := by
  refine Con.mk (plainFor_of_name pn9) ?_
  intro p e s m below meth c s₁ Cc X0 e0 eb J0 B0 M0
  obtain ⟨hx, hZ, hown, hby, hml, hnm, hret, hlk⟩ := id Cc
  have N0 := Fr.nil nb
  have K0 := Keep.refl h0 [a1]
  show Go p e s below _ _ _ _ s₁ (mkF m 0 #[.val (.ref a1), .val (.ref x1), .val (.ref x2)] [])
  refine Go.of (fun _ hr => XS.aloadN X0.here hx rfl (hb hby d2_0) rfl rfl hr) ?_
  show Go p e s below _ _ _ _ s₁ (mkF m 1 #[.val (.ref a1), .val (.ref x1), .val (.ref x2)] [(.ref a1)])
  obtain ⟨T101, X101, e101, st101⟩ := initO X0 hx hZ hown (hw _ (List.mem_of_getElem? (i := 20) rfl)) (hw _ (List.mem_of_getElem? (i := 21) rfl)) (hw _ (List.mem_of_getElem? (i := 22) rfl)) e0 (g := (mkF m 1 #[.val (.ref a1), .val (.ref x1), .val (.ref x2)] [(.ref a1)])) rfl (by rw [hml]; rfl) rfl (hb hby d2_1) (by decide) (W := 0) (by show 2 * 0 + _ ≤ _; exact Nat.le_of_eq rfl) (by decide)
  refine Go.of (fun _ hr => st101 _ hr) ?_
  show Go p e s below _ _ _ _ T101 (mkF m 4 #[.val (.ref a1), .val (.ref x1), .val (.ref x2)] [])
  refine Go.of (fun _ hr => XS.aloadN X101.here hx rfl (hb hby d2_4) rfl rfl hr) ?_
  show Go p e s below _ _ _ _ T101 (mkF m 5 #[.val (.ref a1), .val (.ref x1), .val (.ref x2)] [(.ref a1)])
  refine Go.of (fun _ hr => XS.aloadN X101.here hx rfl (hb hby d2_5) rfl rfl hr) ?_
  show Go p e s below _ _ _ _ T101 (mkF m 6 #[.val (.ref a1), .val (.ref x1), .val (.ref x2)] [(.ref x1), (.ref a1)])
  obtain ⟨o102, b102, T102, h102, e102, Cc102, X102, B102, J102, E102, st102⟩ := own_ldcO Cc B0 J0 X101 (by decide +kernel) (hw _ (List.mem_of_getElem? (i := 23) rfl)) (own_wS Z a0 hw) e101 (g := (mkF m 6 #[.val (.ref a1), .val (.ref x1), .val (.ref x2)] [(.ref x1), (.ref a1)])) rfl (hb hby d2_6) (n := 20) (by decide) (by decide) (by decide) (by decide)
  obtain ⟨hx, hZ, hown, hby, hml, hnm, hret, hlk⟩ := id Cc102
  have K102 := K0.ext E102
  have O102 := O0.ext E102
  refine Go.of (fun _ hr => st102 _ hr) ?_
  show Go p e s below _ _ _ _ T102 (mkF m 8 #[.val (.ref a1), .val (.ref x1), .val (.ref x2)] [(.ref o102), (.ref x1), (.ref a1)])
  obtain ⟨_, b103, T103, h103, L103, e103, Cc103, X103, B103, J103, g103, hQ103, st103⟩ := own_callS Cc102 B102 J102 X102 (hw _ (List.mem_of_getElem? (i := 24) rfl)) (hw _ (List.mem_of_getElem? (i := 25) rfl)) (hw _ (List.mem_of_getElem? (i := 26) rfl)) (hw _ (List.mem_of_getElem? (i := 27) rfl)) (by decide) (rm4 l Z a0 hw [] x1 o102 _ h102 n0 O102 h0.size (own_ole O0) K102.1) e102 (g := (mkF m 8 #[.val (.ref a1), .val (.ref x1), .val (.ref x2)] [(.ref o102), (.ref x1), (.ref a1)])) rfl (by rw [hml]; rfl) (argsL := [(.ref x1), (.ref o102)]) (rest := [(.ref a1)]) (lenOf pd35 rfl) rfl (W := 1) (by show 2 * 0 + _ ≤ _; exact Nat.le_of_eq rfl) (hb hby d2_8) (by decide) (by decide) (by decide) (by decide)
  obtain ⟨rfl, Nq103, hh103⟩ := hQ103
  have N103 := Fr.app N0 (show Fr nb _ from fun y hy => Nat.le_trans hnb (Nq103 y hy))
  have NS103 := Fr.app (Fr.nil _) Nq103
  obtain ⟨hx, hZ, hown, hby, hml, hnm, hret, hlk⟩ := id Cc103
  rw [hh103] at e103 B103 J103
  refine Go.of st103 ?_
  show Go p e s below _ _ _ _ T103 (mkF m 11 #[.val (.ref a1), .val (.ref x1), .val (.ref x2)] [(.ref x1), (.ref a1)])
  have f105 := (E3.ext E102)
  obtain ⟨T104, X104, e104, st104⟩ := castY X103 hx hZ hown (hw _ (List.mem_of_getElem? (i := 28) rfl)) e103 (Ins.self f105) (g := (mkF m 11 #[.val (.ref a1), .val (.ref x1), .val (.ref x2)] [(.ref x1), (.ref a1)])) rfl rfl (hb hby d2_11)
  refine Go.of (fun _ hr => st104 _ hr) ?_
  show Go p e s below _ _ _ _ T104 (mkF m 14 #[.val (.ref a1), .val (.ref x1), .val (.ref x2)] [(.ref x1), (.ref a1)])
  have f107 := (F1.ext E102)
  have f108 := (E1.ext E102)
  obtain ⟨T106, h106, X106, e106, W106, st106⟩ := putF X104 hx hZ hown (host := "") (Or.inl (hw _ (List.mem_of_getElem? (i := 30) rfl))) Via.refl e104 f107 f108 (Or.inr ⟨(hw _ (List.mem_of_getElem? (i := 31) rfl)), rfl, hnm⟩) (hw _ (List.mem_of_getElem? (i := 15) rfl)) (ty := (.object "java/lang/String")) (by decide) rfl rfl (g := (mkF m 14 #[.val (.ref a1), .val (.ref x1), .val (.ref x2)] [(.ref x1), (.ref a1)])) rfl rfl (hb hby d2_14)
  have N106 := Fr.snoc X106 N103 fr_a1
  have J106 := J103.wr W106 hm_a1
  have B106 := B103.mono (Nat.le_of_eq W106.size.symm)
  have O106 := O102.wr W106 (Nat.le_trans hb0 fr_a1)
  have K106 := K102.wr W106 (Or.inl (List.mem_of_getElem? (i := 0) rfl))
  have Fw106 := f107.same W106
  refine Go.of (fun _ hr => st106 _ hr) ?_
  show Go p e s below _ _ _ _ T106 (mkF m 17 #[.val (.ref a1), .val (.ref x1), .val (.ref x2)] [])
  refine Go.of (fun _ hr => XS.aloadN X106.here hx rfl (hb hby d2_17) rfl rfl hr) ?_
  show Go p e s below _ _ _ _ T106 (mkF m 18 #[.val (.ref a1), .val (.ref x1), .val (.ref x2)] [(.ref a1)])
  refine Go.of (fun _ hr => XS.aloadN X106.here hx rfl (hb hby d2_18) rfl rfl hr) ?_
  show Go p e s below _ _ _ _ T106 (mkF m 19 #[.val (.ref a1), .val (.ref x1), .val (.ref x2)] [(.ref x2), (.ref a1)])
  obtain ⟨o109, b109, T109, h109, e109, Cc109, X109, B109, J109, E109, st109⟩ := own_ldcO Cc103 B106 J106 X106 (by decide +kernel) (hw _ (List.mem_of_getElem? (i := 32) rfl)) (own_wS Z a0 hw) e106 (g := (mkF m 19 #[.val (.ref a1), .val (.ref x1), .val (.ref x2)] [(.ref x2), (.ref a1)])) rfl (hb hby d2_19) (n := 28) (by decide) (by decide) (by decide) (by decide)
  obtain ⟨hx, hZ, hown, hby, hml, hnm, hret, hlk⟩ := id Cc109
  have K109 := K106.ext E109
  have O109 := O106.ext E109
  refine Go.of (fun _ hr => st109 _ hr) ?_
  show Go p e s below _ _ _ _ T109 (mkF m 21 #[.val (.ref a1), .val (.ref x1), .val (.ref x2)] [(.ref o109), (.ref x2), (.ref a1)])
  obtain ⟨_, b110, T110, h110, L110, e110, Cc110, X110, B110, J110, g110, hQ110, st110⟩ := own_callS Cc109 B109 J109 X109 (hw _ (List.mem_of_getElem? (i := 24) rfl)) (hw _ (List.mem_of_getElem? (i := 25) rfl)) (hw _ (List.mem_of_getElem? (i := 26) rfl)) (hw _ (List.mem_of_getElem? (i := 27) rfl)) (by decide) (rm4 l Z a0 hw [] x2 o109 _ h109 n0 O109 h0.size (own_ole O0) K109.1) e109 (g := (mkF m 21 #[.val (.ref a1), .val (.ref x1), .val (.ref x2)] [(.ref o109), (.ref x2), (.ref a1)])) rfl (by rw [hml]; rfl) (argsL := [(.ref x2), (.ref o109)]) (rest := [(.ref a1)]) (lenOf pd35 rfl) rfl (W := 1) (by show 2 * 0 + _ ≤ _; exact Nat.le_of_eq rfl) (hb hby d2_21) (by decide) (by decide) (by decide) (by decide)
  obtain ⟨rfl, Nq110, hh110⟩ := hQ110
  have N110 := Fr.app N106 (show Fr nb _ from fun y hy => Nat.le_trans hnb (Nq110 y hy))
  obtain ⟨hx, hZ, hown, hby, hml, hnm, hret, hlk⟩ := id Cc110
  rw [hh110] at e110 B110 J110
  refine Go.of st110 ?_
  show Go p e s below _ _ _ _ T110 (mkF m 24 #[.val (.ref a1), .val (.ref x1), .val (.ref x2)] [(.ref x2), (.ref a1)])
  have f112 := (((E4.ext E102).wr W106).ext E109)
  obtain ⟨T111, X111, e111, st111⟩ := castY X110 hx hZ hown (hw _ (List.mem_of_getElem? (i := 28) rfl)) e110 (Ins.self f112) (g := (mkF m 24 #[.val (.ref a1), .val (.ref x1), .val (.ref x2)] [(.ref x2), (.ref a1)])) rfl rfl (hb hby d2_24)
  refine Go.of (fun _ hr => st111 _ hr) ?_
  show Go p e s below _ _ _ _ T111 (mkF m 27 #[.val (.ref a1), .val (.ref x1), .val (.ref x2)] [(.ref x2), (.ref a1)])
  have f114 := (((F2.ext E102).other W106 (Or.inr (slot_ne (Or.inr (hw _ (List.mem_of_getElem? (i := 34) rfl))) (Or.inr (hw _ (List.mem_of_getElem? (i := 31) rfl))) (by decide) (t := (.object "java/lang/String")) (t' := (.object "java/lang/String")) (by decide) (by decide)))).ext E109)
  have f115 := ((f108.wr W106).ext E109)
  obtain ⟨T113, h113, X113, e113, W113, st113⟩ := putF X111 hx hZ hown (host := "") (Or.inl (hw _ (List.mem_of_getElem? (i := 33) rfl))) Via.refl e111 f114 f115 (Or.inr ⟨(hw _ (List.mem_of_getElem? (i := 34) rfl)), rfl, hnm⟩) (hw _ (List.mem_of_getElem? (i := 15) rfl)) (ty := (.object "java/lang/String")) (by decide) rfl rfl (g := (mkF m 27 #[.val (.ref a1), .val (.ref x1), .val (.ref x2)] [(.ref x2), (.ref a1)])) rfl rfl (hb hby d2_27)
  have N113 := Fr.snoc X113 N110 fr_a1
  have J113 := J110.wr W113 hm_a1
  have B113 := B110.mono (Nat.le_of_eq W113.size.symm)
  have O113 := O109.wr W113 (Nat.le_trans hb0 fr_a1)
  have K113 := K109.wr W113 (Or.inl (List.mem_of_getElem? (i := 0) rfl))
  have Fw113 := f114.same W113
  refine Go.of (fun _ hr => st113 _ hr) ?_
  show Go p e s below _ _ _ _ T113 (mkF m 30 #[.val (.ref a1), .val (.ref x1), .val (.ref x2)] [])
  have f116 := ((Fw106.ext E109).other W113 (Or.inr (slot_ne (Or.inr (hw _ (List.mem_of_getElem? (i := 31) rfl))) (Or.inr (hw _ (List.mem_of_getElem? (i := 34) rfl))) (by decide) (t := (.object "java/lang/String")) (t' := (.object "java/lang/String")) (by decide) (by decide))))
  exact Go.retV X113 hx hlk B113 J113 e113 hret (hb hby d2_30) (by decide) (by decide) (fun vm_ hw_ => ⟨rfl, N113, K113, f116, Fw113⟩)

theorem d5_0 : decode prog_71_method_4_code 0 = .ok (.new 26, 3) := by decide +kernel
theorem d5_3 : decode prog_71_method_4_code 3 = .ok (.dup, 1) := by decide +kernel
theorem d5_4 : decode prog_71_method_4_code 4 = .ok (.invokespecial 28, 3) := by decide +kernel
theorem d5_7 : decode prog_71_method_4_code 7 = .ok (.aload_n 0, 1) := by decide +kernel
theorem d5_8 : decode prog_71_method_4_code 8 = .ok (.getfield 17, 3) := by decide +kernel
theorem d5_11 : decode prog_71_method_4_code 11 = .ok (.invokevirtual 29, 3) := by decide +kernel
theorem pd36 : parseMethodDescriptor "(Ljava/lang/String;)Ljava/lang/StringBuilder;" = some ⟨[(.object "java/lang/String")], some (.object "java/lang/StringBuilder")⟩ := by decide +kernel
theorem d5_14 : decode prog_71_method_4_code 14 = .ok (.ldc 33, 2) := by decide +kernel
theorem d5_16 : decode prog_71_method_4_code 16 = .ok (.invokevirtual 29, 3) := by decide +kernel
theorem d5_19 : decode prog_71_method_4_code 19 = .ok (.aload_n 0, 1) := by decide +kernel
theorem d5_20 : decode prog_71_method_4_code 20 = .ok (.getfield 24, 3) := by decide +kernel
theorem d5_23 : decode prog_71_method_4_code 23 = .ok (.invokevirtual 29, 3) := by decide +kernel
theorem d5_26 : decode prog_71_method_4_code 26 = .ok (.invokevirtual 35, 3) := by decide +kernel
theorem pd37 : parseMethodDescriptor "()Ljava/lang/String;" = some ⟨[], some (.object "java/lang/String")⟩ := by decide +kernel
theorem d5_29 : decode prog_71_method_4_code 29 = .ok (.areturn, 1) := by decide +kernel
set_option maxRecDepth 65536 in
set_option maxHeartbeats 40000000 in
theorem rm5 (l : Launch) (Z : State) (a0 : Array Value) (hw : ∀ d ∈ tables_1, d.before a0 Z = true) (ws : List Jvm.Cond) (a1 s1 t1 s2 t2 : Addr) (k1 k2 : ClassId) (e1 e2 : List Int32) (cd1 cd2 : Int32) (bb1 bb2 : List Int32) (zc : Int32) (ms : List Addr) (h0 : Heap) (n0 : Nat) (O0 : Old Z n0 h0) (nb : Nat) (hb0 : n0 ≤ nb) (hnb : nb ≤ h0.size) (fs : Value) (hfs : fs = .null ∨ ∃ a, fs = .ref a) (S_F : Sta Z Z.heap "jdk/internal/util/Preconditions" "SIOOBE_FORMATTER" "Ljava/util/function/BiFunction;" fs) (S_D : Sta Z Z.heap "java/lang/StringUTF16" "$assertionsDisabled" "Z" (.int 1)) (S_H : Sta Z Z.heap "java/lang/StringUTF16" "HI_BYTE_SHIFT" "I" (.int 0)) (S_L : Sta Z Z.heap "java/lang/StringUTF16" "LO_BYTE_SHIFT" "I" (.int 8)) (Ff : Fld Z h0 a1 "com/example/dispatcher/dispatcher/web/FieldError" "field" "Ljava/lang/String;" (.ref s1)) (Fm : Fld Z h0 a1 "com/example/dispatcher/dispatcher/web/FieldError" "message" "Ljava/lang/String;" (.ref s2)) (Es1 : Exa Z h0 s1 "java/lang/String") (Fv1 : Fld Z h0 s1 "java/lang/String" "value" "[B" (.ref t1)) (Fc1 : Fld Z h0 s1 "java/lang/String" "coder" "B" (.int cd1)) (So1 : StrOf e1 cd1 bb1) (V1 : Arv Z h0 t1 k1 .byte (Int32.ofNat bb1.length) (bb1.map Value.int) (.int 0)) (hn1 : e1.length ≤ 2) (hr1 : ∀ x ∈ e1, rng16 x) (Es2 : Exa Z h0 s2 "java/lang/String") (Fv2 : Fld Z h0 s2 "java/lang/String" "value" "[B" (.ref t2)) (Fc2 : Fld Z h0 s2 "java/lang/String" "coder" "B" (.int cd2)) (So2 : StrOf e2 cd2 bb2) (V2 : Arv Z h0 t2 k2 .byte (Int32.ofNat bb2.length) (bb2.map Value.int) (.int 0)) (hn2 : e2.length ≤ 2) (hr2 : ∀ x ∈ e2, rng16 x) (S_C : Sta Z Z.heap "java/lang/String" "COMPACT_STRINGS" "Z" (.int zc)) (hzc : ¬ zc = 0) :
    Con l Z ms (⟨"com/example/dispatcher/dispatcher/web/FieldError", "toString", "()Ljava/lang/String;"⟩ : MethodName) prog_71_method_4_code 1 (some (.object "java/lang/String")) ws ({ frames := 10, cells := 9, slots := 164, locals := 143 } : Room) #[(.ref a1)] h0 (fun v vm h L => ∃ r t k cd bb, v = some (.ref r) ∧ Fr nb L ∧ Ext h0 h ∧ h0.size ≤ r ∧ h0.size ≤ t ∧ Exa Z h r "java/lang/String" ∧ Fld Z h r "java/lang/String" "value" "[B" (.ref t) ∧ Fld Z h r "java/lang/String" "coder" "B" (.int cd) ∧ StrOf (e1 ++ [58, 32] ++ e2) cd bb ∧ Arv Z h t k .byte (Int32.ofNat bb.length) (bb.map Value.int) (.int 0)) := by
  have L1 : ([] ++ e1).length = e1.length := rfl
  have L2 : ([] ++ e1 ++ [(58 : Int32), 32]).length = e1.length + 2 := by rw [List.length_append]; rfl
  have L3 : ([] ++ e1 ++ [(58 : Int32), 32] ++ e2).length = e1.length + 2 + e2.length := by rw [List.length_append, L2]
  refine Con.mk (plainFor_of_name pn9) ?_
  intro p e s m below meth c s₁ Cc X0 e0 eb J0 B0 M0
  obtain ⟨hx, hZ, hown, hby, hml, hnm, hret, hlk⟩ := id Cc
  have N0 := Fr.nil h0.size
  have K0 := Keep.refl h0 []
  show Go p e s below _ _ _ _ s₁ (mkF m 0 #[.val (.ref a1)] [])
  obtain ⟨T101, h101, X101, e101, E101, A101, D101, -, st101⟩ := newO X0 hx hZ hown (hw _ (List.mem_of_getElem? (i := 40) rfl)) (hw _ (List.mem_of_getElem? (i := 41) rfl)) (hw _ (List.mem_of_getElem? (i := 42) rfl)) e0 (g := (mkF m 0 #[.val (.ref a1)] [])) rfl (hb hby d5_0) (by decide) (by decide)
  obtain ⟨o101, g101⟩ : ∃ z, z = h0.size := ⟨_, rfl⟩
  rw [← g101] at A101 D101 st101
  have ne_a1_o101 : a1 ≠ o101 := Nat.ne_of_lt (Nat.lt_of_lt_of_le Ff.lt (Nat.le_of_eq g101.symm))
  have ne_s1_o101 : s1 ≠ o101 := Nat.ne_of_lt (Nat.lt_of_lt_of_le Es1.lt (Nat.le_of_eq g101.symm))
  have ne_t1_o101 : t1 ≠ o101 := Nat.ne_of_lt (Nat.lt_of_lt_of_le V1.lt (Nat.le_of_eq g101.symm))
  have ne_s2_o101 : s2 ≠ o101 := Nat.ne_of_lt (Nat.lt_of_lt_of_le Es2.lt (Nat.le_of_eq g101.symm))
  have ne_t2_o101 : t2 ≠ o101 := Nat.ne_of_lt (Nat.lt_of_lt_of_le V2.lt (Nat.le_of_eq g101.symm))
  have lt101 : o101 < h101.size := A101.lt
  have J101 := J0.add E101 g101 lt101
  have B101 := B0.mono E101.1
  have O101 := O0.ext E101
  have sz101 : h0.size ≤ o101 := Nat.le_trans K0.1 (Nat.le_of_eq g101.symm)
  have fr101 : h0.size ≤ o101 := sz101
  have K101 := K0.ext E101
  have F101_value : Fld Z h101 o101 "java/lang/AbstractStringBuilder" "value" "[B" .null := D101 (Or.inl (hw _ (List.mem_of_getElem? (i := 55) rfl))) (ty := (.array .byte)) (by decide)
  have F101_coder : Fld Z h101 o101 "java/lang/AbstractStringBuilder" "coder" "B" (.int (0 : Int32)) := D101 (Or.inl (hw _ (List.mem_of_getElem? (i := 57) rfl))) (ty := .byte) (by decide)
  have F101_count : Fld Z h101 o101 "java/lang/AbstractStringBuilder" "count" "I" (.int (0 : Int32)) := D101 (Or.inl (hw _ (List.mem_of_getElem? (i := 82) rfl))) (ty := .int) (by decide)
  have F101_maybeLatin1 : Fld Z h101 o101 "java/lang/AbstractStringBuilder" "maybeLatin1" "Z" (.int (0 : Int32)) := D101 (Or.inl (hw _ (List.mem_of_getElem? (i := 240) rfl))) (ty := .boolean) (by decide)
  refine Go.of (fun _ hr => st101 _ hr) ?_
  show Go p e s below _ _ _ _ T101 (mkF m 3 #[.val (.ref a1)] [(.ref o101)])
  refine Go.of (fun _ hr => XS.dup X101.here hx rfl (hb hby d5_3) rfl rfl hr) ?_
  show Go p e s below _ _ _ _ T101 (mkF m 4 #[.val (.ref a1)] [(.ref o101), (.ref o101)])
  obtain ⟨_, b102, T102, h102, L102, e102, Cc102, X102, B102, J102, g102, hQ102, st102⟩ := own_callI Cc B101 J101 X101 rfl (hw _ (List.mem_of_getElem? (i := 43) rfl)) (hw _ (List.mem_of_getElem? (i := 44) rfl)) (hw _ (List.mem_of_getElem? (i := 42) rfl)) (hw _ (List.mem_of_getElem? (i := 45) rfl)) (by decide) (rm6 l Z a0 hw [] o101 _ _ zc _ h101 n0 O101 h0.size (own_ole O0) K101.1 fr101 (List.mem_cons_self ..) A101 F101_value F101_coder F101_count F101_maybeLatin1 S_C hzc) e101 (g := (mkF m 4 #[.val (.ref a1)] [(.ref o101), (.ref o101)])) rfl (by rw [hml]; rfl) (argsL := []) (rest := [(.ref o101)]) (lenOf pd22 rfl) rfl (W := 1) (by show 2 * 0 + _ ≤ _; exact Nat.le_of_eq rfl) (hb hby d5_4) (by decide) (by decide) (by decide) (by decide)
  have f103 := (Ff.ext E101)
  have f104 := (Es1.ext E101)
  have f105 := (V1.ext E101)
  have f106 := (Es2.ext E101)
  have f107 := (V2.ext E101)
  obtain ⟨rfl, Nq102, Kq102, v102, kv102, R_v102, Gv102, Gc102, Gn102, Gm102, W102_, Jv102⟩ := hQ102
  have N102 := Fr.app N0 Nq102
  obtain ⟨hx, hZ, hown, hby, hml, hnm, hret, hlk⟩ := id Cc102
  have sz_v102 : h0.size ≤ v102 := Nat.le_trans K101.1 R_v102
  have fr_v102 : h0.size ≤ v102 := sz_v102
  have ne_a1_v102 : a1 ≠ v102 := Nat.ne_of_lt (Nat.lt_of_lt_of_le f103.lt R_v102)
  have ne_s1_v102 : s1 ≠ v102 := Nat.ne_of_lt (Nat.lt_of_lt_of_le f104.lt R_v102)
  have ne_t1_v102 : t1 ≠ v102 := Nat.ne_of_lt (Nat.lt_of_lt_of_le f105.lt R_v102)
  have ne_s2_v102 : s2 ≠ v102 := Nat.ne_of_lt (Nat.lt_of_lt_of_le f106.lt R_v102)
  have ne_t2_v102 : t2 ≠ v102 := Nat.ne_of_lt (Nat.lt_of_lt_of_le f107.lt R_v102)
  have ne_o101_v102 : o101 ≠ v102 := Nat.ne_of_lt (Nat.lt_of_lt_of_le A101.lt R_v102)
  have K102 := K101.trans Kq102 (allS (Or.inr sz101) all0)
  have O102 := O101.keep Kq102 (allS (Nat.le_trans (own_ole O0) fr101) all0)
  refine Go.of st102 ?_
  show Go p e s below _ _ _ _ T102 (mkF m 7 #[.val (.ref a1)] [(.ref o101)])
  refine Go.of (fun _ hr => XS.aloadN X102.here hx rfl (hb hby d5_7) rfl rfl hr) ?_
  show Go p e s below _ _ _ _ T102 (mkF m 8 #[.val (.ref a1)] [(.ref a1), (.ref o101)])
  have f109 := (f103.keep Kq102 (ninS ne_a1_o101 nin0))
  obtain ⟨T108, X108, e108, st108⟩ := getF X102 hx hZ hown (host := "") (Or.inl (hw _ (List.mem_of_getElem? (i := 30) rfl))) Via.refl e102 f109 (g := (mkF m 8 #[.val (.ref a1)] [(.ref a1), (.ref o101)])) rfl rfl (hb hby d5_8)
  refine Go.of (fun _ hr => st108 _ hr) ?_
  show Go p e s below _ _ _ _ T108 (mkF m 11 #[.val (.ref a1)] [(.ref s1), (.ref o101)])
  have f111 := (A101.keep Kq102)
  have f112 := (f104.keep Kq102)
  have f113 := ((Fv1.ext E101).keep Kq102 (ninS ne_s1_o101 nin0))
  have f114 := ((Fc1.ext E101).keep Kq102 (ninS ne_s1_o101 nin0))
  have f115 := (f105.keep Kq102 (ninS ne_t1_o101 nin0))
  have f116 := (f106.keep Kq102)
  have f117 := (f107.keep Kq102 (ninS ne_t2_o101 nin0))
  obtain ⟨_, b110, T110, h110, L110, e110, Cc110, X110, B110, J110, g110, hQ110, st110⟩ := own_callV Cc102 B102 Jv102 X108 (hw _ (List.mem_of_getElem? (i := 58) rfl)) (hw _ (List.mem_of_getElem? (i := 59) rfl)) (notFace_of_selects (args := #[]) (mvT hZ (hw _ (List.mem_of_getElem? (i := 61) rfl)))) (hw _ (List.mem_of_getElem? (i := 61) rfl)) (hw _ (List.mem_of_getElem? (i := 60) rfl)) (hw _ (List.mem_of_getElem? (i := 42) rfl)) (hw _ (List.mem_of_getElem? (i := 62) rfl)) (by decide) f111 (rm8 l Z a0 hw [] o101 v102 _ ([] : List Int32) (0 : Int32) ([] : List Int32) 16 s1 t1 _ e1 cd1 bb1 zc _ h102 n0 O102 h0.size (own_ole O0) K102.1 fr101 (List.mem_cons_of_mem _ (List.mem_cons_self ..)) fr_v102 (List.mem_cons_self ..) fs hfs S_F S_D S_H S_L f111 Gv102 Gc102 Gn102 Gm102 W102_ (Or.inl ⟨rfl, rfl, rfl, fun x hx => nomatch hx⟩) (by decide) f112 f113 f114 So1 f115 (Nat.le_trans hn1 (by decide)) hr1 (show 0 + e1.length ≤ 16 by omega) (fun x hx => nomatch hx) ne_o101_v102 ne_t1_v102 ne_s1_v102 ne_t1_o101 ne_s1_o101 S_C hzc) e108 (g := (mkF m 11 #[.val (.ref a1)] [(.ref s1), (.ref o101)])) rfl (by rw [hml]; rfl) (argsL := [(.ref s1)]) (rest := []) (lenOf pd36 rfl) rfl (W := 0) (by show 2 * 0 + _ ≤ _; exact Nat.le_of_eq rfl) (hb hby d5_11) (by decide) (by decide) (by decide) (by decide)
  obtain ⟨rfl, Nq110, Kq110, v110, kw110, bc110, bs110, nn110, Dv110, Frv110, Gv110, Gc110, Gn110, Gm110, Hb110, Wv110, Jv110⟩ := hQ110
  have N110 := Fr.app N102 Nq110
  obtain ⟨hx, hZ, hown, hby, hml, hnm, hret, hlk⟩ := id Cc110
  have K110 := K102.trans Kq110 (allS (Or.inr sz101) (allS (Or.inr sz_v102) all0))
  have O110 := O102.keep Kq110 (allS (Nat.le_trans (own_ole O0) fr101) (allS (Nat.le_trans (own_ole O0) fr_v102) all0))
  refine Go.of st110 ?_
  have ne_a1_v110 : a1 ≠ v110 := own_neor Dv110 ne_a1_v102 f109.lt
  have ne_s1_v110 : s1 ≠ v110 := own_neor Dv110 ne_s1_v102 f112.lt
  have ne_t1_v110 : t1 ≠ v110 := own_neor Dv110 ne_t1_v102 f115.lt
  have ne_s2_v110 : s2 ≠ v110 := own_neor Dv110 ne_s2_v102 f116.lt
  have ne_t2_v110 : t2 ≠ v110 := own_neor Dv110 ne_t2_v102 f117.lt
  have ne_o101_v110 : o101 ≠ v110 := own_neor Dv110 ne_o101_v102 f111.lt
  show Go p e s below _ _ _ _ T110 (mkF m 14 #[.val (.ref a1)] [(.ref o101)])
  obtain ⟨o118, t118, k118, b118, T118, h118, e118, Cc118, X118, B118, J118, E118, Sy118, na118, nt118, lt118, st118⟩ := own_ldcV Cc110 B110 Jv110 X110 lit1_in lit1_one (hw _ (List.mem_of_getElem? (i := 108) rfl)) (own_wS Z a0 hw) lit1_lat lit1_len (by rw [eb]; exact N110) (by rw [eb]; exact O0.2) e110 (g := (mkF m 14 #[.val (.ref a1)] [(.ref o101)])) rfl (hb hby d5_14) (n := 8) lit1_sz (by decide) (by decide) (by decide)
  obtain ⟨hx, hZ, hown, hby, hml, hnm, hret, hlk⟩ := id Cc118
  have K118 := K110.ext E118
  have O118 := O110.ext E118
  have nx_o118_v110 : o118 ≠ v110 := fun q => na118 (by rw [q]; exact (List.mem_cons_self ..))
  have nx_o118_v102 : o118 ≠ v102 := fun q => na118 (by rw [q]; exact (List.mem_cons_of_mem _ (List.mem_cons_self ..)))
  have nx_o118_o101 : o118 ≠ o101 := fun q => na118 (by rw [q]; exact (List.mem_cons_of_mem _ (List.mem_cons_of_mem _ (List.mem_cons_self ..))))
  have nx_t118_v110 : t118 ≠ v110 := fun q => nt118 (by rw [q]; exact (List.mem_cons_self ..))
  have nx_t118_v102 : t118 ≠ v102 := fun q => nt118 (by rw [q]; exact (List.mem_cons_of_mem _ (List.mem_cons_self ..)))
  have nx_t118_o101 : t118 ≠ o101 := fun q => nt118 (by rw [q]; exact (List.mem_cons_of_mem _ (List.mem_cons_of_mem _ (List.mem_cons_self ..))))
  refine Go.of (fun _ hr => st118 _ hr) ?_
  show Go p e s below _ _ _ _ T118 (mkF m 16 #[.val (.ref a1)] [(.ref o118), (.ref o101)])
  have f120 := ((f111.keep Kq110).ext E118)
  have f121 := (Gv110.ext E118)
  have f122 := (Gc110.ext E118)
  have f123 := (Gn110.ext E118)
  have f124 := (Gm110.ext E118)
  have f125 := (Wv110.ext E118)
  have f126 := ((f109.keep Kq110 (ninS ne_a1_o101 (ninS ne_a1_v102 nin0))).ext E118)
  have f127 := ((f112.keep Kq110).ext E118)
  have f128 := ((f115.keep Kq110 (ninS ne_t1_o101 (ninS ne_t1_v102 nin0))).ext E118)
  have f129 := ((f116.keep Kq110).ext E118)
  have f130 := ((f117.keep Kq110 (ninS ne_t2_o101 (ninS ne_t2_v102 nin0))).ext E118)
  obtain ⟨_, b119, T119, h119, L119, e119, Cc119, X119, B119, J119, g119, hQ119, st119⟩ := own_callV Cc118 B118 J118 X118 (hw _ (List.mem_of_getElem? (i := 58) rfl)) (hw _ (List.mem_of_getElem? (i := 59) rfl)) (notFace_of_selects (args := #[]) (mvT hZ (hw _ (List.mem_of_getElem? (i := 61) rfl)))) (hw _ (List.mem_of_getElem? (i := 61) rfl)) (hw _ (List.mem_of_getElem? (i := 60) rfl)) (hw _ (List.mem_of_getElem? (i := 42) rfl)) (hw _ (List.mem_of_getElem? (i := 62) rfl)) (by decide) f120 (rm8 l Z a0 hw [] o101 v110 _ (([] : List Int32) ++ e1) bc110 bs110 nn110 o118 t118 _ [58, 32] (0 : Int32) (litI ": ") zc _ h118 n0 O118 h0.size (own_ole O0) K118.1 fr101 (List.mem_cons_of_mem _ (List.mem_cons_of_mem _ (List.mem_cons_self ..))) Frv110 (List.mem_cons_self ..) fs hfs S_F S_D S_H S_L f120 f121 f122 f123 f124 f125 Hb110 (show ([] ++ e1).length ≤ 16 by omega) Sy118.1 Sy118.2.2.1 Sy118.2.1 so_lit Sy118.2.2.2 (by decide) rng_lit (show e1.length + 2 ≤ 16 by omega) hr1 ne_o101_v110 nx_t118_v110 nx_o118_v110 nx_t118_o101 nx_o118_o101 S_C hzc) e118 (g := (mkF m 16 #[.val (.ref a1)] [(.ref o118), (.ref o101)])) rfl (by rw [hml]; rfl) (argsL := [(.ref o118)]) (rest := []) (lenOf pd36 rfl) rfl (W := 0) (by show 2 * 0 + _ ≤ _; exact Nat.le_of_eq rfl) (hb hby d5_16) (by decide) (by decide) (by decide) (by decide)
  obtain ⟨rfl, Nq119, Kq119, v119, kw119, bc119, bs119, nn119, Dv119, Frv119, Gv119, Gc119, Gn119, Gm119, Hb119, Wv119, Jv119⟩ := hQ119
  have N119 := Fr.app N110 Nq119
  obtain ⟨hx, hZ, hown, hby, hml, hnm, hret, hlk⟩ := id Cc119
  have K119 := K118.trans Kq119 (allS (Or.inr sz101) (allS (Or.inr Frv110) all0))
  have O119 := O118.keep Kq119 (allS (Nat.le_trans (own_ole O0) fr101) (allS (Nat.le_trans (own_ole O0) Frv110) all0))
  refine Go.of st119 ?_
  have ne_a1_v119 : a1 ≠ v119 := own_neor Dv119 ne_a1_v110 f126.lt
  have ne_s1_v119 : s1 ≠ v119 := own_neor Dv119 ne_s1_v110 f127.lt
  have ne_t1_v119 : t1 ≠ v119 := own_neor Dv119 ne_t1_v110 f128.lt
  have ne_s2_v119 : s2 ≠ v119 := own_neor Dv119 ne_s2_v110 f129.lt
  have ne_t2_v119 : t2 ≠ v119 := own_neor Dv119 ne_t2_v110 f130.lt
  have ne_o101_v119 : o101 ≠ v119 := own_neor Dv119 ne_o101_v110 f120.lt
  have ne_o118_v119 : o118 ≠ v119 := own_neor Dv119 nx_o118_v110 Sy118.1.lt
  have ne_t118_v119 : t118 ≠ v119 := own_neor Dv119 nx_t118_v110 Sy118.2.2.2.lt
  show Go p e s below _ _ _ _ T119 (mkF m 19 #[.val (.ref a1)] [(.ref o101)])
  refine Go.of (fun _ hr => XS.aloadN X119.here hx rfl (hb hby d5_19) rfl rfl hr) ?_
  show Go p e s below _ _ _ _ T119 (mkF m 20 #[.val (.ref a1)] [(.ref a1), (.ref o101)])
  have f132 := (((((Fm.ext E101).keep Kq102 (ninS ne_a1_o101 nin0)).keep Kq110 (ninS ne_a1_o101 (ninS ne_a1_v102 nin0))).ext E118).keep Kq119 (ninS ne_a1_o101 (ninS ne_a1_v110 nin0)))
  obtain ⟨T131, X131, e131, st131⟩ := getF X119 hx hZ hown (host := "") (Or.inl (hw _ (List.mem_of_getElem? (i := 33) rfl))) Via.refl e119 f132 (g := (mkF m 20 #[.val (.ref a1)] [(.ref a1), (.ref o101)])) rfl rfl (hb hby d5_20)
  refine Go.of (fun _ hr => st131 _ hr) ?_
  show Go p e s below _ _ _ _ T131 (mkF m 23 #[.val (.ref a1)] [(.ref s2), (.ref o101)])
  have f134 := (f120.keep Kq119)
  have f135 := (f129.keep Kq119)
  have f136 := (((((Fv2.ext E101).keep Kq102 (ninS ne_s2_o101 nin0)).keep Kq110 (ninS ne_s2_o101 (ninS ne_s2_v102 nin0))).ext E118).keep Kq119 (ninS ne_s2_o101 (ninS ne_s2_v110 nin0)))
  have f137 := (((((Fc2.ext E101).keep Kq102 (ninS ne_s2_o101 nin0)).keep Kq110 (ninS ne_s2_o101 (ninS ne_s2_v102 nin0))).ext E118).keep Kq119 (ninS ne_s2_o101 (ninS ne_s2_v110 nin0)))
  have f138 := (f130.keep Kq119 (ninS ne_t2_o101 (ninS ne_t2_v110 nin0)))
  have f139 := (f126.keep Kq119 (ninS ne_a1_o101 (ninS ne_a1_v110 nin0)))
  have f140 := (f127.keep Kq119)
  have f141 := (f128.keep Kq119 (ninS ne_t1_o101 (ninS ne_t1_v110 nin0)))
  have f142 := (Sy118.1.keep Kq119)
  have f143 := (Sy118.2.2.2.keep Kq119 (ninS nx_t118_o101 (ninS nx_t118_v110 nin0)))
  obtain ⟨_, b133, T133, h133, L133, e133, Cc133, X133, B133, J133, g133, hQ133, st133⟩ := own_callV Cc119 B119 Jv119 X131 (hw _ (List.mem_of_getElem? (i := 58) rfl)) (hw _ (List.mem_of_getElem? (i := 59) rfl)) (notFace_of_selects (args := #[]) (mvT hZ (hw _ (List.mem_of_getElem? (i := 61) rfl)))) (hw _ (List.mem_of_getElem? (i := 61) rfl)) (hw _ (List.mem_of_getElem? (i := 60) rfl)) (hw _ (List.mem_of_getElem? (i := 42) rfl)) (hw _ (List.mem_of_getElem? (i := 62) rfl)) (by decide) f134 (rm8 l Z a0 hw [] o101 v119 _ ((([] : List Int32) ++ e1) ++ [58, 32]) bc119 bs119 nn119 s2 t2 _ e2 cd2 bb2 zc _ h119 n0 O119 h0.size (own_ole O0) K119.1 fr101 (List.mem_cons_of_mem _ (List.mem_cons_of_mem _ (List.mem_cons_of_mem _ (List.mem_cons_self ..)))) Frv119 (List.mem_cons_self ..) fs hfs S_F S_D S_H S_L f134 Gv119 Gc119 Gn119 Gm119 Wv119 Hb119 (show ([] ++ e1 ++ [(58 : Int32), 32]).length ≤ 16 by omega) f135 f136 f137 So2 f138 (Nat.le_trans hn2 (by decide)) hr2 (by rw [L2]; omega) (rng_app hr1 rng_lit) ne_o101_v119 ne_t2_v119 ne_s2_v119 ne_t2_o101 ne_s2_o101 S_C hzc) e131 (g := (mkF m 23 #[.val (.ref a1)] [(.ref s2), (.ref o101)])) rfl (by rw [hml]; rfl) (argsL := [(.ref s2)]) (rest := []) (lenOf pd36 rfl) rfl (W := 0) (by show 2 * 0 + _ ≤ _; exact Nat.le_of_eq rfl) (hb hby d5_23) (by decide) (by decide) (by decide) (by decide)
  obtain ⟨rfl, Nq133, Kq133, v133, kw133, bc133, bs133, nn133, Dv133, Frv133, Gv133, Gc133, Gn133, Gm133, Hb133, Wv133, Jv133⟩ := hQ133
  have N133 := Fr.app N119 Nq133
  obtain ⟨hx, hZ, hown, hby, hml, hnm, hret, hlk⟩ := id Cc133
  have K133 := K119.trans Kq133 (allS (Or.inr sz101) (allS (Or.inr Frv119) all0))
  have O133 := O119.keep Kq133 (allS (Nat.le_trans (own_ole O0) fr101) (allS (Nat.le_trans (own_ole O0) Frv119) all0))
  refine Go.of st133 ?_
  have ne_a1_v133 : a1 ≠ v133 := own_neor Dv133 ne_a1_v119 f139.lt
  have ne_s1_v133 : s1 ≠ v133 := own_neor Dv133 ne_s1_v119 f140.lt
  have ne_t1_v133 : t1 ≠ v133 := own_neor Dv133 ne_t1_v119 f141.lt
  have ne_s2_v133 : s2 ≠ v133 := own_neor Dv133 ne_s2_v119 f135.lt
  have ne_t2_v133 : t2 ≠ v133 := own_neor Dv133 ne_t2_v119 f138.lt
  have ne_o101_v133 : o101 ≠ v133 := own_neor Dv133 ne_o101_v119 f134.lt
  have ne_o118_v133 : o118 ≠ v133 := own_neor Dv133 ne_o118_v119 f142.lt
  have ne_t118_v133 : t118 ≠ v133 := own_neor Dv133 ne_t118_v119 f143.lt
  show Go p e s below _ _ _ _ T133 (mkF m 26 #[.val (.ref a1)] [(.ref o101)])
  have f145 := (f134.keep Kq133)
  obtain ⟨_, b144, T144, h144, L144, e144, Cc144, X144, B144, J144, g144, hQ144, st144⟩ := own_callV Cc133 B133 Jv133 X133 (hw _ (List.mem_of_getElem? (i := 109) rfl)) (hw _ (List.mem_of_getElem? (i := 110) rfl)) (notFace_of_selects (args := #[]) (mvT hZ (hw _ (List.mem_of_getElem? (i := 112) rfl)))) (hw _ (List.mem_of_getElem? (i := 112) rfl)) (hw _ (List.mem_of_getElem? (i := 111) rfl)) (hw _ (List.mem_of_getElem? (i := 42) rfl)) (hw _ (List.mem_of_getElem? (i := 113) rfl)) (by decide) f145 (rm16 l Z a0 hw [] o101 v133 _ (((([] : List Int32) ++ e1) ++ [58, 32]) ++ e2) bc133 bs133 nn133 zc _ h133 n0 O133 h0.size (own_ole O0) K133.1 f145 Gv133 Gc133 Gn133 Gm133 Wv133 Hb133 (show ([] ++ e1 ++ [(58 : Int32), 32] ++ e2).length ≤ 16 by omega) (show ([] ++ e1 ++ [(58 : Int32), 32] ++ e2).length < 16 by omega) S_C hzc) e133 (g := (mkF m 26 #[.val (.ref a1)] [(.ref o101)])) rfl (by rw [hml]; rfl) (argsL := []) (rest := []) (lenOf pd37 rfl) rfl (W := 0) (by show 2 * 0 + _ ≤ _; exact Nat.le_of_eq rfl) (hb hby d5_26) (by decide) (by decide) (by decide) (by decide)
  have f146 := (f139.keep Kq133 (ninS ne_a1_o101 (ninS ne_a1_v119 nin0)))
  have f147 := (f140.keep Kq133)
  have f148 := (f141.keep Kq133 (ninS ne_t1_o101 (ninS ne_t1_v119 nin0)))
  have f149 := (f135.keep Kq133)
  have f150 := (f138.keep Kq133 (ninS ne_t2_o101 (ninS ne_t2_v119 nin0)))
  have f151 := (f142.keep Kq133)
  have f152 := (f143.keep Kq133 (ninS nx_t118_o101 (ninS ne_t118_v119 nin0)))
  obtain ⟨r144, t144, kt144, cd144, bb144, rfl, Nq144, Eq144, R_r144, R_t144, Er144, Fv144, Fc144, So144, Vt144⟩ := hQ144
  have N144 := Fr.app N133 Nq144
  obtain ⟨hx, hZ, hown, hby, hml, hnm, hret, hlk⟩ := id Cc144
  have sz_r144 : h0.size ≤ r144 := Nat.le_trans K133.1 R_r144
  have fr_r144 : h0.size ≤ r144 := sz_r144
  have ne_a1_r144 : a1 ≠ r144 := Nat.ne_of_lt (Nat.lt_of_lt_of_le f146.lt R_r144)
  have ne_s1_r144 : s1 ≠ r144 := Nat.ne_of_lt (Nat.lt_of_lt_of_le f147.lt R_r144)
  have ne_t1_r144 : t1 ≠ r144 := Nat.ne_of_lt (Nat.lt_of_lt_of_le f148.lt R_r144)
  have ne_s2_r144 : s2 ≠ r144 := Nat.ne_of_lt (Nat.lt_of_lt_of_le f149.lt R_r144)
  have ne_t2_r144 : t2 ≠ r144 := Nat.ne_of_lt (Nat.lt_of_lt_of_le f150.lt R_r144)
  have ne_o101_r144 : o101 ≠ r144 := Nat.ne_of_lt (Nat.lt_of_lt_of_le f145.lt R_r144)
  have ne_o118_r144 : o118 ≠ r144 := Nat.ne_of_lt (Nat.lt_of_lt_of_le f151.lt R_r144)
  have ne_t118_r144 : t118 ≠ r144 := Nat.ne_of_lt (Nat.lt_of_lt_of_le f152.lt R_r144)
  have ne_v133_r144 : v133 ≠ r144 := Nat.ne_of_lt (Nat.lt_of_lt_of_le Wv133.lt R_r144)
  have sz_t144 : h0.size ≤ t144 := Nat.le_trans K133.1 R_t144
  have fr_t144 : h0.size ≤ t144 := sz_t144
  have ne_a1_t144 : a1 ≠ t144 := Nat.ne_of_lt (Nat.lt_of_lt_of_le f146.lt R_t144)
  have ne_s1_t144 : s1 ≠ t144 := Nat.ne_of_lt (Nat.lt_of_lt_of_le f147.lt R_t144)
  have ne_t1_t144 : t1 ≠ t144 := Nat.ne_of_lt (Nat.lt_of_lt_of_le f148.lt R_t144)
  have ne_s2_t144 : s2 ≠ t144 := Nat.ne_of_lt (Nat.lt_of_lt_of_le f149.lt R_t144)
  have ne_t2_t144 : t2 ≠ t144 := Nat.ne_of_lt (Nat.lt_of_lt_of_le f150.lt R_t144)
  have ne_o101_t144 : o101 ≠ t144 := Nat.ne_of_lt (Nat.lt_of_lt_of_le f145.lt R_t144)
  have ne_o118_t144 : o118 ≠ t144 := Nat.ne_of_lt (Nat.lt_of_lt_of_le f151.lt R_t144)
  have ne_t118_t144 : t118 ≠ t144 := Nat.ne_of_lt (Nat.lt_of_lt_of_le f152.lt R_t144)
  have ne_v133_t144 : v133 ≠ t144 := Nat.ne_of_lt (Nat.lt_of_lt_of_le Wv133.lt R_t144)
  have K144 := K133.ext Eq144
  have O144 := O133.ext Eq144
  refine Go.of st144 ?_
  show Go p e s below _ _ _ _ T144 (mkF m 29 #[.val (.ref a1)] [(.ref r144)])
  exact Go.retA X144 hx hlk B144 (J144.sub fun x hx => (List.mem_cons_of_mem _ (List.mem_cons_of_mem _ (List.mem_cons_of_mem _ (List.mem_cons_of_mem _ (List.mem_cons_of_mem _ hx)))))) e144 hret rfl rfl (hb hby d5_29) (by decide) (by decide) (fun vm_ hw_ => ⟨_, _, _, _, _, rfl, (fun y hy => Nat.le_trans hnb (N144 y hy)), keep_ext K144, sz_r144, sz_t144, Er144, Fv144, Fc144, So144, Vt144⟩)

theorem d33_0 : decode method_3_code 0 = .ok (.iload_n 0, 1) := by decide +kernel
theorem d33_1 : decode method_3_code 1 = .ok (.iload_n 1, 1) := by decide +kernel
theorem d33_2 : decode method_3_code 2 = .ok (.if_icmp .ge 13, 3) := by decide +kernel
theorem d33_5 : decode method_3_code 5 = .ok (.iload_n 0, 1) := by decide +kernel
theorem d33_6 : decode method_3_code 6 = .ok (.ifCond .ne 7, 3) := by decide +kernel
theorem d33_9 : decode method_3_code 9 = .ok (.iload_n 2, 1) := by decide +kernel
theorem d33_10 : decode method_3_code 10 = .ok (.goto 4, 3) := by decide +kernel
theorem d33_14 : decode method_3_code 14 = .ok (.ireturn, 1) := by decide +kernel
theorem d33_13 : decode method_3_code 13 = .ok (.iload_n 3, 1) := by decide +kernel
theorem d33_15 : decode method_3_code 15 = .ok (.iload_n 0, 1) := by decide +kernel
theorem d33_16 : decode method_3_code 16 = .ok (.iload_n 1, 1) := by decide +kernel
theorem d33_17 : decode method_3_code 17 = .ok (.if_icmp .ne 6, 3) := by decide +kernel
theorem d33_20 : decode method_3_code 20 = .ok (.bipush 58, 2) := by decide +kernel
theorem d33_22 : decode method_3_code 22 = .ok (.ireturn, 1) := by decide +kernel
theorem d33_23 : decode method_3_code 23 = .ok (.iload_n 0, 1) := by decide +kernel
theorem d33_24 : decode method_3_code 24 = .ok (.iload_n 1, 1) := by decide +kernel
theorem d33_25 : decode method_3_code 25 = .ok (.iconst 1, 1) := by decide +kernel
theorem d33_26 : decode method_3_code 26 = .ok (.iadd, 1) := by decide +kernel
theorem d33_27 : decode method_3_code 27 = .ok (.if_icmp .ne 6, 3) := by decide +kernel
theorem d33_30 : decode method_3_code 30 = .ok (.bipush 32, 2) := by decide +kernel
theorem d33_32 : decode method_3_code 32 = .ok (.ireturn, 1) := by decide +kernel
theorem d33_33 : decode method_3_code 33 = .ok (.iload_n 0, 1) := by decide +kernel
theorem d33_34 : decode method_3_code 34 = .ok (.iload_n 1, 1) := by decide +kernel
theorem d33_35 : decode method_3_code 35 = .ok (.isub, 1) := by decide +kernel
theorem d33_36 : decode method_3_code 36 = .ok (.iconst 2, 1) := by decide +kernel
theorem d33_37 : decode method_3_code 37 = .ok (.isub, 1) := by decide +kernel
theorem d33_38 : decode method_3_code 38 = .ok (.istore 6, 2) := by decide +kernel
theorem d33_40 : decode method_3_code 40 = .ok (.iload 6, 2) := by decide +kernel
theorem d33_42 : decode method_3_code 42 = .ok (.ifCond .ne 8, 3) := by decide +kernel
theorem d33_45 : decode method_3_code 45 = .ok (.iload 4, 2) := by decide +kernel
theorem d33_47 : decode method_3_code 47 = .ok (.goto 5, 3) := by decide +kernel
theorem d33_52 : decode method_3_code 52 = .ok (.ireturn, 1) := by decide +kernel
theorem d33_50 : decode method_3_code 50 = .ok (.iload 5, 2) := by decide +kernel
set_option maxRecDepth 65536 in
set_option maxHeartbeats 40000000 in
theorem rm33 (l : Launch) (Z : State) (a0 : Array Value) (hw : ∀ d ∈ tables_1, d.before a0 Z = true) (ws : List Jvm.Cond) (i1 fl f0 f1 m0 m1 : Int32) (ms : List Addr) (h0 : Heap) (n0 : Nat) (O0 : Old Z n0 h0) (nb : Nat) (hb0 : n0 ≤ nb) (hnb : nb ≤ h0.size) (hq_f0 : rng16 f0) (hq_f1 : rng16 f1) (hq_m0 : rng16 m0) (hq_m1 : rng16 m1) :
    Con l Z ms (⟨"com/example/dispatcher/dispatcher/web/FieldErrorToStringPinLaw", "at", "(IICCCC)C"⟩ : MethodName) method_3_code 7 (some .char) ws ({ frames := 0, cells := 0, slots := 0, locals := 0 } : Room) #[(.int i1), (.int fl), (.int f0), (.int f1), (.int m0), (.int m1)] h0 (fun v vm h L => v = some (.int (atV i1 fl f0 f1 m0 m1)) ∧ Fr nb L ∧ h = h0) := by
  refine Con.mk (plainFor_of_name pn7) ?_
  intro p e s m below meth c s₁ Cc X0 e0 eb J0 B0 M0
  obtain ⟨hx, hZ, hown, hby, hml, hnm, hret, hlk⟩ := id Cc
  have N0 := Fr.nil h0.size
  have K0 := Keep.refl h0 []
  show Go p e s below _ _ _ _ s₁ (mkF m 0 #[.val (.int i1), .val (.int fl), .val (.int f0), .val (.int f1), .val (.int m0), .val (.int m1), .unset] [])
  refine Go.of (fun _ hr => XS.iloadN X0.here hx rfl (hb hby d33_0) rfl  hr) ?_
  show Go p e s below _ _ _ _ s₁ (mkF m 1 #[.val (.int i1), .val (.int fl), .val (.int f0), .val (.int f1), .val (.int m0), .val (.int m1), .unset] [(.int i1)])
  refine Go.of (fun _ hr => XS.iloadN X0.here hx rfl (hb hby d33_1) rfl  hr) ?_
  show Go p e s below _ _ _ _ s₁ (mkF m 2 #[.val (.int i1), .val (.int fl), .val (.int f0), .val (.int f1), .val (.int m0), .val (.int m1), .unset] [(.int fl), (.int i1)])
  by_cases hb2_101 : i1 < fl
  · refine Go.of (fun _ hr => XS.icmpNo X0.here hx rfl (hb hby d33_2) rfl (tlt hb2_101).2.1 hr) ?_
    show Go p e s below _ _ _ _ s₁ (mkF m 5 #[.val (.int i1), .val (.int fl), .val (.int f0), .val (.int f1), .val (.int m0), .val (.int m1), .unset] [])
    refine Go.of (fun _ hr => XS.iloadN X0.here hx rfl (hb hby d33_5) rfl  hr) ?_
    show Go p e s below _ _ _ _ s₁ (mkF m 6 #[.val (.int i1), .val (.int fl), .val (.int f0), .val (.int f1), .val (.int m0), .val (.int m1), .unset] [(.int i1)])
    by_cases hb6_102 : i1 = (0 : Int32)
    · refine Go.of (fun _ hr => XS.ifNo X0.here hx rfl (hb hby d33_6) rfl ((if0 _ _).trans (teq hb6_102).2) hr) ?_
      show Go p e s below _ _ _ _ s₁ (mkF m 9 #[.val (.int i1), .val (.int fl), .val (.int f0), .val (.int f1), .val (.int m0), .val (.int m1), .unset] [])
      refine Go.of (fun _ hr => XS.iloadN X0.here hx rfl (hb hby d33_9) rfl  hr) ?_
      show Go p e s below _ _ _ _ s₁ (mkF m 10 #[.val (.int i1), .val (.int fl), .val (.int f0), .val (.int f1), .val (.int m0), .val (.int m1), .unset] [(.int f0)])
      refine Go.of (fun _ hr => XS.goto X0.here hx rfl (pc0 := 10) (pc' := 14) rfl (hb hby d33_10) (by decide) (by decide) hr) ?_
      show Go p e s below _ _ _ _ s₁ (mkF m 14 #[.val (.int i1), .val (.int fl), .val (.int f0), .val (.int f1), .val (.int m0), .val (.int m1), .unset] [(.int f0)])
      exact Go.retN X0 hx hlk B0 J0 e0 (t := .char) (z' := f0) hret (by simp) (hb hby d33_14) (nar_c hq_f0.1 hq_f0.2) (by decide) (by decide) (fun vm_ hw_ => ⟨(by rw [atV, if_pos hb2_101, if_pos hb6_102]), (fun y hy => Nat.le_trans hnb (N0 y hy)), rfl⟩)
    · refine Go.of (fun _ hr => XS.ifYes X0.here hx rfl (pc0 := 6) (pc' := 13) rfl (hb hby d33_6) rfl ((if0 _ _).trans (feq hb6_102).2) (by decide) (by decide) hr) ?_
      show Go p e s below _ _ _ _ s₁ (mkF m 13 #[.val (.int i1), .val (.int fl), .val (.int f0), .val (.int f1), .val (.int m0), .val (.int m1), .unset] [])
      refine Go.of (fun _ hr => XS.iloadN X0.here hx rfl (hb hby d33_13) rfl  hr) ?_
      show Go p e s below _ _ _ _ s₁ (mkF m 14 #[.val (.int i1), .val (.int fl), .val (.int f0), .val (.int f1), .val (.int m0), .val (.int m1), .unset] [(.int f1)])
      exact Go.retN X0 hx hlk B0 J0 e0 (t := .char) (z' := f1) hret (by simp) (hb hby d33_14) (nar_c hq_f1.1 hq_f1.2) (by decide) (by decide) (fun vm_ hw_ => ⟨(by rw [atV, if_pos hb2_101, if_neg hb6_102]), (fun y hy => Nat.le_trans hnb (N0 y hy)), rfl⟩)
  · refine Go.of (fun _ hr => XS.icmpYes X0.here hx rfl (pc0 := 2) (pc' := 15) rfl (hb hby d33_2) rfl (flt hb2_101).2.1 (by decide) (by decide) hr) ?_
    show Go p e s below _ _ _ _ s₁ (mkF m 15 #[.val (.int i1), .val (.int fl), .val (.int f0), .val (.int f1), .val (.int m0), .val (.int m1), .unset] [])
    refine Go.of (fun _ hr => XS.iloadN X0.here hx rfl (hb hby d33_15) rfl  hr) ?_
    show Go p e s below _ _ _ _ s₁ (mkF m 16 #[.val (.int i1), .val (.int fl), .val (.int f0), .val (.int f1), .val (.int m0), .val (.int m1), .unset] [(.int i1)])
    refine Go.of (fun _ hr => XS.iloadN X0.here hx rfl (hb hby d33_16) rfl  hr) ?_
    show Go p e s below _ _ _ _ s₁ (mkF m 17 #[.val (.int i1), .val (.int fl), .val (.int f0), .val (.int f1), .val (.int m0), .val (.int m1), .unset] [(.int fl), (.int i1)])
    by_cases hb17_103 : i1 = fl
    · refine Go.of (fun _ hr => XS.icmpNo X0.here hx rfl (hb hby d33_17) rfl (teq hb17_103).2 hr) ?_
      show Go p e s below _ _ _ _ s₁ (mkF m 20 #[.val (.int i1), .val (.int fl), .val (.int f0), .val (.int f1), .val (.int m0), .val (.int m1), .unset] [])
      refine Go.of (fun _ hr => XS.bipush X0.here hx rfl (hb hby d33_20) hr) ?_
      show Go p e s below _ _ _ _ s₁ (mkF m 22 #[.val (.int i1), .val (.int fl), .val (.int f0), .val (.int f1), .val (.int m0), .val (.int m1), .unset] [(.int (58 : Int32))])
      exact Go.retN X0 hx hlk B0 J0 e0 (t := .char) (z' := (58 : Int32)) hret (by simp) (hb hby d33_22) (by decide) (by decide) (by decide) (fun vm_ hw_ => ⟨(by rw [atV, if_neg hb2_101, if_pos hb17_103]), (fun y hy => Nat.le_trans hnb (N0 y hy)), rfl⟩)
    · refine Go.of (fun _ hr => XS.icmpYes X0.here hx rfl (pc0 := 17) (pc' := 23) rfl (hb hby d33_17) rfl (feq hb17_103).2 (by decide) (by decide) hr) ?_
      show Go p e s below _ _ _ _ s₁ (mkF m 23 #[.val (.int i1), .val (.int fl), .val (.int f0), .val (.int f1), .val (.int m0), .val (.int m1), .unset] [])
      refine Go.of (fun _ hr => XS.iloadN X0.here hx rfl (hb hby d33_23) rfl  hr) ?_
      show Go p e s below _ _ _ _ s₁ (mkF m 24 #[.val (.int i1), .val (.int fl), .val (.int f0), .val (.int f1), .val (.int m0), .val (.int m1), .unset] [(.int i1)])
      refine Go.of (fun _ hr => XS.iloadN X0.here hx rfl (hb hby d33_24) rfl  hr) ?_
      show Go p e s below _ _ _ _ s₁ (mkF m 25 #[.val (.int i1), .val (.int fl), .val (.int f0), .val (.int f1), .val (.int m0), .val (.int m1), .unset] [(.int fl), (.int i1)])
      refine Go.of (fun _ hr => XS.iconst X0.here hx rfl (hb hby d33_25) hr) ?_
      show Go p e s below _ _ _ _ s₁ (mkF m 26 #[.val (.int i1), .val (.int fl), .val (.int f0), .val (.int f1), .val (.int m0), .val (.int m1), .unset] [(.int (1 : Int32)), (.int fl), (.int i1)])
      refine Go.of (fun _ hr => XS.iadd X0.here hx rfl (hb hby d33_26) rfl hr) ?_
      show Go p e s below _ _ _ _ s₁ (mkF m 27 #[.val (.int i1), .val (.int fl), .val (.int f0), .val (.int f1), .val (.int m0), .val (.int m1), .unset] [(.int (fl + (1 : Int32))), (.int i1)])
      by_cases hb27_104 : i1 = (fl + (1 : Int32))
      · refine Go.of (fun _ hr => XS.icmpNo X0.here hx rfl (hb hby d33_27) rfl (teq hb27_104).2 hr) ?_
        show Go p e s below _ _ _ _ s₁ (mkF m 30 #[.val (.int i1), .val (.int fl), .val (.int f0), .val (.int f1), .val (.int m0), .val (.int m1), .unset] [])
        refine Go.of (fun _ hr => XS.bipush X0.here hx rfl (hb hby d33_30) hr) ?_
        show Go p e s below _ _ _ _ s₁ (mkF m 32 #[.val (.int i1), .val (.int fl), .val (.int f0), .val (.int f1), .val (.int m0), .val (.int m1), .unset] [(.int (32 : Int32))])
        exact Go.retN X0 hx hlk B0 J0 e0 (t := .char) (z' := (32 : Int32)) hret (by simp) (hb hby d33_32) (by decide) (by decide) (by decide) (fun vm_ hw_ => ⟨(by rw [atV, if_neg hb2_101, if_neg hb17_103, if_pos hb27_104]), (fun y hy => Nat.le_trans hnb (N0 y hy)), rfl⟩)
      · refine Go.of (fun _ hr => XS.icmpYes X0.here hx rfl (pc0 := 27) (pc' := 33) rfl (hb hby d33_27) rfl (feq hb27_104).2 (by decide) (by decide) hr) ?_
        show Go p e s below _ _ _ _ s₁ (mkF m 33 #[.val (.int i1), .val (.int fl), .val (.int f0), .val (.int f1), .val (.int m0), .val (.int m1), .unset] [])
        refine Go.of (fun _ hr => XS.iloadN X0.here hx rfl (hb hby d33_33) rfl  hr) ?_
        show Go p e s below _ _ _ _ s₁ (mkF m 34 #[.val (.int i1), .val (.int fl), .val (.int f0), .val (.int f1), .val (.int m0), .val (.int m1), .unset] [(.int i1)])
        refine Go.of (fun _ hr => XS.iloadN X0.here hx rfl (hb hby d33_34) rfl  hr) ?_
        show Go p e s below _ _ _ _ s₁ (mkF m 35 #[.val (.int i1), .val (.int fl), .val (.int f0), .val (.int f1), .val (.int m0), .val (.int m1), .unset] [(.int fl), (.int i1)])
        refine Go.of (fun _ hr => XS.isub X0.here hx rfl (hb hby d33_35) rfl hr) ?_
        show Go p e s below _ _ _ _ s₁ (mkF m 36 #[.val (.int i1), .val (.int fl), .val (.int f0), .val (.int f1), .val (.int m0), .val (.int m1), .unset] [(.int (i1 - fl))])
        refine Go.of (fun _ hr => XS.iconst X0.here hx rfl (hb hby d33_36) hr) ?_
        show Go p e s below _ _ _ _ s₁ (mkF m 37 #[.val (.int i1), .val (.int fl), .val (.int f0), .val (.int f1), .val (.int m0), .val (.int m1), .unset] [(.int (2 : Int32)), (.int (i1 - fl))])
        refine Go.of (fun _ hr => XS.isub X0.here hx rfl (hb hby d33_37) rfl hr) ?_
        show Go p e s below _ _ _ _ s₁ (mkF m 38 #[.val (.int i1), .val (.int fl), .val (.int f0), .val (.int f1), .val (.int m0), .val (.int m1), .unset] [(.int ((i1 - fl) - (2 : Int32)))])
        refine Go.of (fun _ hr => XS.istore X0.here hx rfl (hb hby d33_38) rfl (l' := #[.val (.int i1), .val (.int fl), .val (.int f0), .val (.int f1), .val (.int m0), .val (.int m1), .val (.int ((i1 - fl) - (2 : Int32)))]) rfl hr) ?_
        show Go p e s below _ _ _ _ s₁ (mkF m 40 #[.val (.int i1), .val (.int fl), .val (.int f0), .val (.int f1), .val (.int m0), .val (.int m1), .val (.int ((i1 - fl) - (2 : Int32)))] [])
        refine Go.of (fun _ hr => XS.iload X0.here hx rfl (hb hby d33_40) rfl  hr) ?_
        show Go p e s below _ _ _ _ s₁ (mkF m 42 #[.val (.int i1), .val (.int fl), .val (.int f0), .val (.int f1), .val (.int m0), .val (.int m1), .val (.int ((i1 - fl) - (2 : Int32)))] [(.int ((i1 - fl) - (2 : Int32)))])
        by_cases hb42_105 : ((i1 - fl) - (2 : Int32)) = (0 : Int32)
        · refine Go.of (fun _ hr => XS.ifNo X0.here hx rfl (hb hby d33_42) rfl ((if0 _ _).trans (teq hb42_105).2) hr) ?_
          show Go p e s below _ _ _ _ s₁ (mkF m 45 #[.val (.int i1), .val (.int fl), .val (.int f0), .val (.int f1), .val (.int m0), .val (.int m1), .val (.int ((i1 - fl) - (2 : Int32)))] [])
          refine Go.of (fun _ hr => XS.iload X0.here hx rfl (hb hby d33_45) rfl  hr) ?_
          show Go p e s below _ _ _ _ s₁ (mkF m 47 #[.val (.int i1), .val (.int fl), .val (.int f0), .val (.int f1), .val (.int m0), .val (.int m1), .val (.int ((i1 - fl) - (2 : Int32)))] [(.int m0)])
          refine Go.of (fun _ hr => XS.goto X0.here hx rfl (pc0 := 47) (pc' := 52) rfl (hb hby d33_47) (by decide) (by decide) hr) ?_
          show Go p e s below _ _ _ _ s₁ (mkF m 52 #[.val (.int i1), .val (.int fl), .val (.int f0), .val (.int f1), .val (.int m0), .val (.int m1), .val (.int ((i1 - fl) - (2 : Int32)))] [(.int m0)])
          exact Go.retN X0 hx hlk B0 J0 e0 (t := .char) (z' := m0) hret (by simp) (hb hby d33_52) (nar_c hq_m0.1 hq_m0.2) (by decide) (by decide) (fun vm_ hw_ => ⟨(by rw [atV, if_neg hb2_101, if_neg hb17_103, if_neg hb27_104, if_pos hb42_105]), (fun y hy => Nat.le_trans hnb (N0 y hy)), rfl⟩)
        · refine Go.of (fun _ hr => XS.ifYes X0.here hx rfl (pc0 := 42) (pc' := 50) rfl (hb hby d33_42) rfl ((if0 _ _).trans (feq hb42_105).2) (by decide) (by decide) hr) ?_
          show Go p e s below _ _ _ _ s₁ (mkF m 50 #[.val (.int i1), .val (.int fl), .val (.int f0), .val (.int f1), .val (.int m0), .val (.int m1), .val (.int ((i1 - fl) - (2 : Int32)))] [])
          refine Go.of (fun _ hr => XS.iload X0.here hx rfl (hb hby d33_50) rfl  hr) ?_
          show Go p e s below _ _ _ _ s₁ (mkF m 52 #[.val (.int i1), .val (.int fl), .val (.int f0), .val (.int f1), .val (.int m0), .val (.int m1), .val (.int ((i1 - fl) - (2 : Int32)))] [(.int m1)])
          exact Go.retN X0 hx hlk B0 J0 e0 (t := .char) (z' := m1) hret (by simp) (hb hby d33_52) (nar_c hq_m1.1 hq_m1.2) (by decide) (by decide) (fun vm_ hw_ => ⟨(by rw [atV, if_neg hb2_101, if_neg hb17_103, if_neg hb27_104, if_neg hb42_105]), (fun y hy => Nat.le_trans hnb (N0 y hy)), rfl⟩)

theorem oi_ltR {i n : Nat} (hi : i < 2147483648) (hn : n < 2147483648) (q : Int32.ofNat i < Int32.ofNat n) : i < n := by
  rw [Int32.lt_iff_toInt_lt, oi_toInt hi, oi_toInt hn] at q; omega

theorem d27_0 : decode method_4_code 0 = .ok (.iload_n 1, 1) := by decide +kernel
theorem d27_1 : decode method_4_code 1 = .ok (.iload_n 2, 1) := by decide +kernel
theorem d27_2 : decode method_4_code 2 = .ok (.if_icmp .ge 24, 3) := by decide +kernel
theorem d27_5 : decode method_4_code 5 = .ok (.aload_n 0, 1) := by decide +kernel
theorem d27_6 : decode method_4_code 6 = .ok (.iload_n 1, 1) := by decide +kernel
theorem d27_7 : decode method_4_code 7 = .ok (.invokevirtual 18, 3) := by decide +kernel
theorem pd38 : parseMethodDescriptor "(I)C" = some ⟨[.int], some .char⟩ := by decide +kernel
theorem d27_10 : decode method_4_code 10 = .ok (.iload_n 1, 1) := by decide +kernel
theorem d27_11 : decode method_4_code 11 = .ok (.iload_n 3, 1) := by decide +kernel
theorem d27_12 : decode method_4_code 12 = .ok (.iload 4, 2) := by decide +kernel
theorem d27_14 : decode method_4_code 14 = .ok (.iload 5, 2) := by decide +kernel
theorem d27_16 : decode method_4_code 16 = .ok (.iload 6, 2) := by decide +kernel
theorem d27_18 : decode method_4_code 18 = .ok (.iload 7, 2) := by decide +kernel
theorem d27_20 : decode method_4_code 20 = .ok (.invokestatic 22, 3) := by decide +kernel
theorem pd39 : parseMethodDescriptor "(IICCCC)C" = some ⟨[.int, .int, .char, .char, .char, .char], some .char⟩ := by decide +kernel
theorem d27_23 : decode method_4_code 23 = .ok (.if_icmp .ne 7, 3) := by decide +kernel
theorem d27_26 : decode method_4_code 26 = .ok (.iconst 1, 1) := by decide +kernel
theorem d27_27 : decode method_4_code 27 = .ok (.goto 4, 3) := by decide +kernel
theorem d27_31 : decode method_4_code 31 = .ok (.ireturn, 1) := by decide +kernel
set_option maxRecDepth 65536 in
set_option maxHeartbeats 40000000 in
theorem rm27 (l : Launch) (Z : State) (a0 : Array Value) (hw : ∀ d ∈ tables_1, d.before a0 Z = true) (ws : List Jvm.Cond) (s1 t1 : Addr) (k1 : ClassId) (cd : Int32) (bb : List Int32) (fl ml f0 f1 m0 m1 : Int32) (i : Nat) (zc : Int32) (ms : List Addr) (h0 : Heap) (n0 : Nat) (O0 : Old Z n0 h0) (nb : Nat) (hb0 : n0 ≤ nb) (hnb : nb ≤ h0.size) (fs : Value) (hfs : fs = .null ∨ ∃ a, fs = .ref a) (S_F : Sta Z Z.heap "jdk/internal/util/Preconditions" "SIOOBE_FORMATTER" "Ljava/util/function/BiFunction;" fs) (S_D : Sta Z Z.heap "java/lang/StringUTF16" "$assertionsDisabled" "Z" (.int 1)) (S_H : Sta Z Z.heap "java/lang/StringUTF16" "HI_BYTE_SHIFT" "I" (.int 0)) (S_L : Sta Z Z.heap "java/lang/StringUTF16" "LO_BYTE_SHIFT" "I" (.int 8)) (hf : fl = 0 ∨ fl = 1 ∨ fl = 2) (hm : ml = 0 ∨ ml = 1 ∨ ml = 2) (hq_f0 : rng16 f0) (hq_f1 : rng16 f1) (hq_m0 : rng16 m0) (hq_m1 : rng16 m1) (hi5 : i ≤ 5) (Es1 : Exa Z h0 s1 "java/lang/String") (Fv1 : Fld Z h0 s1 "java/lang/String" "value" "[B" (.ref t1)) (Fc1 : Fld Z h0 s1 "java/lang/String" "coder" "B" (.int cd)) (hso : StrOf (allC fl ml f0 f1 m0 m1) cd bb) (V1 : Arv Z h0 t1 k1 .byte (Int32.ofNat bb.length) (bb.map Value.int) (.int 0)) (S_C : Sta Z Z.heap "java/lang/String" "COMPACT_STRINGS" "Z" (.int zc)) (hzc : ¬ zc = 0) :
    Con l Z ms (⟨"com/example/dispatcher/dispatcher/web/FieldErrorToStringPinLaw", "check", "(Ljava/lang/String;IIICCCC)Z"⟩ : MethodName) method_4_code 8 (some .boolean) ws ({ frames := 5, cells := 0, slots := 0, locals := 66 } : Room) #[(.ref s1), (.int (Int32.ofNat i)), (.int (Int32.ofNat (allC fl ml f0 f1 m0 m1).length)), (.int fl), (.int f0), (.int f1), (.int m0), (.int m1)] h0 (fun v vm h L => v = some (.int 1) ∧ Fr nb L ∧ h = h0) := by
  refine Con.mk (plainFor_of_name pn7) ?_
  intro p e s m below meth c s₁ Cc X0 e0 eb J0 B0 M0
  obtain ⟨hx, hZ, hown, hby, hml, hnm, hret, hlk⟩ := id Cc
  have N0 := Fr.nil h0.size
  have K0 := Keep.refl h0 []
  show Go p e s below _ _ _ _ s₁ (mkF m 0 #[.val (.ref s1), .val (.int (Int32.ofNat i)), .val (.int (Int32.ofNat (allC fl ml f0 f1 m0 m1).length)), .val (.int fl), .val (.int f0), .val (.int f1), .val (.int m0), .val (.int m1)] [])
  refine Go.of (fun _ hr => XS.iloadN X0.here hx rfl (hb hby d27_0) rfl  hr) ?_
  show Go p e s below _ _ _ _ s₁ (mkF m 1 #[.val (.ref s1), .val (.int (Int32.ofNat i)), .val (.int (Int32.ofNat (allC fl ml f0 f1 m0 m1).length)), .val (.int fl), .val (.int f0), .val (.int f1), .val (.int m0), .val (.int m1)] [(.int (Int32.ofNat i))])
  refine Go.of (fun _ hr => XS.iloadN X0.here hx rfl (hb hby d27_1) rfl  hr) ?_
  show Go p e s below _ _ _ _ s₁ (mkF m 2 #[.val (.ref s1), .val (.int (Int32.ofNat i)), .val (.int (Int32.ofNat (allC fl ml f0 f1 m0 m1).length)), .val (.int fl), .val (.int f0), .val (.int f1), .val (.int m0), .val (.int m1)] [(.int (Int32.ofNat (allC fl ml f0 f1 m0 m1).length)), (.int (Int32.ofNat i))])
  by_cases hb2_101 : (Int32.ofNat i) < (Int32.ofNat (allC fl ml f0 f1 m0 m1).length)
  · refine Go.of (fun _ hr => XS.icmpNo X0.here hx rfl (hb hby d27_2) rfl (tlt hb2_101).2.1 hr) ?_
    show Go p e s below _ _ _ _ s₁ (mkF m 5 #[.val (.ref s1), .val (.int (Int32.ofNat i)), .val (.int (Int32.ofNat (allC fl ml f0 f1 m0 m1).length)), .val (.int fl), .val (.int f0), .val (.int f1), .val (.int m0), .val (.int m1)] [])
    have h6 := allC_le fl ml f0 f1 m0 m1
    have hi : i < (allC fl ml f0 f1 m0 m1).length := oi_ltR (by omega) (by omega) hb2_101
    refine Go.of (fun _ hr => XS.aloadN X0.here hx rfl (hb hby d27_5) rfl rfl hr) ?_
    show Go p e s below _ _ _ _ s₁ (mkF m 6 #[.val (.ref s1), .val (.int (Int32.ofNat i)), .val (.int (Int32.ofNat (allC fl ml f0 f1 m0 m1).length)), .val (.int fl), .val (.int f0), .val (.int f1), .val (.int m0), .val (.int m1)] [(.ref s1)])
    refine Go.of (fun _ hr => XS.iloadN X0.here hx rfl (hb hby d27_6) rfl  hr) ?_
    show Go p e s below _ _ _ _ s₁ (mkF m 7 #[.val (.ref s1), .val (.int (Int32.ofNat i)), .val (.int (Int32.ofNat (allC fl ml f0 f1 m0 m1).length)), .val (.int fl), .val (.int f0), .val (.int f1), .val (.int m0), .val (.int m1)] [(.int (Int32.ofNat i)), (.ref s1)])
    obtain ⟨_, b102, T102, h102, L102, e102, Cc102, X102, B102, J102, g102, hQ102, st102⟩ := own_callV Cc B0 J0 X0 (hw _ (List.mem_of_getElem? (i := 159) rfl)) (hw _ (List.mem_of_getElem? (i := 160) rfl)) (notFace_of_selects (args := #[]) (mvT hZ (hw _ (List.mem_of_getElem? (i := 162) rfl)))) (hw _ (List.mem_of_getElem? (i := 162) rfl)) (hw _ (List.mem_of_getElem? (i := 161) rfl)) (hw _ (List.mem_of_getElem? (i := 7) rfl)) (hw _ (List.mem_of_getElem? (i := 163) rfl)) (by decide) Es1 (rm28 l Z a0 hw [] s1 t1 _ (allC fl ml f0 f1 m0 m1) cd bb i zc _ h0 n0 O0 h0.size (own_ole O0) K0.1 fs hfs S_F S_D S_H S_L Es1 Fv1 Fc1 hso V1 (Nat.le_trans (allC_le ..) (by decide)) (rng_app (rng_app (mkL_rng hq_f0 hq_f1) rng_lit) (mkL_rng hq_m0 hq_m1)) hi S_C hzc) e0 (g := (mkF m 7 #[.val (.ref s1), .val (.int (Int32.ofNat i)), .val (.int (Int32.ofNat (allC fl ml f0 f1 m0 m1).length)), .val (.int fl), .val (.int f0), .val (.int f1), .val (.int m0), .val (.int m1)] [(.int (Int32.ofNat i)), (.ref s1)])) rfl (by rw [hml]; rfl) (argsL := [(.int (Int32.ofNat i))]) (rest := []) (lenOf pd38 rfl) rfl (W := 0) (by show 2 * 0 + _ ≤ _; exact Nat.le_of_eq rfl) (hb hby d27_7) (by decide) (by decide) (by decide) (by decide)
    obtain ⟨rfl, Nq102, hh102⟩ := hQ102
    have N102 := Fr.app N0 Nq102
    obtain ⟨hx, hZ, hown, hby, hml, hnm, hret, hlk⟩ := id Cc102
    rw [hh102] at e102 B102 J102
    refine Go.of st102 ?_
    show Go p e s below _ _ _ _ T102 (mkF m 10 #[.val (.ref s1), .val (.int (Int32.ofNat i)), .val (.int (Int32.ofNat (allC fl ml f0 f1 m0 m1).length)), .val (.int fl), .val (.int f0), .val (.int f1), .val (.int m0), .val (.int m1)] [(.int ((allC fl ml f0 f1 m0 m1).getD i 0))])
    refine Go.of (fun _ hr => XS.iloadN X102.here hx rfl (hb hby d27_10) rfl  hr) ?_
    show Go p e s below _ _ _ _ T102 (mkF m 11 #[.val (.ref s1), .val (.int (Int32.ofNat i)), .val (.int (Int32.ofNat (allC fl ml f0 f1 m0 m1).length)), .val (.int fl), .val (.int f0), .val (.int f1), .val (.int m0), .val (.int m1)] [(.int (Int32.ofNat i)), (.int ((allC fl ml f0 f1 m0 m1).getD i 0))])
    refine Go.of (fun _ hr => XS.iloadN X102.here hx rfl (hb hby d27_11) rfl  hr) ?_
    show Go p e s below _ _ _ _ T102 (mkF m 12 #[.val (.ref s1), .val (.int (Int32.ofNat i)), .val (.int (Int32.ofNat (allC fl ml f0 f1 m0 m1).length)), .val (.int fl), .val (.int f0), .val (.int f1), .val (.int m0), .val (.int m1)] [(.int fl), (.int (Int32.ofNat i)), (.int ((allC fl ml f0 f1 m0 m1).getD i 0))])
    refine Go.of (fun _ hr => XS.iload X102.here hx rfl (hb hby d27_12) rfl  hr) ?_
    show Go p e s below _ _ _ _ T102 (mkF m 14 #[.val (.ref s1), .val (.int (Int32.ofNat i)), .val (.int (Int32.ofNat (allC fl ml f0 f1 m0 m1).length)), .val (.int fl), .val (.int f0), .val (.int f1), .val (.int m0), .val (.int m1)] [(.int f0), (.int fl), (.int (Int32.ofNat i)), (.int ((allC fl ml f0 f1 m0 m1).getD i 0))])
    refine Go.of (fun _ hr => XS.iload X102.here hx rfl (hb hby d27_14) rfl  hr) ?_
    show Go p e s below _ _ _ _ T102 (mkF m 16 #[.val (.ref s1), .val (.int (Int32.ofNat i)), .val (.int (Int32.ofNat (allC fl ml f0 f1 m0 m1).length)), .val (.int fl), .val (.int f0), .val (.int f1), .val (.int m0), .val (.int m1)] [(.int f1), (.int f0), (.int fl), (.int (Int32.ofNat i)), (.int ((allC fl ml f0 f1 m0 m1).getD i 0))])
    refine Go.of (fun _ hr => XS.iload X102.here hx rfl (hb hby d27_16) rfl  hr) ?_
    show Go p e s below _ _ _ _ T102 (mkF m 18 #[.val (.ref s1), .val (.int (Int32.ofNat i)), .val (.int (Int32.ofNat (allC fl ml f0 f1 m0 m1).length)), .val (.int fl), .val (.int f0), .val (.int f1), .val (.int m0), .val (.int m1)] [(.int m0), (.int f1), (.int f0), (.int fl), (.int (Int32.ofNat i)), (.int ((allC fl ml f0 f1 m0 m1).getD i 0))])
    refine Go.of (fun _ hr => XS.iload X102.here hx rfl (hb hby d27_18) rfl  hr) ?_
    show Go p e s below _ _ _ _ T102 (mkF m 20 #[.val (.ref s1), .val (.int (Int32.ofNat i)), .val (.int (Int32.ofNat (allC fl ml f0 f1 m0 m1).length)), .val (.int fl), .val (.int f0), .val (.int f1), .val (.int m0), .val (.int m1)] [(.int m1), (.int m0), (.int f1), (.int f0), (.int fl), (.int (Int32.ofNat i)), (.int ((allC fl ml f0 f1 m0 m1).getD i 0))])
    obtain ⟨_, b103, T103, h103, L103, e103, Cc103, X103, B103, J103, g103, hQ103, st103⟩ := own_callS Cc102 B102 J102 X102 (hw _ (List.mem_of_getElem? (i := 181) rfl)) (hw _ (List.mem_of_getElem? (i := 182) rfl)) (hw _ (List.mem_of_getElem? (i := 4) rfl)) (hw _ (List.mem_of_getElem? (i := 183) rfl)) (by decide) (rm33 l Z a0 hw [] (Int32.ofNat i) fl f0 f1 m0 m1 _ h0 n0 O0 h0.size (own_ole O0) K0.1 hq_f0 hq_f1 hq_m0 hq_m1) e102 (g := (mkF m 20 #[.val (.ref s1), .val (.int (Int32.ofNat i)), .val (.int (Int32.ofNat (allC fl ml f0 f1 m0 m1).length)), .val (.int fl), .val (.int f0), .val (.int f1), .val (.int m0), .val (.int m1)] [(.int m1), (.int m0), (.int f1), (.int f0), (.int fl), (.int (Int32.ofNat i)), (.int ((allC fl ml f0 f1 m0 m1).getD i 0))])) rfl (by rw [hml]; rfl) (argsL := [(.int (Int32.ofNat i)), (.int fl), (.int f0), (.int f1), (.int m0), (.int m1)]) (rest := [(.int ((allC fl ml f0 f1 m0 m1).getD i 0))]) (lenOf pd39 rfl) rfl (W := 1) (by show 2 * 0 + _ ≤ _; exact Nat.le_of_eq rfl) (hb hby d27_20) (by decide) (by decide) (by decide) (by decide)
    obtain ⟨rfl, Nq103, hh103⟩ := hQ103
    have N103 := Fr.app N102 Nq103
    obtain ⟨hx, hZ, hown, hby, hml, hnm, hret, hlk⟩ := id Cc103
    rw [hh103] at e103 B103 J103
    refine Go.of st103 ?_
    show Go p e s below _ _ _ _ T103 (mkF m 23 #[.val (.ref s1), .val (.int (Int32.ofNat i)), .val (.int (Int32.ofNat (allC fl ml f0 f1 m0 m1).length)), .val (.int fl), .val (.int f0), .val (.int f1), .val (.int m0), .val (.int m1)] [(.int (atV (Int32.ofNat i) fl f0 f1 m0 m1)), (.int ((allC fl ml f0 f1 m0 m1).getD i 0))])
    refine Go.of (fun _ hr => XS.icmpNo X103.here hx rfl (hb hby d27_23) rfl (teq (at_eq hf hm hi)).2 hr) ?_
    show Go p e s below _ _ _ _ T103 (mkF m 26 #[.val (.ref s1), .val (.int (Int32.ofNat i)), .val (.int (Int32.ofNat (allC fl ml f0 f1 m0 m1).length)), .val (.int fl), .val (.int f0), .val (.int f1), .val (.int m0), .val (.int m1)] [])
    refine Go.of (fun _ hr => XS.iconst X103.here hx rfl (hb hby d27_26) hr) ?_
    show Go p e s below _ _ _ _ T103 (mkF m 27 #[.val (.ref s1), .val (.int (Int32.ofNat i)), .val (.int (Int32.ofNat (allC fl ml f0 f1 m0 m1).length)), .val (.int fl), .val (.int f0), .val (.int f1), .val (.int m0), .val (.int m1)] [(.int (1 : Int32))])
    refine Go.of (fun _ hr => XS.goto X103.here hx rfl (pc0 := 27) (pc' := 31) rfl (hb hby d27_27) (by decide) (by decide) hr) ?_
    show Go p e s below _ _ _ _ T103 (mkF m 31 #[.val (.ref s1), .val (.int (Int32.ofNat i)), .val (.int (Int32.ofNat (allC fl ml f0 f1 m0 m1).length)), .val (.int fl), .val (.int f0), .val (.int f1), .val (.int m0), .val (.int m1)] [(.int (1 : Int32))])
    exact Go.retN X103 hx hlk B103 J103 e103 (t := .boolean) (z' := (1 : Int32)) hret (by simp) (hb hby d27_31) rfl (by decide) (by decide) (fun vm_ hw_ => ⟨rfl, (fun y hy => Nat.le_trans hnb (N103 y hy)), rfl⟩)
  · refine Go.of (fun _ hr => XS.icmpYes X0.here hx rfl (pc0 := 2) (pc' := 26) rfl (hb hby d27_2) rfl (flt hb2_101).2.1 (by decide) (by decide) hr) ?_
    show Go p e s below _ _ _ _ s₁ (mkF m 26 #[.val (.ref s1), .val (.int (Int32.ofNat i)), .val (.int (Int32.ofNat (allC fl ml f0 f1 m0 m1).length)), .val (.int fl), .val (.int f0), .val (.int f1), .val (.int m0), .val (.int m1)] [])
    refine Go.of (fun _ hr => XS.iconst X0.here hx rfl (hb hby d27_26) hr) ?_
    show Go p e s below _ _ _ _ s₁ (mkF m 27 #[.val (.ref s1), .val (.int (Int32.ofNat i)), .val (.int (Int32.ofNat (allC fl ml f0 f1 m0 m1).length)), .val (.int fl), .val (.int f0), .val (.int f1), .val (.int m0), .val (.int m1)] [(.int (1 : Int32))])
    refine Go.of (fun _ hr => XS.goto X0.here hx rfl (pc0 := 27) (pc' := 31) rfl (hb hby d27_27) (by decide) (by decide) hr) ?_
    show Go p e s below _ _ _ _ s₁ (mkF m 31 #[.val (.ref s1), .val (.int (Int32.ofNat i)), .val (.int (Int32.ofNat (allC fl ml f0 f1 m0 m1).length)), .val (.int fl), .val (.int f0), .val (.int f1), .val (.int m0), .val (.int m1)] [(.int (1 : Int32))])
    exact Go.retN X0 hx hlk B0 J0 e0 (t := .boolean) (z' := (1 : Int32)) hret (by simp) (hb hby d27_31) rfl (by decide) (by decide) (fun vm_ hw_ => ⟨rfl, (fun y hy => Nat.le_trans hnb (N0 y hy)), rfl⟩)

theorem pd40 : parseMethodDescriptor "(Ljava/lang/String;IIICCCC)Z" = some ⟨[(.object "java/lang/String"), .int, .int, .int, .char, .char, .char, .char], some .boolean⟩ := by decide +kernel
set_option maxRecDepth 65536 in
set_option maxHeartbeats 40000000 in
theorem law_tail (l : Launch) (Z : State) (a0 : Array Value) (hw : ∀ d ∈ tables_1, d.before a0 Z = true) {p : Program} {e : Env} {s b T0 : State} {m : MethodId} {args : Array Value} {below : List Frame} {meth : Method} {c : Code} {locs : List Loc} {ms : List Addr} (p1 p2 p3 p4 fl ml f0 f1 m0 m1 : Int32) (x1 x2 s1 t1 : Addr) (k1 : ClassId) (cd : Int32) (bb : List Int32) (zc : Int32) (h0 : Heap) (n0 : Nat) (O0 : Old Z n0 h0) (nb : Nat) (hb0 : n0 ≤ nb) (hnb : nb ≤ h0.size) (fs : Value) (hfs : fs = .null ∨ ∃ a, fs = .ref a) (S_F : Sta Z Z.heap "jdk/internal/util/Preconditions" "SIOOBE_FORMATTER" "Ljava/util/function/BiFunction;" fs) (S_D : Sta Z Z.heap "java/lang/StringUTF16" "$assertionsDisabled" "Z" (.int 1)) (S_H : Sta Z Z.heap "java/lang/StringUTF16" "HI_BYTE_SHIFT" "I" (.int 0)) (S_L : Sta Z Z.heap "java/lang/StringUTF16" "LO_BYTE_SHIFT" "I" (.int 8)) (hf : fl = 0 ∨ fl = 1 ∨ fl = 2) (hm : ml = 0 ∨ ml = 1 ∨ ml = 2) (hq_f0 : rng16 f0) (hq_f1 : rng16 f1) (hq_m0 : rng16 m0) (hq_m1 : rng16 m1) (Es1 : Exa Z h0 s1 "java/lang/String") (Fv1 : Fld Z h0 s1 "java/lang/String" "value" "[B" (.ref t1)) (Fc1 : Fld Z h0 s1 "java/lang/String" "coder" "B" (.int cd)) (hso : StrOf (allC fl ml f0 f1 m0 m1) cd bb) (V1 : Arv Z h0 t1 k1 .byte (Int32.ofNat bb.length) (bb.map Value.int) (.int 0)) (S_C : Sta Z Z.heap "java/lang/String" "COMPACT_STRINGS" "Z" (.int zc)) (hzc : ¬ zc = 0) (Cc : Cx Z p b m meth c "com/example/dispatcher/dispatcher/web/FieldErrorToStringPinLaw" code 15 "law" ret) (X0 : Stand p l e room_1 b m args below meth c T0 locs 22 330) (e0 : T0.heap = h0) (N0 : Fr nb locs) (J0 : Hd Z (ms) b.vm h0) (B0 : Bs s b h0) :
    Go p e s below room_1.cells room_1.slots (Hd Z ms) (fun v vm h L => v = some (.int 1) ∧ Fr nb L) T0 (mkF m 97 #[.val (.int p1), .val (.int p2), .val (.int p3), .val (.int p4), .val (.int fl), .val (.int ml), .val (.int f0), .val (.int f1), .val (.int m0), .val (.int m1), .val (.ref x1), .val (.ref x2), .val (.ref s1), .val (.int (Int32.ofNat (allC fl ml f0 f1 m0 m1).length)), .unset] []) := by
  obtain ⟨hx, hZ, hown, hby, hml, hnm, hret, hlk⟩ := id Cc
  have K0 := Keep.refl h0 []
  show Go p e s below _ _ _ _ T0 (mkF m 97 #[.val (.int p1), .val (.int p2), .val (.int p3), .val (.int p4), .val (.int fl), .val (.int ml), .val (.int f0), .val (.int f1), .val (.int m0), .val (.int m1), .val (.ref x1), .val (.ref x2), .val (.ref s1), .val (.int (Int32.ofNat (allC fl ml f0 f1 m0 m1).length)), .unset] [])
  refine Go.of (fun _ hr => XS.aload X0.here hx rfl (hb hby at_97) rfl rfl hr) ?_
  show Go p e s below _ _ _ _ T0 (mkF m 99 #[.val (.int p1), .val (.int p2), .val (.int p3), .val (.int p4), .val (.int fl), .val (.int ml), .val (.int f0), .val (.int f1), .val (.int m0), .val (.int m1), .val (.ref x1), .val (.ref x2), .val (.ref s1), .val (.int (Int32.ofNat (allC fl ml f0 f1 m0 m1).length)), .unset] [(.ref s1)])
  refine Go.of (fun _ hr => XS.ifnullNo X0.here hx rfl (hb hby at_99) rfl hr) ?_
  show Go p e s below _ _ _ _ T0 (mkF m 102 #[.val (.int p1), .val (.int p2), .val (.int p3), .val (.int p4), .val (.int fl), .val (.int ml), .val (.int f0), .val (.int f1), .val (.int m0), .val (.int m1), .val (.ref x1), .val (.ref x2), .val (.ref s1), .val (.int (Int32.ofNat (allC fl ml f0 f1 m0 m1).length)), .unset] [])
  refine Go.of (fun _ hr => XS.aload X0.here hx rfl (hb hby at_102) rfl rfl hr) ?_
  show Go p e s below _ _ _ _ T0 (mkF m 104 #[.val (.int p1), .val (.int p2), .val (.int p3), .val (.int p4), .val (.int fl), .val (.int ml), .val (.int f0), .val (.int f1), .val (.int m0), .val (.int m1), .val (.ref x1), .val (.ref x2), .val (.ref s1), .val (.int (Int32.ofNat (allC fl ml f0 f1 m0 m1).length)), .unset] [(.ref s1)])
  obtain ⟨_, b101, T101, h101, L101, e101, Cc101, X101, B101, J101, g101, hQ101, st101⟩ := own_callV Cc B0 J0 X0 (hw _ (List.mem_of_getElem? (i := 155) rfl)) (hw _ (List.mem_of_getElem? (i := 69) rfl)) (notFace_of_selects (args := #[]) (mvT hZ (hw _ (List.mem_of_getElem? (i := 71) rfl)))) (hw _ (List.mem_of_getElem? (i := 71) rfl)) (hw _ (List.mem_of_getElem? (i := 70) rfl)) (hw _ (List.mem_of_getElem? (i := 7) rfl)) (hw _ (List.mem_of_getElem? (i := 72) rfl)) (by decide) Es1 (rm10 l Z a0 hw [] s1 t1 _ (allC fl ml f0 f1 m0 m1) cd bb zc _ h0 n0 O0 h0.size (own_ole O0) K0.1 Es1 Fv1 Fc1 hso V1 (Nat.le_trans (allC_le ..) (by decide)) (rng_app (rng_app (mkL_rng hq_f0 hq_f1) rng_lit) (mkL_rng hq_m0 hq_m1)) S_C hzc) e0 (g := (mkF m 104 #[.val (.int p1), .val (.int p2), .val (.int p3), .val (.int p4), .val (.int fl), .val (.int ml), .val (.int f0), .val (.int f1), .val (.int m0), .val (.int m1), .val (.ref x1), .val (.ref x2), .val (.ref s1), .val (.int (Int32.ofNat (allC fl ml f0 f1 m0 m1).length)), .unset] [(.ref s1)])) rfl (by rw [hml]; rfl) (argsL := []) (rest := []) (lenOf pd25 rfl) rfl (W := 0) (by show 2 * 0 + _ ≤ _; exact Nat.le_of_eq rfl) (hb hby at_104) (by decide) (by decide) (by decide) (by decide)
  obtain ⟨rfl, Nq101, hh101⟩ := hQ101
  have N101 := Fr.app N0 (show Fr nb _ from fun y hy => Nat.le_trans hnb (Nq101 y hy))
  obtain ⟨hx, hZ, hown, hby, hml, hnm, hret, hlk⟩ := id Cc101
  rw [hh101] at e101 B101 J101
  refine Go.of st101 ?_
  show Go p e s below _ _ _ _ T101 (mkF m 107 #[.val (.int p1), .val (.int p2), .val (.int p3), .val (.int p4), .val (.int fl), .val (.int ml), .val (.int f0), .val (.int f1), .val (.int m0), .val (.int m1), .val (.ref x1), .val (.ref x2), .val (.ref s1), .val (.int (Int32.ofNat (allC fl ml f0 f1 m0 m1).length)), .unset] [(.int (Int32.ofNat (allC fl ml f0 f1 m0 m1).length))])
  refine Go.of (fun _ hr => XS.iload X101.here hx rfl (hb hby at_107) rfl  hr) ?_
  show Go p e s below _ _ _ _ T101 (mkF m 109 #[.val (.int p1), .val (.int p2), .val (.int p3), .val (.int p4), .val (.int fl), .val (.int ml), .val (.int f0), .val (.int f1), .val (.int m0), .val (.int m1), .val (.ref x1), .val (.ref x2), .val (.ref s1), .val (.int (Int32.ofNat (allC fl ml f0 f1 m0 m1).length)), .unset] [(.int (Int32.ofNat (allC fl ml f0 f1 m0 m1).length)), (.int (Int32.ofNat (allC fl ml f0 f1 m0 m1).length))])
  refine Go.of (fun _ hr => XS.icmpYes X101.here hx rfl (pc0 := 109) (pc' := 114) rfl (hb hby at_109) rfl (teq rfl).1 (by decide) (by decide) hr) ?_
  show Go p e s below _ _ _ _ T101 (mkF m 114 #[.val (.int p1), .val (.int p2), .val (.int p3), .val (.int p4), .val (.int fl), .val (.int ml), .val (.int f0), .val (.int f1), .val (.int m0), .val (.int m1), .val (.ref x1), .val (.ref x2), .val (.ref s1), .val (.int (Int32.ofNat (allC fl ml f0 f1 m0 m1).length)), .unset] [])
  refine Go.of (fun _ hr => XS.aload X101.here hx rfl (hb hby at_114) rfl rfl hr) ?_
  show Go p e s below _ _ _ _ T101 (mkF m 116 #[.val (.int p1), .val (.int p2), .val (.int p3), .val (.int p4), .val (.int fl), .val (.int ml), .val (.int f0), .val (.int f1), .val (.int m0), .val (.int m1), .val (.ref x1), .val (.ref x2), .val (.ref s1), .val (.int (Int32.ofNat (allC fl ml f0 f1 m0 m1).length)), .unset] [(.ref s1)])
  refine Go.of (fun _ hr => XS.iconst X101.here hx rfl (hb hby at_116) hr) ?_
  show Go p e s below _ _ _ _ T101 (mkF m 117 #[.val (.int p1), .val (.int p2), .val (.int p3), .val (.int p4), .val (.int fl), .val (.int ml), .val (.int f0), .val (.int f1), .val (.int m0), .val (.int m1), .val (.ref x1), .val (.ref x2), .val (.ref s1), .val (.int (Int32.ofNat (allC fl ml f0 f1 m0 m1).length)), .unset] [(.int (0 : Int32)), (.ref s1)])
  refine Go.of (fun _ hr => XS.iload X101.here hx rfl (hb hby at_117) rfl  hr) ?_
  show Go p e s below _ _ _ _ T101 (mkF m 119 #[.val (.int p1), .val (.int p2), .val (.int p3), .val (.int p4), .val (.int fl), .val (.int ml), .val (.int f0), .val (.int f1), .val (.int m0), .val (.int m1), .val (.ref x1), .val (.ref x2), .val (.ref s1), .val (.int (Int32.ofNat (allC fl ml f0 f1 m0 m1).length)), .unset] [(.int (Int32.ofNat (allC fl ml f0 f1 m0 m1).length)), (.int (0 : Int32)), (.ref s1)])
  refine Go.of (fun _ hr => XS.iload X101.here hx rfl (hb hby at_119) rfl  hr) ?_
  show Go p e s below _ _ _ _ T101 (mkF m 121 #[.val (.int p1), .val (.int p2), .val (.int p3), .val (.int p4), .val (.int fl), .val (.int ml), .val (.int f0), .val (.int f1), .val (.int m0), .val (.int m1), .val (.ref x1), .val (.ref x2), .val (.ref s1), .val (.int (Int32.ofNat (allC fl ml f0 f1 m0 m1).length)), .unset] [(.int fl), (.int (Int32.ofNat (allC fl ml f0 f1 m0 m1).length)), (.int (0 : Int32)), (.ref s1)])
  refine Go.of (fun _ hr => XS.iload X101.here hx rfl (hb hby at_121) rfl  hr) ?_
  show Go p e s below _ _ _ _ T101 (mkF m 123 #[.val (.int p1), .val (.int p2), .val (.int p3), .val (.int p4), .val (.int fl), .val (.int ml), .val (.int f0), .val (.int f1), .val (.int m0), .val (.int m1), .val (.ref x1), .val (.ref x2), .val (.ref s1), .val (.int (Int32.ofNat (allC fl ml f0 f1 m0 m1).length)), .unset] [(.int f0), (.int fl), (.int (Int32.ofNat (allC fl ml f0 f1 m0 m1).length)), (.int (0 : Int32)), (.ref s1)])
  refine Go.of (fun _ hr => XS.iload X101.here hx rfl (hb hby at_123) rfl  hr) ?_
  show Go p e s below _ _ _ _ T101 (mkF m 125 #[.val (.int p1), .val (.int p2), .val (.int p3), .val (.int p4), .val (.int fl), .val (.int ml), .val (.int f0), .val (.int f1), .val (.int m0), .val (.int m1), .val (.ref x1), .val (.ref x2), .val (.ref s1), .val (.int (Int32.ofNat (allC fl ml f0 f1 m0 m1).length)), .unset] [(.int f1), (.int f0), (.int fl), (.int (Int32.ofNat (allC fl ml f0 f1 m0 m1).length)), (.int (0 : Int32)), (.ref s1)])
  refine Go.of (fun _ hr => XS.iload X101.here hx rfl (hb hby at_125) rfl  hr) ?_
  show Go p e s below _ _ _ _ T101 (mkF m 127 #[.val (.int p1), .val (.int p2), .val (.int p3), .val (.int p4), .val (.int fl), .val (.int ml), .val (.int f0), .val (.int f1), .val (.int m0), .val (.int m1), .val (.ref x1), .val (.ref x2), .val (.ref s1), .val (.int (Int32.ofNat (allC fl ml f0 f1 m0 m1).length)), .unset] [(.int m0), (.int f1), (.int f0), (.int fl), (.int (Int32.ofNat (allC fl ml f0 f1 m0 m1).length)), (.int (0 : Int32)), (.ref s1)])
  refine Go.of (fun _ hr => XS.iload X101.here hx rfl (hb hby at_127) rfl  hr) ?_
  show Go p e s below _ _ _ _ T101 (mkF m 129 #[.val (.int p1), .val (.int p2), .val (.int p3), .val (.int p4), .val (.int fl), .val (.int ml), .val (.int f0), .val (.int f1), .val (.int m0), .val (.int m1), .val (.ref x1), .val (.ref x2), .val (.ref s1), .val (.int (Int32.ofNat (allC fl ml f0 f1 m0 m1).length)), .unset] [(.int m1), (.int m0), (.int f1), (.int f0), (.int fl), (.int (Int32.ofNat (allC fl ml f0 f1 m0 m1).length)), (.int (0 : Int32)), (.ref s1)])
  obtain ⟨_, b102, T102, h102, L102, e102, Cc102, X102, B102, J102, g102, hQ102, st102⟩ := own_callS Cc101 B101 J101 X101 (hw _ (List.mem_of_getElem? (i := 156) rfl)) (hw _ (List.mem_of_getElem? (i := 157) rfl)) (hw _ (List.mem_of_getElem? (i := 4) rfl)) (hw _ (List.mem_of_getElem? (i := 158) rfl)) (by decide) (rm27 l Z a0 hw [] s1 t1 _ cd bb fl ml f0 f1 m0 m1 0 zc _ h0 n0 O0 h0.size (own_ole O0) K0.1 fs hfs S_F S_D S_H S_L hf hm hq_f0 hq_f1 hq_m0 hq_m1 (by decide) Es1 Fv1 Fc1 hso V1 S_C hzc) e101 (g := (mkF m 129 #[.val (.int p1), .val (.int p2), .val (.int p3), .val (.int p4), .val (.int fl), .val (.int ml), .val (.int f0), .val (.int f1), .val (.int m0), .val (.int m1), .val (.ref x1), .val (.ref x2), .val (.ref s1), .val (.int (Int32.ofNat (allC fl ml f0 f1 m0 m1).length)), .unset] [(.int m1), (.int m0), (.int f1), (.int f0), (.int fl), (.int (Int32.ofNat (allC fl ml f0 f1 m0 m1).length)), (.int (0 : Int32)), (.ref s1)])) rfl (by rw [hml]; rfl) (argsL := [(.ref s1), (.int (0 : Int32)), (.int (Int32.ofNat (allC fl ml f0 f1 m0 m1).length)), (.int fl), (.int f0), (.int f1), (.int m0), (.int m1)]) (rest := []) (lenOf pd40 rfl) rfl (W := 0) (by show 2 * 0 + _ ≤ _; exact Nat.le_of_eq rfl) (hb hby at_129) (by decide) (by decide) (by decide) (by decide)
  obtain ⟨rfl, Nq102, hh102⟩ := hQ102
  have N102 := Fr.app N101 (show Fr nb _ from fun y hy => Nat.le_trans hnb (Nq102 y hy))
  obtain ⟨hx, hZ, hown, hby, hml, hnm, hret, hlk⟩ := id Cc102
  rw [hh102] at e102 B102 J102
  refine Go.of st102 ?_
  show Go p e s below _ _ _ _ T102 (mkF m 132 #[.val (.int p1), .val (.int p2), .val (.int p3), .val (.int p4), .val (.int fl), .val (.int ml), .val (.int f0), .val (.int f1), .val (.int m0), .val (.int m1), .val (.ref x1), .val (.ref x2), .val (.ref s1), .val (.int (Int32.ofNat (allC fl ml f0 f1 m0 m1).length)), .unset] [(.int (1 : Int32))])
  refine Go.of (fun _ hr => XS.istore X102.here hx rfl (hb hby at_132) rfl (l' := #[.val (.int p1), .val (.int p2), .val (.int p3), .val (.int p4), .val (.int fl), .val (.int ml), .val (.int f0), .val (.int f1), .val (.int m0), .val (.int m1), .val (.ref x1), .val (.ref x2), .val (.ref s1), .val (.int (Int32.ofNat (allC fl ml f0 f1 m0 m1).length)), .val (.int (1 : Int32))]) rfl hr) ?_
  show Go p e s below _ _ _ _ T102 (mkF m 134 #[.val (.int p1), .val (.int p2), .val (.int p3), .val (.int p4), .val (.int fl), .val (.int ml), .val (.int f0), .val (.int f1), .val (.int m0), .val (.int m1), .val (.ref x1), .val (.ref x2), .val (.ref s1), .val (.int (Int32.ofNat (allC fl ml f0 f1 m0 m1).length)), .val (.int (1 : Int32))] [])
  refine Go.of (fun _ hr => XS.iload X102.here hx rfl (hb hby at_134) rfl  hr) ?_
  show Go p e s below _ _ _ _ T102 (mkF m 136 #[.val (.int p1), .val (.int p2), .val (.int p3), .val (.int p4), .val (.int fl), .val (.int ml), .val (.int f0), .val (.int f1), .val (.int m0), .val (.int m1), .val (.ref x1), .val (.ref x2), .val (.ref s1), .val (.int (Int32.ofNat (allC fl ml f0 f1 m0 m1).length)), .val (.int (1 : Int32))] [(.int (1 : Int32))])
  refine Go.of (fun _ hr => XS.ifNo X102.here hx rfl (hb hby at_136) rfl ((if0 _ _).trans (feq (by decide : ¬ ((1 : Int32) = (0 : Int32)))).1) hr) ?_
  show Go p e s below _ _ _ _ T102 (mkF m 139 #[.val (.int p1), .val (.int p2), .val (.int p3), .val (.int p4), .val (.int fl), .val (.int ml), .val (.int f0), .val (.int f1), .val (.int m0), .val (.int m1), .val (.ref x1), .val (.ref x2), .val (.ref s1), .val (.int (Int32.ofNat (allC fl ml f0 f1 m0 m1).length)), .val (.int (1 : Int32))] [])
  refine Go.of (fun _ hr => XS.aload X102.here hx rfl (hb hby at_139) rfl rfl hr) ?_
  show Go p e s below _ _ _ _ T102 (mkF m 141 #[.val (.int p1), .val (.int p2), .val (.int p3), .val (.int p4), .val (.int fl), .val (.int ml), .val (.int f0), .val (.int f1), .val (.int m0), .val (.int m1), .val (.ref x1), .val (.ref x2), .val (.ref s1), .val (.int (Int32.ofNat (allC fl ml f0 f1 m0 m1).length)), .val (.int (1 : Int32))] [(.ref s1)])
  refine Go.of (fun _ hr => XS.iconst X102.here hx rfl (hb hby at_141) hr) ?_
  show Go p e s below _ _ _ _ T102 (mkF m 142 #[.val (.int p1), .val (.int p2), .val (.int p3), .val (.int p4), .val (.int fl), .val (.int ml), .val (.int f0), .val (.int f1), .val (.int m0), .val (.int m1), .val (.ref x1), .val (.ref x2), .val (.ref s1), .val (.int (Int32.ofNat (allC fl ml f0 f1 m0 m1).length)), .val (.int (1 : Int32))] [(.int (1 : Int32)), (.ref s1)])
  refine Go.of (fun _ hr => XS.iload X102.here hx rfl (hb hby at_142) rfl  hr) ?_
  show Go p e s below _ _ _ _ T102 (mkF m 144 #[.val (.int p1), .val (.int p2), .val (.int p3), .val (.int p4), .val (.int fl), .val (.int ml), .val (.int f0), .val (.int f1), .val (.int m0), .val (.int m1), .val (.ref x1), .val (.ref x2), .val (.ref s1), .val (.int (Int32.ofNat (allC fl ml f0 f1 m0 m1).length)), .val (.int (1 : Int32))] [(.int (Int32.ofNat (allC fl ml f0 f1 m0 m1).length)), (.int (1 : Int32)), (.ref s1)])
  refine Go.of (fun _ hr => XS.iload X102.here hx rfl (hb hby at_144) rfl  hr) ?_
  show Go p e s below _ _ _ _ T102 (mkF m 146 #[.val (.int p1), .val (.int p2), .val (.int p3), .val (.int p4), .val (.int fl), .val (.int ml), .val (.int f0), .val (.int f1), .val (.int m0), .val (.int m1), .val (.ref x1), .val (.ref x2), .val (.ref s1), .val (.int (Int32.ofNat (allC fl ml f0 f1 m0 m1).length)), .val (.int (1 : Int32))] [(.int fl), (.int (Int32.ofNat (allC fl ml f0 f1 m0 m1).length)), (.int (1 : Int32)), (.ref s1)])
  refine Go.of (fun _ hr => XS.iload X102.here hx rfl (hb hby at_146) rfl  hr) ?_
  show Go p e s below _ _ _ _ T102 (mkF m 148 #[.val (.int p1), .val (.int p2), .val (.int p3), .val (.int p4), .val (.int fl), .val (.int ml), .val (.int f0), .val (.int f1), .val (.int m0), .val (.int m1), .val (.ref x1), .val (.ref x2), .val (.ref s1), .val (.int (Int32.ofNat (allC fl ml f0 f1 m0 m1).length)), .val (.int (1 : Int32))] [(.int f0), (.int fl), (.int (Int32.ofNat (allC fl ml f0 f1 m0 m1).length)), (.int (1 : Int32)), (.ref s1)])
  refine Go.of (fun _ hr => XS.iload X102.here hx rfl (hb hby at_148) rfl  hr) ?_
  show Go p e s below _ _ _ _ T102 (mkF m 150 #[.val (.int p1), .val (.int p2), .val (.int p3), .val (.int p4), .val (.int fl), .val (.int ml), .val (.int f0), .val (.int f1), .val (.int m0), .val (.int m1), .val (.ref x1), .val (.ref x2), .val (.ref s1), .val (.int (Int32.ofNat (allC fl ml f0 f1 m0 m1).length)), .val (.int (1 : Int32))] [(.int f1), (.int f0), (.int fl), (.int (Int32.ofNat (allC fl ml f0 f1 m0 m1).length)), (.int (1 : Int32)), (.ref s1)])
  refine Go.of (fun _ hr => XS.iload X102.here hx rfl (hb hby at_150) rfl  hr) ?_
  show Go p e s below _ _ _ _ T102 (mkF m 152 #[.val (.int p1), .val (.int p2), .val (.int p3), .val (.int p4), .val (.int fl), .val (.int ml), .val (.int f0), .val (.int f1), .val (.int m0), .val (.int m1), .val (.ref x1), .val (.ref x2), .val (.ref s1), .val (.int (Int32.ofNat (allC fl ml f0 f1 m0 m1).length)), .val (.int (1 : Int32))] [(.int m0), (.int f1), (.int f0), (.int fl), (.int (Int32.ofNat (allC fl ml f0 f1 m0 m1).length)), (.int (1 : Int32)), (.ref s1)])
  refine Go.of (fun _ hr => XS.iload X102.here hx rfl (hb hby at_152) rfl  hr) ?_
  show Go p e s below _ _ _ _ T102 (mkF m 154 #[.val (.int p1), .val (.int p2), .val (.int p3), .val (.int p4), .val (.int fl), .val (.int ml), .val (.int f0), .val (.int f1), .val (.int m0), .val (.int m1), .val (.ref x1), .val (.ref x2), .val (.ref s1), .val (.int (Int32.ofNat (allC fl ml f0 f1 m0 m1).length)), .val (.int (1 : Int32))] [(.int m1), (.int m0), (.int f1), (.int f0), (.int fl), (.int (Int32.ofNat (allC fl ml f0 f1 m0 m1).length)), (.int (1 : Int32)), (.ref s1)])
  obtain ⟨_, b103, T103, h103, L103, e103, Cc103, X103, B103, J103, g103, hQ103, st103⟩ := own_callS Cc102 B102 J102 X102 (hw _ (List.mem_of_getElem? (i := 156) rfl)) (hw _ (List.mem_of_getElem? (i := 157) rfl)) (hw _ (List.mem_of_getElem? (i := 4) rfl)) (hw _ (List.mem_of_getElem? (i := 158) rfl)) (by decide) (rm27 l Z a0 hw [] s1 t1 _ cd bb fl ml f0 f1 m0 m1 1 zc _ h0 n0 O0 h0.size (own_ole O0) K0.1 fs hfs S_F S_D S_H S_L hf hm hq_f0 hq_f1 hq_m0 hq_m1 (by decide) Es1 Fv1 Fc1 hso V1 S_C hzc) e102 (g := (mkF m 154 #[.val (.int p1), .val (.int p2), .val (.int p3), .val (.int p4), .val (.int fl), .val (.int ml), .val (.int f0), .val (.int f1), .val (.int m0), .val (.int m1), .val (.ref x1), .val (.ref x2), .val (.ref s1), .val (.int (Int32.ofNat (allC fl ml f0 f1 m0 m1).length)), .val (.int (1 : Int32))] [(.int m1), (.int m0), (.int f1), (.int f0), (.int fl), (.int (Int32.ofNat (allC fl ml f0 f1 m0 m1).length)), (.int (1 : Int32)), (.ref s1)])) rfl (by rw [hml]; rfl) (argsL := [(.ref s1), (.int (1 : Int32)), (.int (Int32.ofNat (allC fl ml f0 f1 m0 m1).length)), (.int fl), (.int f0), (.int f1), (.int m0), (.int m1)]) (rest := []) (lenOf pd40 rfl) rfl (W := 0) (by show 2 * 0 + _ ≤ _; exact Nat.le_of_eq rfl) (hb hby at_154) (by decide) (by decide) (by decide) (by decide)
  obtain ⟨rfl, Nq103, hh103⟩ := hQ103
  have N103 := Fr.app N102 (show Fr nb _ from fun y hy => Nat.le_trans hnb (Nq103 y hy))
  obtain ⟨hx, hZ, hown, hby, hml, hnm, hret, hlk⟩ := id Cc103
  rw [hh103] at e103 B103 J103
  refine Go.of st103 ?_
  show Go p e s below _ _ _ _ T103 (mkF m 157 #[.val (.int p1), .val (.int p2), .val (.int p3), .val (.int p4), .val (.int fl), .val (.int ml), .val (.int f0), .val (.int f1), .val (.int m0), .val (.int m1), .val (.ref x1), .val (.ref x2), .val (.ref s1), .val (.int (Int32.ofNat (allC fl ml f0 f1 m0 m1).length)), .val (.int (1 : Int32))] [(.int (1 : Int32))])
  refine Go.of (fun _ hr => XS.ifNo X103.here hx rfl (hb hby at_157) rfl ((if0 _ _).trans (feq (by decide : ¬ ((1 : Int32) = (0 : Int32)))).1) hr) ?_
  show Go p e s below _ _ _ _ T103 (mkF m 160 #[.val (.int p1), .val (.int p2), .val (.int p3), .val (.int p4), .val (.int fl), .val (.int ml), .val (.int f0), .val (.int f1), .val (.int m0), .val (.int m1), .val (.ref x1), .val (.ref x2), .val (.ref s1), .val (.int (Int32.ofNat (allC fl ml f0 f1 m0 m1).length)), .val (.int (1 : Int32))] [])
  refine Go.of (fun _ hr => XS.iconst X103.here hx rfl (hb hby at_160) hr) ?_
  show Go p e s below _ _ _ _ T103 (mkF m 161 #[.val (.int p1), .val (.int p2), .val (.int p3), .val (.int p4), .val (.int fl), .val (.int ml), .val (.int f0), .val (.int f1), .val (.int m0), .val (.int m1), .val (.ref x1), .val (.ref x2), .val (.ref s1), .val (.int (Int32.ofNat (allC fl ml f0 f1 m0 m1).length)), .val (.int (1 : Int32))] [(.int (1 : Int32))])
  refine Go.of (fun _ hr => XS.goto X103.here hx rfl (pc0 := 161) (pc' := 165) rfl (hb hby at_161) (by decide) (by decide) hr) ?_
  show Go p e s below _ _ _ _ T103 (mkF m 165 #[.val (.int p1), .val (.int p2), .val (.int p3), .val (.int p4), .val (.int fl), .val (.int ml), .val (.int f0), .val (.int f1), .val (.int m0), .val (.int m1), .val (.ref x1), .val (.ref x2), .val (.ref s1), .val (.int (Int32.ofNat (allC fl ml f0 f1 m0 m1).length)), .val (.int (1 : Int32))] [(.int (1 : Int32))])
  refine Go.of (fun _ hr => XS.istore X103.here hx rfl (hb hby at_165) rfl (l' := #[.val (.int p1), .val (.int p2), .val (.int p3), .val (.int p4), .val (.int fl), .val (.int ml), .val (.int f0), .val (.int f1), .val (.int m0), .val (.int m1), .val (.ref x1), .val (.ref x2), .val (.ref s1), .val (.int (Int32.ofNat (allC fl ml f0 f1 m0 m1).length)), .val (.int (1 : Int32))]) rfl hr) ?_
  show Go p e s below _ _ _ _ T103 (mkF m 167 #[.val (.int p1), .val (.int p2), .val (.int p3), .val (.int p4), .val (.int fl), .val (.int ml), .val (.int f0), .val (.int f1), .val (.int m0), .val (.int m1), .val (.ref x1), .val (.ref x2), .val (.ref s1), .val (.int (Int32.ofNat (allC fl ml f0 f1 m0 m1).length)), .val (.int (1 : Int32))] [])
  refine Go.of (fun _ hr => XS.iload X103.here hx rfl (hb hby at_167) rfl  hr) ?_
  show Go p e s below _ _ _ _ T103 (mkF m 169 #[.val (.int p1), .val (.int p2), .val (.int p3), .val (.int p4), .val (.int fl), .val (.int ml), .val (.int f0), .val (.int f1), .val (.int m0), .val (.int m1), .val (.ref x1), .val (.ref x2), .val (.ref s1), .val (.int (Int32.ofNat (allC fl ml f0 f1 m0 m1).length)), .val (.int (1 : Int32))] [(.int (1 : Int32))])
  refine Go.of (fun _ hr => XS.ifNo X103.here hx rfl (hb hby at_169) rfl ((if0 _ _).trans (feq (by decide : ¬ ((1 : Int32) = (0 : Int32)))).1) hr) ?_
  show Go p e s below _ _ _ _ T103 (mkF m 172 #[.val (.int p1), .val (.int p2), .val (.int p3), .val (.int p4), .val (.int fl), .val (.int ml), .val (.int f0), .val (.int f1), .val (.int m0), .val (.int m1), .val (.ref x1), .val (.ref x2), .val (.ref s1), .val (.int (Int32.ofNat (allC fl ml f0 f1 m0 m1).length)), .val (.int (1 : Int32))] [])
  refine Go.of (fun _ hr => XS.aload X103.here hx rfl (hb hby at_172) rfl rfl hr) ?_
  show Go p e s below _ _ _ _ T103 (mkF m 174 #[.val (.int p1), .val (.int p2), .val (.int p3), .val (.int p4), .val (.int fl), .val (.int ml), .val (.int f0), .val (.int f1), .val (.int m0), .val (.int m1), .val (.ref x1), .val (.ref x2), .val (.ref s1), .val (.int (Int32.ofNat (allC fl ml f0 f1 m0 m1).length)), .val (.int (1 : Int32))] [(.ref s1)])
  refine Go.of (fun _ hr => XS.iconst X103.here hx rfl (hb hby at_174) hr) ?_
  show Go p e s below _ _ _ _ T103 (mkF m 175 #[.val (.int p1), .val (.int p2), .val (.int p3), .val (.int p4), .val (.int fl), .val (.int ml), .val (.int f0), .val (.int f1), .val (.int m0), .val (.int m1), .val (.ref x1), .val (.ref x2), .val (.ref s1), .val (.int (Int32.ofNat (allC fl ml f0 f1 m0 m1).length)), .val (.int (1 : Int32))] [(.int (2 : Int32)), (.ref s1)])
  refine Go.of (fun _ hr => XS.iload X103.here hx rfl (hb hby at_175) rfl  hr) ?_
  show Go p e s below _ _ _ _ T103 (mkF m 177 #[.val (.int p1), .val (.int p2), .val (.int p3), .val (.int p4), .val (.int fl), .val (.int ml), .val (.int f0), .val (.int f1), .val (.int m0), .val (.int m1), .val (.ref x1), .val (.ref x2), .val (.ref s1), .val (.int (Int32.ofNat (allC fl ml f0 f1 m0 m1).length)), .val (.int (1 : Int32))] [(.int (Int32.ofNat (allC fl ml f0 f1 m0 m1).length)), (.int (2 : Int32)), (.ref s1)])
  refine Go.of (fun _ hr => XS.iload X103.here hx rfl (hb hby at_177) rfl  hr) ?_
  show Go p e s below _ _ _ _ T103 (mkF m 179 #[.val (.int p1), .val (.int p2), .val (.int p3), .val (.int p4), .val (.int fl), .val (.int ml), .val (.int f0), .val (.int f1), .val (.int m0), .val (.int m1), .val (.ref x1), .val (.ref x2), .val (.ref s1), .val (.int (Int32.ofNat (allC fl ml f0 f1 m0 m1).length)), .val (.int (1 : Int32))] [(.int fl), (.int (Int32.ofNat (allC fl ml f0 f1 m0 m1).length)), (.int (2 : Int32)), (.ref s1)])
  refine Go.of (fun _ hr => XS.iload X103.here hx rfl (hb hby at_179) rfl  hr) ?_
  show Go p e s below _ _ _ _ T103 (mkF m 181 #[.val (.int p1), .val (.int p2), .val (.int p3), .val (.int p4), .val (.int fl), .val (.int ml), .val (.int f0), .val (.int f1), .val (.int m0), .val (.int m1), .val (.ref x1), .val (.ref x2), .val (.ref s1), .val (.int (Int32.ofNat (allC fl ml f0 f1 m0 m1).length)), .val (.int (1 : Int32))] [(.int f0), (.int fl), (.int (Int32.ofNat (allC fl ml f0 f1 m0 m1).length)), (.int (2 : Int32)), (.ref s1)])
  refine Go.of (fun _ hr => XS.iload X103.here hx rfl (hb hby at_181) rfl  hr) ?_
  show Go p e s below _ _ _ _ T103 (mkF m 183 #[.val (.int p1), .val (.int p2), .val (.int p3), .val (.int p4), .val (.int fl), .val (.int ml), .val (.int f0), .val (.int f1), .val (.int m0), .val (.int m1), .val (.ref x1), .val (.ref x2), .val (.ref s1), .val (.int (Int32.ofNat (allC fl ml f0 f1 m0 m1).length)), .val (.int (1 : Int32))] [(.int f1), (.int f0), (.int fl), (.int (Int32.ofNat (allC fl ml f0 f1 m0 m1).length)), (.int (2 : Int32)), (.ref s1)])
  refine Go.of (fun _ hr => XS.iload X103.here hx rfl (hb hby at_183) rfl  hr) ?_
  show Go p e s below _ _ _ _ T103 (mkF m 185 #[.val (.int p1), .val (.int p2), .val (.int p3), .val (.int p4), .val (.int fl), .val (.int ml), .val (.int f0), .val (.int f1), .val (.int m0), .val (.int m1), .val (.ref x1), .val (.ref x2), .val (.ref s1), .val (.int (Int32.ofNat (allC fl ml f0 f1 m0 m1).length)), .val (.int (1 : Int32))] [(.int m0), (.int f1), (.int f0), (.int fl), (.int (Int32.ofNat (allC fl ml f0 f1 m0 m1).length)), (.int (2 : Int32)), (.ref s1)])
  refine Go.of (fun _ hr => XS.iload X103.here hx rfl (hb hby at_185) rfl  hr) ?_
  show Go p e s below _ _ _ _ T103 (mkF m 187 #[.val (.int p1), .val (.int p2), .val (.int p3), .val (.int p4), .val (.int fl), .val (.int ml), .val (.int f0), .val (.int f1), .val (.int m0), .val (.int m1), .val (.ref x1), .val (.ref x2), .val (.ref s1), .val (.int (Int32.ofNat (allC fl ml f0 f1 m0 m1).length)), .val (.int (1 : Int32))] [(.int m1), (.int m0), (.int f1), (.int f0), (.int fl), (.int (Int32.ofNat (allC fl ml f0 f1 m0 m1).length)), (.int (2 : Int32)), (.ref s1)])
  obtain ⟨_, b104, T104, h104, L104, e104, Cc104, X104, B104, J104, g104, hQ104, st104⟩ := own_callS Cc103 B103 J103 X103 (hw _ (List.mem_of_getElem? (i := 156) rfl)) (hw _ (List.mem_of_getElem? (i := 157) rfl)) (hw _ (List.mem_of_getElem? (i := 4) rfl)) (hw _ (List.mem_of_getElem? (i := 158) rfl)) (by decide) (rm27 l Z a0 hw [] s1 t1 _ cd bb fl ml f0 f1 m0 m1 2 zc _ h0 n0 O0 h0.size (own_ole O0) K0.1 fs hfs S_F S_D S_H S_L hf hm hq_f0 hq_f1 hq_m0 hq_m1 (by decide) Es1 Fv1 Fc1 hso V1 S_C hzc) e103 (g := (mkF m 187 #[.val (.int p1), .val (.int p2), .val (.int p3), .val (.int p4), .val (.int fl), .val (.int ml), .val (.int f0), .val (.int f1), .val (.int m0), .val (.int m1), .val (.ref x1), .val (.ref x2), .val (.ref s1), .val (.int (Int32.ofNat (allC fl ml f0 f1 m0 m1).length)), .val (.int (1 : Int32))] [(.int m1), (.int m0), (.int f1), (.int f0), (.int fl), (.int (Int32.ofNat (allC fl ml f0 f1 m0 m1).length)), (.int (2 : Int32)), (.ref s1)])) rfl (by rw [hml]; rfl) (argsL := [(.ref s1), (.int (2 : Int32)), (.int (Int32.ofNat (allC fl ml f0 f1 m0 m1).length)), (.int fl), (.int f0), (.int f1), (.int m0), (.int m1)]) (rest := []) (lenOf pd40 rfl) rfl (W := 0) (by show 2 * 0 + _ ≤ _; exact Nat.le_of_eq rfl) (hb hby at_187) (by decide) (by decide) (by decide) (by decide)
  obtain ⟨rfl, Nq104, hh104⟩ := hQ104
  have N104 := Fr.app N103 (show Fr nb _ from fun y hy => Nat.le_trans hnb (Nq104 y hy))
  obtain ⟨hx, hZ, hown, hby, hml, hnm, hret, hlk⟩ := id Cc104
  rw [hh104] at e104 B104 J104
  refine Go.of st104 ?_
  show Go p e s below _ _ _ _ T104 (mkF m 190 #[.val (.int p1), .val (.int p2), .val (.int p3), .val (.int p4), .val (.int fl), .val (.int ml), .val (.int f0), .val (.int f1), .val (.int m0), .val (.int m1), .val (.ref x1), .val (.ref x2), .val (.ref s1), .val (.int (Int32.ofNat (allC fl ml f0 f1 m0 m1).length)), .val (.int (1 : Int32))] [(.int (1 : Int32))])
  refine Go.of (fun _ hr => XS.ifNo X104.here hx rfl (hb hby at_190) rfl ((if0 _ _).trans (feq (by decide : ¬ ((1 : Int32) = (0 : Int32)))).1) hr) ?_
  show Go p e s below _ _ _ _ T104 (mkF m 193 #[.val (.int p1), .val (.int p2), .val (.int p3), .val (.int p4), .val (.int fl), .val (.int ml), .val (.int f0), .val (.int f1), .val (.int m0), .val (.int m1), .val (.ref x1), .val (.ref x2), .val (.ref s1), .val (.int (Int32.ofNat (allC fl ml f0 f1 m0 m1).length)), .val (.int (1 : Int32))] [])
  refine Go.of (fun _ hr => XS.iconst X104.here hx rfl (hb hby at_193) hr) ?_
  show Go p e s below _ _ _ _ T104 (mkF m 194 #[.val (.int p1), .val (.int p2), .val (.int p3), .val (.int p4), .val (.int fl), .val (.int ml), .val (.int f0), .val (.int f1), .val (.int m0), .val (.int m1), .val (.ref x1), .val (.ref x2), .val (.ref s1), .val (.int (Int32.ofNat (allC fl ml f0 f1 m0 m1).length)), .val (.int (1 : Int32))] [(.int (1 : Int32))])
  refine Go.of (fun _ hr => XS.goto X104.here hx rfl (pc0 := 194) (pc' := 198) rfl (hb hby at_194) (by decide) (by decide) hr) ?_
  show Go p e s below _ _ _ _ T104 (mkF m 198 #[.val (.int p1), .val (.int p2), .val (.int p3), .val (.int p4), .val (.int fl), .val (.int ml), .val (.int f0), .val (.int f1), .val (.int m0), .val (.int m1), .val (.ref x1), .val (.ref x2), .val (.ref s1), .val (.int (Int32.ofNat (allC fl ml f0 f1 m0 m1).length)), .val (.int (1 : Int32))] [(.int (1 : Int32))])
  refine Go.of (fun _ hr => XS.istore X104.here hx rfl (hb hby at_198) rfl (l' := #[.val (.int p1), .val (.int p2), .val (.int p3), .val (.int p4), .val (.int fl), .val (.int ml), .val (.int f0), .val (.int f1), .val (.int m0), .val (.int m1), .val (.ref x1), .val (.ref x2), .val (.ref s1), .val (.int (Int32.ofNat (allC fl ml f0 f1 m0 m1).length)), .val (.int (1 : Int32))]) rfl hr) ?_
  show Go p e s below _ _ _ _ T104 (mkF m 200 #[.val (.int p1), .val (.int p2), .val (.int p3), .val (.int p4), .val (.int fl), .val (.int ml), .val (.int f0), .val (.int f1), .val (.int m0), .val (.int m1), .val (.ref x1), .val (.ref x2), .val (.ref s1), .val (.int (Int32.ofNat (allC fl ml f0 f1 m0 m1).length)), .val (.int (1 : Int32))] [])
  refine Go.of (fun _ hr => XS.iload X104.here hx rfl (hb hby at_200) rfl  hr) ?_
  show Go p e s below _ _ _ _ T104 (mkF m 202 #[.val (.int p1), .val (.int p2), .val (.int p3), .val (.int p4), .val (.int fl), .val (.int ml), .val (.int f0), .val (.int f1), .val (.int m0), .val (.int m1), .val (.ref x1), .val (.ref x2), .val (.ref s1), .val (.int (Int32.ofNat (allC fl ml f0 f1 m0 m1).length)), .val (.int (1 : Int32))] [(.int (1 : Int32))])
  refine Go.of (fun _ hr => XS.ifNo X104.here hx rfl (hb hby at_202) rfl ((if0 _ _).trans (feq (by decide : ¬ ((1 : Int32) = (0 : Int32)))).1) hr) ?_
  show Go p e s below _ _ _ _ T104 (mkF m 205 #[.val (.int p1), .val (.int p2), .val (.int p3), .val (.int p4), .val (.int fl), .val (.int ml), .val (.int f0), .val (.int f1), .val (.int m0), .val (.int m1), .val (.ref x1), .val (.ref x2), .val (.ref s1), .val (.int (Int32.ofNat (allC fl ml f0 f1 m0 m1).length)), .val (.int (1 : Int32))] [])
  refine Go.of (fun _ hr => XS.aload X104.here hx rfl (hb hby at_205) rfl rfl hr) ?_
  show Go p e s below _ _ _ _ T104 (mkF m 207 #[.val (.int p1), .val (.int p2), .val (.int p3), .val (.int p4), .val (.int fl), .val (.int ml), .val (.int f0), .val (.int f1), .val (.int m0), .val (.int m1), .val (.ref x1), .val (.ref x2), .val (.ref s1), .val (.int (Int32.ofNat (allC fl ml f0 f1 m0 m1).length)), .val (.int (1 : Int32))] [(.ref s1)])
  refine Go.of (fun _ hr => XS.iconst X104.here hx rfl (hb hby at_207) hr) ?_
  show Go p e s below _ _ _ _ T104 (mkF m 208 #[.val (.int p1), .val (.int p2), .val (.int p3), .val (.int p4), .val (.int fl), .val (.int ml), .val (.int f0), .val (.int f1), .val (.int m0), .val (.int m1), .val (.ref x1), .val (.ref x2), .val (.ref s1), .val (.int (Int32.ofNat (allC fl ml f0 f1 m0 m1).length)), .val (.int (1 : Int32))] [(.int (3 : Int32)), (.ref s1)])
  refine Go.of (fun _ hr => XS.iload X104.here hx rfl (hb hby at_208) rfl  hr) ?_
  show Go p e s below _ _ _ _ T104 (mkF m 210 #[.val (.int p1), .val (.int p2), .val (.int p3), .val (.int p4), .val (.int fl), .val (.int ml), .val (.int f0), .val (.int f1), .val (.int m0), .val (.int m1), .val (.ref x1), .val (.ref x2), .val (.ref s1), .val (.int (Int32.ofNat (allC fl ml f0 f1 m0 m1).length)), .val (.int (1 : Int32))] [(.int (Int32.ofNat (allC fl ml f0 f1 m0 m1).length)), (.int (3 : Int32)), (.ref s1)])
  refine Go.of (fun _ hr => XS.iload X104.here hx rfl (hb hby at_210) rfl  hr) ?_
  show Go p e s below _ _ _ _ T104 (mkF m 212 #[.val (.int p1), .val (.int p2), .val (.int p3), .val (.int p4), .val (.int fl), .val (.int ml), .val (.int f0), .val (.int f1), .val (.int m0), .val (.int m1), .val (.ref x1), .val (.ref x2), .val (.ref s1), .val (.int (Int32.ofNat (allC fl ml f0 f1 m0 m1).length)), .val (.int (1 : Int32))] [(.int fl), (.int (Int32.ofNat (allC fl ml f0 f1 m0 m1).length)), (.int (3 : Int32)), (.ref s1)])
  refine Go.of (fun _ hr => XS.iload X104.here hx rfl (hb hby at_212) rfl  hr) ?_
  show Go p e s below _ _ _ _ T104 (mkF m 214 #[.val (.int p1), .val (.int p2), .val (.int p3), .val (.int p4), .val (.int fl), .val (.int ml), .val (.int f0), .val (.int f1), .val (.int m0), .val (.int m1), .val (.ref x1), .val (.ref x2), .val (.ref s1), .val (.int (Int32.ofNat (allC fl ml f0 f1 m0 m1).length)), .val (.int (1 : Int32))] [(.int f0), (.int fl), (.int (Int32.ofNat (allC fl ml f0 f1 m0 m1).length)), (.int (3 : Int32)), (.ref s1)])
  refine Go.of (fun _ hr => XS.iload X104.here hx rfl (hb hby at_214) rfl  hr) ?_
  show Go p e s below _ _ _ _ T104 (mkF m 216 #[.val (.int p1), .val (.int p2), .val (.int p3), .val (.int p4), .val (.int fl), .val (.int ml), .val (.int f0), .val (.int f1), .val (.int m0), .val (.int m1), .val (.ref x1), .val (.ref x2), .val (.ref s1), .val (.int (Int32.ofNat (allC fl ml f0 f1 m0 m1).length)), .val (.int (1 : Int32))] [(.int f1), (.int f0), (.int fl), (.int (Int32.ofNat (allC fl ml f0 f1 m0 m1).length)), (.int (3 : Int32)), (.ref s1)])
  refine Go.of (fun _ hr => XS.iload X104.here hx rfl (hb hby at_216) rfl  hr) ?_
  show Go p e s below _ _ _ _ T104 (mkF m 218 #[.val (.int p1), .val (.int p2), .val (.int p3), .val (.int p4), .val (.int fl), .val (.int ml), .val (.int f0), .val (.int f1), .val (.int m0), .val (.int m1), .val (.ref x1), .val (.ref x2), .val (.ref s1), .val (.int (Int32.ofNat (allC fl ml f0 f1 m0 m1).length)), .val (.int (1 : Int32))] [(.int m0), (.int f1), (.int f0), (.int fl), (.int (Int32.ofNat (allC fl ml f0 f1 m0 m1).length)), (.int (3 : Int32)), (.ref s1)])
  refine Go.of (fun _ hr => XS.iload X104.here hx rfl (hb hby at_218) rfl  hr) ?_
  show Go p e s below _ _ _ _ T104 (mkF m 220 #[.val (.int p1), .val (.int p2), .val (.int p3), .val (.int p4), .val (.int fl), .val (.int ml), .val (.int f0), .val (.int f1), .val (.int m0), .val (.int m1), .val (.ref x1), .val (.ref x2), .val (.ref s1), .val (.int (Int32.ofNat (allC fl ml f0 f1 m0 m1).length)), .val (.int (1 : Int32))] [(.int m1), (.int m0), (.int f1), (.int f0), (.int fl), (.int (Int32.ofNat (allC fl ml f0 f1 m0 m1).length)), (.int (3 : Int32)), (.ref s1)])
  obtain ⟨_, b105, T105, h105, L105, e105, Cc105, X105, B105, J105, g105, hQ105, st105⟩ := own_callS Cc104 B104 J104 X104 (hw _ (List.mem_of_getElem? (i := 156) rfl)) (hw _ (List.mem_of_getElem? (i := 157) rfl)) (hw _ (List.mem_of_getElem? (i := 4) rfl)) (hw _ (List.mem_of_getElem? (i := 158) rfl)) (by decide) (rm27 l Z a0 hw [] s1 t1 _ cd bb fl ml f0 f1 m0 m1 3 zc _ h0 n0 O0 h0.size (own_ole O0) K0.1 fs hfs S_F S_D S_H S_L hf hm hq_f0 hq_f1 hq_m0 hq_m1 (by decide) Es1 Fv1 Fc1 hso V1 S_C hzc) e104 (g := (mkF m 220 #[.val (.int p1), .val (.int p2), .val (.int p3), .val (.int p4), .val (.int fl), .val (.int ml), .val (.int f0), .val (.int f1), .val (.int m0), .val (.int m1), .val (.ref x1), .val (.ref x2), .val (.ref s1), .val (.int (Int32.ofNat (allC fl ml f0 f1 m0 m1).length)), .val (.int (1 : Int32))] [(.int m1), (.int m0), (.int f1), (.int f0), (.int fl), (.int (Int32.ofNat (allC fl ml f0 f1 m0 m1).length)), (.int (3 : Int32)), (.ref s1)])) rfl (by rw [hml]; rfl) (argsL := [(.ref s1), (.int (3 : Int32)), (.int (Int32.ofNat (allC fl ml f0 f1 m0 m1).length)), (.int fl), (.int f0), (.int f1), (.int m0), (.int m1)]) (rest := []) (lenOf pd40 rfl) rfl (W := 0) (by show 2 * 0 + _ ≤ _; exact Nat.le_of_eq rfl) (hb hby at_220) (by decide) (by decide) (by decide) (by decide)
  obtain ⟨rfl, Nq105, hh105⟩ := hQ105
  have N105 := Fr.app N104 (show Fr nb _ from fun y hy => Nat.le_trans hnb (Nq105 y hy))
  obtain ⟨hx, hZ, hown, hby, hml, hnm, hret, hlk⟩ := id Cc105
  rw [hh105] at e105 B105 J105
  refine Go.of st105 ?_
  show Go p e s below _ _ _ _ T105 (mkF m 223 #[.val (.int p1), .val (.int p2), .val (.int p3), .val (.int p4), .val (.int fl), .val (.int ml), .val (.int f0), .val (.int f1), .val (.int m0), .val (.int m1), .val (.ref x1), .val (.ref x2), .val (.ref s1), .val (.int (Int32.ofNat (allC fl ml f0 f1 m0 m1).length)), .val (.int (1 : Int32))] [(.int (1 : Int32))])
  refine Go.of (fun _ hr => XS.ifNo X105.here hx rfl (hb hby at_223) rfl ((if0 _ _).trans (feq (by decide : ¬ ((1 : Int32) = (0 : Int32)))).1) hr) ?_
  show Go p e s below _ _ _ _ T105 (mkF m 226 #[.val (.int p1), .val (.int p2), .val (.int p3), .val (.int p4), .val (.int fl), .val (.int ml), .val (.int f0), .val (.int f1), .val (.int m0), .val (.int m1), .val (.ref x1), .val (.ref x2), .val (.ref s1), .val (.int (Int32.ofNat (allC fl ml f0 f1 m0 m1).length)), .val (.int (1 : Int32))] [])
  refine Go.of (fun _ hr => XS.iconst X105.here hx rfl (hb hby at_226) hr) ?_
  show Go p e s below _ _ _ _ T105 (mkF m 227 #[.val (.int p1), .val (.int p2), .val (.int p3), .val (.int p4), .val (.int fl), .val (.int ml), .val (.int f0), .val (.int f1), .val (.int m0), .val (.int m1), .val (.ref x1), .val (.ref x2), .val (.ref s1), .val (.int (Int32.ofNat (allC fl ml f0 f1 m0 m1).length)), .val (.int (1 : Int32))] [(.int (1 : Int32))])
  refine Go.of (fun _ hr => XS.goto X105.here hx rfl (pc0 := 227) (pc' := 231) rfl (hb hby at_227) (by decide) (by decide) hr) ?_
  show Go p e s below _ _ _ _ T105 (mkF m 231 #[.val (.int p1), .val (.int p2), .val (.int p3), .val (.int p4), .val (.int fl), .val (.int ml), .val (.int f0), .val (.int f1), .val (.int m0), .val (.int m1), .val (.ref x1), .val (.ref x2), .val (.ref s1), .val (.int (Int32.ofNat (allC fl ml f0 f1 m0 m1).length)), .val (.int (1 : Int32))] [(.int (1 : Int32))])
  refine Go.of (fun _ hr => XS.istore X105.here hx rfl (hb hby at_231) rfl (l' := #[.val (.int p1), .val (.int p2), .val (.int p3), .val (.int p4), .val (.int fl), .val (.int ml), .val (.int f0), .val (.int f1), .val (.int m0), .val (.int m1), .val (.ref x1), .val (.ref x2), .val (.ref s1), .val (.int (Int32.ofNat (allC fl ml f0 f1 m0 m1).length)), .val (.int (1 : Int32))]) rfl hr) ?_
  show Go p e s below _ _ _ _ T105 (mkF m 233 #[.val (.int p1), .val (.int p2), .val (.int p3), .val (.int p4), .val (.int fl), .val (.int ml), .val (.int f0), .val (.int f1), .val (.int m0), .val (.int m1), .val (.ref x1), .val (.ref x2), .val (.ref s1), .val (.int (Int32.ofNat (allC fl ml f0 f1 m0 m1).length)), .val (.int (1 : Int32))] [])
  refine Go.of (fun _ hr => XS.iload X105.here hx rfl (hb hby at_233) rfl  hr) ?_
  show Go p e s below _ _ _ _ T105 (mkF m 235 #[.val (.int p1), .val (.int p2), .val (.int p3), .val (.int p4), .val (.int fl), .val (.int ml), .val (.int f0), .val (.int f1), .val (.int m0), .val (.int m1), .val (.ref x1), .val (.ref x2), .val (.ref s1), .val (.int (Int32.ofNat (allC fl ml f0 f1 m0 m1).length)), .val (.int (1 : Int32))] [(.int (1 : Int32))])
  refine Go.of (fun _ hr => XS.ifNo X105.here hx rfl (hb hby at_235) rfl ((if0 _ _).trans (feq (by decide : ¬ ((1 : Int32) = (0 : Int32)))).1) hr) ?_
  show Go p e s below _ _ _ _ T105 (mkF m 238 #[.val (.int p1), .val (.int p2), .val (.int p3), .val (.int p4), .val (.int fl), .val (.int ml), .val (.int f0), .val (.int f1), .val (.int m0), .val (.int m1), .val (.ref x1), .val (.ref x2), .val (.ref s1), .val (.int (Int32.ofNat (allC fl ml f0 f1 m0 m1).length)), .val (.int (1 : Int32))] [])
  refine Go.of (fun _ hr => XS.aload X105.here hx rfl (hb hby at_238) rfl rfl hr) ?_
  show Go p e s below _ _ _ _ T105 (mkF m 240 #[.val (.int p1), .val (.int p2), .val (.int p3), .val (.int p4), .val (.int fl), .val (.int ml), .val (.int f0), .val (.int f1), .val (.int m0), .val (.int m1), .val (.ref x1), .val (.ref x2), .val (.ref s1), .val (.int (Int32.ofNat (allC fl ml f0 f1 m0 m1).length)), .val (.int (1 : Int32))] [(.ref s1)])
  refine Go.of (fun _ hr => XS.iconst X105.here hx rfl (hb hby at_240) hr) ?_
  show Go p e s below _ _ _ _ T105 (mkF m 241 #[.val (.int p1), .val (.int p2), .val (.int p3), .val (.int p4), .val (.int fl), .val (.int ml), .val (.int f0), .val (.int f1), .val (.int m0), .val (.int m1), .val (.ref x1), .val (.ref x2), .val (.ref s1), .val (.int (Int32.ofNat (allC fl ml f0 f1 m0 m1).length)), .val (.int (1 : Int32))] [(.int (4 : Int32)), (.ref s1)])
  refine Go.of (fun _ hr => XS.iload X105.here hx rfl (hb hby at_241) rfl  hr) ?_
  show Go p e s below _ _ _ _ T105 (mkF m 243 #[.val (.int p1), .val (.int p2), .val (.int p3), .val (.int p4), .val (.int fl), .val (.int ml), .val (.int f0), .val (.int f1), .val (.int m0), .val (.int m1), .val (.ref x1), .val (.ref x2), .val (.ref s1), .val (.int (Int32.ofNat (allC fl ml f0 f1 m0 m1).length)), .val (.int (1 : Int32))] [(.int (Int32.ofNat (allC fl ml f0 f1 m0 m1).length)), (.int (4 : Int32)), (.ref s1)])
  refine Go.of (fun _ hr => XS.iload X105.here hx rfl (hb hby at_243) rfl  hr) ?_
  show Go p e s below _ _ _ _ T105 (mkF m 245 #[.val (.int p1), .val (.int p2), .val (.int p3), .val (.int p4), .val (.int fl), .val (.int ml), .val (.int f0), .val (.int f1), .val (.int m0), .val (.int m1), .val (.ref x1), .val (.ref x2), .val (.ref s1), .val (.int (Int32.ofNat (allC fl ml f0 f1 m0 m1).length)), .val (.int (1 : Int32))] [(.int fl), (.int (Int32.ofNat (allC fl ml f0 f1 m0 m1).length)), (.int (4 : Int32)), (.ref s1)])
  refine Go.of (fun _ hr => XS.iload X105.here hx rfl (hb hby at_245) rfl  hr) ?_
  show Go p e s below _ _ _ _ T105 (mkF m 247 #[.val (.int p1), .val (.int p2), .val (.int p3), .val (.int p4), .val (.int fl), .val (.int ml), .val (.int f0), .val (.int f1), .val (.int m0), .val (.int m1), .val (.ref x1), .val (.ref x2), .val (.ref s1), .val (.int (Int32.ofNat (allC fl ml f0 f1 m0 m1).length)), .val (.int (1 : Int32))] [(.int f0), (.int fl), (.int (Int32.ofNat (allC fl ml f0 f1 m0 m1).length)), (.int (4 : Int32)), (.ref s1)])
  refine Go.of (fun _ hr => XS.iload X105.here hx rfl (hb hby at_247) rfl  hr) ?_
  show Go p e s below _ _ _ _ T105 (mkF m 249 #[.val (.int p1), .val (.int p2), .val (.int p3), .val (.int p4), .val (.int fl), .val (.int ml), .val (.int f0), .val (.int f1), .val (.int m0), .val (.int m1), .val (.ref x1), .val (.ref x2), .val (.ref s1), .val (.int (Int32.ofNat (allC fl ml f0 f1 m0 m1).length)), .val (.int (1 : Int32))] [(.int f1), (.int f0), (.int fl), (.int (Int32.ofNat (allC fl ml f0 f1 m0 m1).length)), (.int (4 : Int32)), (.ref s1)])
  refine Go.of (fun _ hr => XS.iload X105.here hx rfl (hb hby at_249) rfl  hr) ?_
  show Go p e s below _ _ _ _ T105 (mkF m 251 #[.val (.int p1), .val (.int p2), .val (.int p3), .val (.int p4), .val (.int fl), .val (.int ml), .val (.int f0), .val (.int f1), .val (.int m0), .val (.int m1), .val (.ref x1), .val (.ref x2), .val (.ref s1), .val (.int (Int32.ofNat (allC fl ml f0 f1 m0 m1).length)), .val (.int (1 : Int32))] [(.int m0), (.int f1), (.int f0), (.int fl), (.int (Int32.ofNat (allC fl ml f0 f1 m0 m1).length)), (.int (4 : Int32)), (.ref s1)])
  refine Go.of (fun _ hr => XS.iload X105.here hx rfl (hb hby at_251) rfl  hr) ?_
  show Go p e s below _ _ _ _ T105 (mkF m 253 #[.val (.int p1), .val (.int p2), .val (.int p3), .val (.int p4), .val (.int fl), .val (.int ml), .val (.int f0), .val (.int f1), .val (.int m0), .val (.int m1), .val (.ref x1), .val (.ref x2), .val (.ref s1), .val (.int (Int32.ofNat (allC fl ml f0 f1 m0 m1).length)), .val (.int (1 : Int32))] [(.int m1), (.int m0), (.int f1), (.int f0), (.int fl), (.int (Int32.ofNat (allC fl ml f0 f1 m0 m1).length)), (.int (4 : Int32)), (.ref s1)])
  obtain ⟨_, b106, T106, h106, L106, e106, Cc106, X106, B106, J106, g106, hQ106, st106⟩ := own_callS Cc105 B105 J105 X105 (hw _ (List.mem_of_getElem? (i := 156) rfl)) (hw _ (List.mem_of_getElem? (i := 157) rfl)) (hw _ (List.mem_of_getElem? (i := 4) rfl)) (hw _ (List.mem_of_getElem? (i := 158) rfl)) (by decide) (rm27 l Z a0 hw [] s1 t1 _ cd bb fl ml f0 f1 m0 m1 4 zc _ h0 n0 O0 h0.size (own_ole O0) K0.1 fs hfs S_F S_D S_H S_L hf hm hq_f0 hq_f1 hq_m0 hq_m1 (by decide) Es1 Fv1 Fc1 hso V1 S_C hzc) e105 (g := (mkF m 253 #[.val (.int p1), .val (.int p2), .val (.int p3), .val (.int p4), .val (.int fl), .val (.int ml), .val (.int f0), .val (.int f1), .val (.int m0), .val (.int m1), .val (.ref x1), .val (.ref x2), .val (.ref s1), .val (.int (Int32.ofNat (allC fl ml f0 f1 m0 m1).length)), .val (.int (1 : Int32))] [(.int m1), (.int m0), (.int f1), (.int f0), (.int fl), (.int (Int32.ofNat (allC fl ml f0 f1 m0 m1).length)), (.int (4 : Int32)), (.ref s1)])) rfl (by rw [hml]; rfl) (argsL := [(.ref s1), (.int (4 : Int32)), (.int (Int32.ofNat (allC fl ml f0 f1 m0 m1).length)), (.int fl), (.int f0), (.int f1), (.int m0), (.int m1)]) (rest := []) (lenOf pd40 rfl) rfl (W := 0) (by show 2 * 0 + _ ≤ _; exact Nat.le_of_eq rfl) (hb hby at_253) (by decide) (by decide) (by decide) (by decide)
  obtain ⟨rfl, Nq106, hh106⟩ := hQ106
  have N106 := Fr.app N105 (show Fr nb _ from fun y hy => Nat.le_trans hnb (Nq106 y hy))
  obtain ⟨hx, hZ, hown, hby, hml, hnm, hret, hlk⟩ := id Cc106
  rw [hh106] at e106 B106 J106
  refine Go.of st106 ?_
  show Go p e s below _ _ _ _ T106 (mkF m 256 #[.val (.int p1), .val (.int p2), .val (.int p3), .val (.int p4), .val (.int fl), .val (.int ml), .val (.int f0), .val (.int f1), .val (.int m0), .val (.int m1), .val (.ref x1), .val (.ref x2), .val (.ref s1), .val (.int (Int32.ofNat (allC fl ml f0 f1 m0 m1).length)), .val (.int (1 : Int32))] [(.int (1 : Int32))])
  refine Go.of (fun _ hr => XS.ifNo X106.here hx rfl (hb hby at_256) rfl ((if0 _ _).trans (feq (by decide : ¬ ((1 : Int32) = (0 : Int32)))).1) hr) ?_
  show Go p e s below _ _ _ _ T106 (mkF m 259 #[.val (.int p1), .val (.int p2), .val (.int p3), .val (.int p4), .val (.int fl), .val (.int ml), .val (.int f0), .val (.int f1), .val (.int m0), .val (.int m1), .val (.ref x1), .val (.ref x2), .val (.ref s1), .val (.int (Int32.ofNat (allC fl ml f0 f1 m0 m1).length)), .val (.int (1 : Int32))] [])
  refine Go.of (fun _ hr => XS.iconst X106.here hx rfl (hb hby at_259) hr) ?_
  show Go p e s below _ _ _ _ T106 (mkF m 260 #[.val (.int p1), .val (.int p2), .val (.int p3), .val (.int p4), .val (.int fl), .val (.int ml), .val (.int f0), .val (.int f1), .val (.int m0), .val (.int m1), .val (.ref x1), .val (.ref x2), .val (.ref s1), .val (.int (Int32.ofNat (allC fl ml f0 f1 m0 m1).length)), .val (.int (1 : Int32))] [(.int (1 : Int32))])
  refine Go.of (fun _ hr => XS.goto X106.here hx rfl (pc0 := 260) (pc' := 264) rfl (hb hby at_260) (by decide) (by decide) hr) ?_
  show Go p e s below _ _ _ _ T106 (mkF m 264 #[.val (.int p1), .val (.int p2), .val (.int p3), .val (.int p4), .val (.int fl), .val (.int ml), .val (.int f0), .val (.int f1), .val (.int m0), .val (.int m1), .val (.ref x1), .val (.ref x2), .val (.ref s1), .val (.int (Int32.ofNat (allC fl ml f0 f1 m0 m1).length)), .val (.int (1 : Int32))] [(.int (1 : Int32))])
  refine Go.of (fun _ hr => XS.istore X106.here hx rfl (hb hby at_264) rfl (l' := #[.val (.int p1), .val (.int p2), .val (.int p3), .val (.int p4), .val (.int fl), .val (.int ml), .val (.int f0), .val (.int f1), .val (.int m0), .val (.int m1), .val (.ref x1), .val (.ref x2), .val (.ref s1), .val (.int (Int32.ofNat (allC fl ml f0 f1 m0 m1).length)), .val (.int (1 : Int32))]) rfl hr) ?_
  show Go p e s below _ _ _ _ T106 (mkF m 266 #[.val (.int p1), .val (.int p2), .val (.int p3), .val (.int p4), .val (.int fl), .val (.int ml), .val (.int f0), .val (.int f1), .val (.int m0), .val (.int m1), .val (.ref x1), .val (.ref x2), .val (.ref s1), .val (.int (Int32.ofNat (allC fl ml f0 f1 m0 m1).length)), .val (.int (1 : Int32))] [])
  refine Go.of (fun _ hr => XS.iload X106.here hx rfl (hb hby at_266) rfl  hr) ?_
  show Go p e s below _ _ _ _ T106 (mkF m 268 #[.val (.int p1), .val (.int p2), .val (.int p3), .val (.int p4), .val (.int fl), .val (.int ml), .val (.int f0), .val (.int f1), .val (.int m0), .val (.int m1), .val (.ref x1), .val (.ref x2), .val (.ref s1), .val (.int (Int32.ofNat (allC fl ml f0 f1 m0 m1).length)), .val (.int (1 : Int32))] [(.int (1 : Int32))])
  refine Go.of (fun _ hr => XS.ifNo X106.here hx rfl (hb hby at_268) rfl ((if0 _ _).trans (feq (by decide : ¬ ((1 : Int32) = (0 : Int32)))).1) hr) ?_
  show Go p e s below _ _ _ _ T106 (mkF m 271 #[.val (.int p1), .val (.int p2), .val (.int p3), .val (.int p4), .val (.int fl), .val (.int ml), .val (.int f0), .val (.int f1), .val (.int m0), .val (.int m1), .val (.ref x1), .val (.ref x2), .val (.ref s1), .val (.int (Int32.ofNat (allC fl ml f0 f1 m0 m1).length)), .val (.int (1 : Int32))] [])
  refine Go.of (fun _ hr => XS.aload X106.here hx rfl (hb hby at_271) rfl rfl hr) ?_
  show Go p e s below _ _ _ _ T106 (mkF m 273 #[.val (.int p1), .val (.int p2), .val (.int p3), .val (.int p4), .val (.int fl), .val (.int ml), .val (.int f0), .val (.int f1), .val (.int m0), .val (.int m1), .val (.ref x1), .val (.ref x2), .val (.ref s1), .val (.int (Int32.ofNat (allC fl ml f0 f1 m0 m1).length)), .val (.int (1 : Int32))] [(.ref s1)])
  refine Go.of (fun _ hr => XS.iconst X106.here hx rfl (hb hby at_273) hr) ?_
  show Go p e s below _ _ _ _ T106 (mkF m 274 #[.val (.int p1), .val (.int p2), .val (.int p3), .val (.int p4), .val (.int fl), .val (.int ml), .val (.int f0), .val (.int f1), .val (.int m0), .val (.int m1), .val (.ref x1), .val (.ref x2), .val (.ref s1), .val (.int (Int32.ofNat (allC fl ml f0 f1 m0 m1).length)), .val (.int (1 : Int32))] [(.int (5 : Int32)), (.ref s1)])
  refine Go.of (fun _ hr => XS.iload X106.here hx rfl (hb hby at_274) rfl  hr) ?_
  show Go p e s below _ _ _ _ T106 (mkF m 276 #[.val (.int p1), .val (.int p2), .val (.int p3), .val (.int p4), .val (.int fl), .val (.int ml), .val (.int f0), .val (.int f1), .val (.int m0), .val (.int m1), .val (.ref x1), .val (.ref x2), .val (.ref s1), .val (.int (Int32.ofNat (allC fl ml f0 f1 m0 m1).length)), .val (.int (1 : Int32))] [(.int (Int32.ofNat (allC fl ml f0 f1 m0 m1).length)), (.int (5 : Int32)), (.ref s1)])
  refine Go.of (fun _ hr => XS.iload X106.here hx rfl (hb hby at_276) rfl  hr) ?_
  show Go p e s below _ _ _ _ T106 (mkF m 278 #[.val (.int p1), .val (.int p2), .val (.int p3), .val (.int p4), .val (.int fl), .val (.int ml), .val (.int f0), .val (.int f1), .val (.int m0), .val (.int m1), .val (.ref x1), .val (.ref x2), .val (.ref s1), .val (.int (Int32.ofNat (allC fl ml f0 f1 m0 m1).length)), .val (.int (1 : Int32))] [(.int fl), (.int (Int32.ofNat (allC fl ml f0 f1 m0 m1).length)), (.int (5 : Int32)), (.ref s1)])
  refine Go.of (fun _ hr => XS.iload X106.here hx rfl (hb hby at_278) rfl  hr) ?_
  show Go p e s below _ _ _ _ T106 (mkF m 280 #[.val (.int p1), .val (.int p2), .val (.int p3), .val (.int p4), .val (.int fl), .val (.int ml), .val (.int f0), .val (.int f1), .val (.int m0), .val (.int m1), .val (.ref x1), .val (.ref x2), .val (.ref s1), .val (.int (Int32.ofNat (allC fl ml f0 f1 m0 m1).length)), .val (.int (1 : Int32))] [(.int f0), (.int fl), (.int (Int32.ofNat (allC fl ml f0 f1 m0 m1).length)), (.int (5 : Int32)), (.ref s1)])
  refine Go.of (fun _ hr => XS.iload X106.here hx rfl (hb hby at_280) rfl  hr) ?_
  show Go p e s below _ _ _ _ T106 (mkF m 282 #[.val (.int p1), .val (.int p2), .val (.int p3), .val (.int p4), .val (.int fl), .val (.int ml), .val (.int f0), .val (.int f1), .val (.int m0), .val (.int m1), .val (.ref x1), .val (.ref x2), .val (.ref s1), .val (.int (Int32.ofNat (allC fl ml f0 f1 m0 m1).length)), .val (.int (1 : Int32))] [(.int f1), (.int f0), (.int fl), (.int (Int32.ofNat (allC fl ml f0 f1 m0 m1).length)), (.int (5 : Int32)), (.ref s1)])
  refine Go.of (fun _ hr => XS.iload X106.here hx rfl (hb hby at_282) rfl  hr) ?_
  show Go p e s below _ _ _ _ T106 (mkF m 284 #[.val (.int p1), .val (.int p2), .val (.int p3), .val (.int p4), .val (.int fl), .val (.int ml), .val (.int f0), .val (.int f1), .val (.int m0), .val (.int m1), .val (.ref x1), .val (.ref x2), .val (.ref s1), .val (.int (Int32.ofNat (allC fl ml f0 f1 m0 m1).length)), .val (.int (1 : Int32))] [(.int m0), (.int f1), (.int f0), (.int fl), (.int (Int32.ofNat (allC fl ml f0 f1 m0 m1).length)), (.int (5 : Int32)), (.ref s1)])
  refine Go.of (fun _ hr => XS.iload X106.here hx rfl (hb hby at_284) rfl  hr) ?_
  show Go p e s below _ _ _ _ T106 (mkF m 286 #[.val (.int p1), .val (.int p2), .val (.int p3), .val (.int p4), .val (.int fl), .val (.int ml), .val (.int f0), .val (.int f1), .val (.int m0), .val (.int m1), .val (.ref x1), .val (.ref x2), .val (.ref s1), .val (.int (Int32.ofNat (allC fl ml f0 f1 m0 m1).length)), .val (.int (1 : Int32))] [(.int m1), (.int m0), (.int f1), (.int f0), (.int fl), (.int (Int32.ofNat (allC fl ml f0 f1 m0 m1).length)), (.int (5 : Int32)), (.ref s1)])
  obtain ⟨_, b107, T107, h107, L107, e107, Cc107, X107, B107, J107, g107, hQ107, st107⟩ := own_callS Cc106 B106 J106 X106 (hw _ (List.mem_of_getElem? (i := 156) rfl)) (hw _ (List.mem_of_getElem? (i := 157) rfl)) (hw _ (List.mem_of_getElem? (i := 4) rfl)) (hw _ (List.mem_of_getElem? (i := 158) rfl)) (by decide) (rm27 l Z a0 hw [] s1 t1 _ cd bb fl ml f0 f1 m0 m1 5 zc _ h0 n0 O0 h0.size (own_ole O0) K0.1 fs hfs S_F S_D S_H S_L hf hm hq_f0 hq_f1 hq_m0 hq_m1 (by decide) Es1 Fv1 Fc1 hso V1 S_C hzc) e106 (g := (mkF m 286 #[.val (.int p1), .val (.int p2), .val (.int p3), .val (.int p4), .val (.int fl), .val (.int ml), .val (.int f0), .val (.int f1), .val (.int m0), .val (.int m1), .val (.ref x1), .val (.ref x2), .val (.ref s1), .val (.int (Int32.ofNat (allC fl ml f0 f1 m0 m1).length)), .val (.int (1 : Int32))] [(.int m1), (.int m0), (.int f1), (.int f0), (.int fl), (.int (Int32.ofNat (allC fl ml f0 f1 m0 m1).length)), (.int (5 : Int32)), (.ref s1)])) rfl (by rw [hml]; rfl) (argsL := [(.ref s1), (.int (5 : Int32)), (.int (Int32.ofNat (allC fl ml f0 f1 m0 m1).length)), (.int fl), (.int f0), (.int f1), (.int m0), (.int m1)]) (rest := []) (lenOf pd40 rfl) rfl (W := 0) (by show 2 * 0 + _ ≤ _; exact Nat.le_of_eq rfl) (hb hby at_286) (by decide) (by decide) (by decide) (by decide)
  obtain ⟨rfl, Nq107, hh107⟩ := hQ107
  have N107 := Fr.app N106 (show Fr nb _ from fun y hy => Nat.le_trans hnb (Nq107 y hy))
  obtain ⟨hx, hZ, hown, hby, hml, hnm, hret, hlk⟩ := id Cc107
  rw [hh107] at e107 B107 J107
  refine Go.of st107 ?_
  show Go p e s below _ _ _ _ T107 (mkF m 289 #[.val (.int p1), .val (.int p2), .val (.int p3), .val (.int p4), .val (.int fl), .val (.int ml), .val (.int f0), .val (.int f1), .val (.int m0), .val (.int m1), .val (.ref x1), .val (.ref x2), .val (.ref s1), .val (.int (Int32.ofNat (allC fl ml f0 f1 m0 m1).length)), .val (.int (1 : Int32))] [(.int (1 : Int32))])
  refine Go.of (fun _ hr => XS.ifNo X107.here hx rfl (hb hby at_289) rfl ((if0 _ _).trans (feq (by decide : ¬ ((1 : Int32) = (0 : Int32)))).1) hr) ?_
  show Go p e s below _ _ _ _ T107 (mkF m 292 #[.val (.int p1), .val (.int p2), .val (.int p3), .val (.int p4), .val (.int fl), .val (.int ml), .val (.int f0), .val (.int f1), .val (.int m0), .val (.int m1), .val (.ref x1), .val (.ref x2), .val (.ref s1), .val (.int (Int32.ofNat (allC fl ml f0 f1 m0 m1).length)), .val (.int (1 : Int32))] [])
  refine Go.of (fun _ hr => XS.iconst X107.here hx rfl (hb hby at_292) hr) ?_
  show Go p e s below _ _ _ _ T107 (mkF m 293 #[.val (.int p1), .val (.int p2), .val (.int p3), .val (.int p4), .val (.int fl), .val (.int ml), .val (.int f0), .val (.int f1), .val (.int m0), .val (.int m1), .val (.ref x1), .val (.ref x2), .val (.ref s1), .val (.int (Int32.ofNat (allC fl ml f0 f1 m0 m1).length)), .val (.int (1 : Int32))] [(.int (1 : Int32))])
  refine Go.of (fun _ hr => XS.goto X107.here hx rfl (pc0 := 293) (pc' := 297) rfl (hb hby at_293) (by decide) (by decide) hr) ?_
  show Go p e s below _ _ _ _ T107 (mkF m 297 #[.val (.int p1), .val (.int p2), .val (.int p3), .val (.int p4), .val (.int fl), .val (.int ml), .val (.int f0), .val (.int f1), .val (.int m0), .val (.int m1), .val (.ref x1), .val (.ref x2), .val (.ref s1), .val (.int (Int32.ofNat (allC fl ml f0 f1 m0 m1).length)), .val (.int (1 : Int32))] [(.int (1 : Int32))])
  refine Go.of (fun _ hr => XS.istore X107.here hx rfl (hb hby at_297) rfl (l' := #[.val (.int p1), .val (.int p2), .val (.int p3), .val (.int p4), .val (.int fl), .val (.int ml), .val (.int f0), .val (.int f1), .val (.int m0), .val (.int m1), .val (.ref x1), .val (.ref x2), .val (.ref s1), .val (.int (Int32.ofNat (allC fl ml f0 f1 m0 m1).length)), .val (.int (1 : Int32))]) rfl hr) ?_
  show Go p e s below _ _ _ _ T107 (mkF m 299 #[.val (.int p1), .val (.int p2), .val (.int p3), .val (.int p4), .val (.int fl), .val (.int ml), .val (.int f0), .val (.int f1), .val (.int m0), .val (.int m1), .val (.ref x1), .val (.ref x2), .val (.ref s1), .val (.int (Int32.ofNat (allC fl ml f0 f1 m0 m1).length)), .val (.int (1 : Int32))] [])
  refine Go.of (fun _ hr => XS.iload X107.here hx rfl (hb hby at_299) rfl  hr) ?_
  show Go p e s below _ _ _ _ T107 (mkF m 301 #[.val (.int p1), .val (.int p2), .val (.int p3), .val (.int p4), .val (.int fl), .val (.int ml), .val (.int f0), .val (.int f1), .val (.int m0), .val (.int m1), .val (.ref x1), .val (.ref x2), .val (.ref s1), .val (.int (Int32.ofNat (allC fl ml f0 f1 m0 m1).length)), .val (.int (1 : Int32))] [(.int (1 : Int32))])
  exact Go.retN X107 hx hlk B107 J107 e107 (t := .boolean) (z' := (1 : Int32)) hret (by simp) (hb hby at_301) rfl (by decide) (by decide) (fun vm_ hw_ => ⟨rfl, N107⟩)

theorem pd41 : parseMethodDescriptor "(ICC)Ljava/lang/String;" = some ⟨[.int, .char, .char], some (.object "java/lang/String")⟩ := by decide +kernel
theorem pd42 : parseMethodDescriptor "(Ljava/lang/String;Ljava/lang/String;)V" = some ⟨[(.object "java/lang/String"), (.object "java/lang/String")], none⟩ := by decide +kernel
set_option maxRecDepth 65536 in
set_option maxHeartbeats 40000000 in
theorem rm0 (l : Launch) (Z : State) (a0 : Array Value) (hw : ∀ d ∈ tables_1, d.before a0 Z = true) (ws : List Jvm.Cond) (p1 p2 p3 p4 : Int32) (zc : Int32) (ms : List Addr) (h0 : Heap) (n0 : Nat) (O0 : Old Z n0 h0) (nb : Nat) (hb0 : n0 ≤ nb) (hnb : nb ≤ h0.size) (fs : Value) (hfs : fs = .null ∨ ∃ a, fs = .ref a) (S_F : Sta Z Z.heap "jdk/internal/util/Preconditions" "SIOOBE_FORMATTER" "Ljava/util/function/BiFunction;" fs) (S_D : Sta Z Z.heap "java/lang/StringUTF16" "$assertionsDisabled" "Z" (.int 1)) (S_H : Sta Z Z.heap "java/lang/StringUTF16" "HI_BYTE_SHIFT" "I" (.int 0)) (S_L : Sta Z Z.heap "java/lang/StringUTF16" "LO_BYTE_SHIFT" "I" (.int 8)) (S_C : Sta Z Z.heap "java/lang/String" "COMPACT_STRINGS" "Z" (.int zc)) (hzc : ¬ zc = 0) :
    Con l Z ms x code maxLocals ret ws room_1 #[(.int p1), (.int p2), (.int p3), (.int p4)] h0 (fun v vm h L => v = some (.int 1) ∧ Fr nb L) := by
  refine Con.mk (plainFor_of_name pn7) ?_
  intro p e s m below meth c s₁ Cc X0 e0 eb J0 B0 M0
  replace Cc : Cx Z p s m meth c "com/example/dispatcher/dispatcher/web/FieldErrorToStringPinLaw" code 15 "law" ret := Cc
  obtain ⟨hx, hZ, hown, hby, hml, hnm, hret, hlk⟩ := id Cc
  have N0 := Fr.nil h0.size
  have K0 := Keep.refl h0 []
  refine own_go0 (show argsToLocals #[(.int p1), (.int p2), (.int p3), (.int p4)] 15 = #[.val (.int p1), .val (.int p2), .val (.int p3), .val (.int p4), .unset, .unset, .unset, .unset, .unset, .unset, .unset, .unset, .unset, .unset, .unset] from by simp [argsToLocals, Value.category, Array.replicate, List.replicate]) ?_
  show Go p e s below _ _ _ _ s₁ (mkF m 0 #[.val (.int p1), .val (.int p2), .val (.int p3), .val (.int p4), .unset, .unset, .unset, .unset, .unset, .unset, .unset, .unset, .unset, .unset, .unset] [])
  refine Go.of (fun _ hr => XS.iloadN X0.here hx rfl (hb hby at_0) rfl  hr) ?_
  show Go p e s below _ _ _ _ s₁ (mkF m 1 #[.val (.int p1), .val (.int p2), .val (.int p3), .val (.int p4), .unset, .unset, .unset, .unset, .unset, .unset, .unset, .unset, .unset, .unset, .unset] [(.int p1)])
  refine Go.of (fun _ hr => X0.ldcInt hx hown (mvT hZ (hw _ (List.mem_of_getElem? (i := 0) rfl))) (g := (mkF m 1 #[.val (.int p1), .val (.int p2), .val (.int p3), .val (.int p4), .unset, .unset, .unset, .unset, .unset, .unset, .unset, .unset, .unset, .unset, .unset] [(.int p1)])) rfl (hb hby at_1) _ hr) ?_
  show Go p e s below _ _ _ _ s₁ (mkF m 3 #[.val (.int p1), .val (.int p2), .val (.int p3), .val (.int p4), .unset, .unset, .unset, .unset, .unset, .unset, .unset, .unset, .unset, .unset, .unset] [(.int (2147483647 : Int32)), (.int p1)])
  refine Go.of (fun _ hr => XS.iand X0.here hx rfl (hb hby at_3) rfl hr) ?_
  show Go p e s below _ _ _ _ s₁ (mkF m 4 #[.val (.int p1), .val (.int p2), .val (.int p3), .val (.int p4), .unset, .unset, .unset, .unset, .unset, .unset, .unset, .unset, .unset, .unset, .unset] [(.int (p1 &&& (2147483647 : Int32)))])
  refine Go.of (fun _ hr => XS.iconst X0.here hx rfl (hb hby at_4) hr) ?_
  show Go p e s below _ _ _ _ s₁ (mkF m 5 #[.val (.int p1), .val (.int p2), .val (.int p3), .val (.int p4), .unset, .unset, .unset, .unset, .unset, .unset, .unset, .unset, .unset, .unset, .unset] [(.int (3 : Int32)), (.int (p1 &&& (2147483647 : Int32)))])
  refine Go.of (fun _ hr => iremM X0 hx rfl (hb hby at_5) rfl (by decide) hr) ?_
  show Go p e s below _ _ _ _ s₁ (mkF m 6 #[.val (.int p1), .val (.int p2), .val (.int p3), .val (.int p4), .unset, .unset, .unset, .unset, .unset, .unset, .unset, .unset, .unset, .unset, .unset] [(.int ((p1 &&& (2147483647 : Int32)) % (3 : Int32)))])
  have hf := rem3b p1
  generalize ((p1 &&& (2147483647 : Int32)) % (3 : Int32)) = fl at hf ⊢
  show Go p e s below _ _ _ _ s₁ (mkF m 6 #[.val (.int p1), .val (.int p2), .val (.int p3), .val (.int p4), .unset, .unset, .unset, .unset, .unset, .unset, .unset, .unset, .unset, .unset, .unset] [(.int fl)])
  refine Go.of (fun _ hr => XS.istore X0.here hx rfl (hb hby at_6) rfl (l' := #[.val (.int p1), .val (.int p2), .val (.int p3), .val (.int p4), .val (.int fl), .unset, .unset, .unset, .unset, .unset, .unset, .unset, .unset, .unset, .unset]) rfl hr) ?_
  show Go p e s below _ _ _ _ s₁ (mkF m 8 #[.val (.int p1), .val (.int p2), .val (.int p3), .val (.int p4), .val (.int fl), .unset, .unset, .unset, .unset, .unset, .unset, .unset, .unset, .unset, .unset] [])
  refine Go.of (fun _ hr => XS.iloadN X0.here hx rfl (hb hby at_8) rfl  hr) ?_
  show Go p e s below _ _ _ _ s₁ (mkF m 9 #[.val (.int p1), .val (.int p2), .val (.int p3), .val (.int p4), .val (.int fl), .unset, .unset, .unset, .unset, .unset, .unset, .unset, .unset, .unset, .unset] [(.int p2)])
  refine Go.of (fun _ hr => X0.ldcInt hx hown (mvT hZ (hw _ (List.mem_of_getElem? (i := 0) rfl))) (g := (mkF m 9 #[.val (.int p1), .val (.int p2), .val (.int p3), .val (.int p4), .val (.int fl), .unset, .unset, .unset, .unset, .unset, .unset, .unset, .unset, .unset, .unset] [(.int p2)])) rfl (hb hby at_9) _ hr) ?_
  show Go p e s below _ _ _ _ s₁ (mkF m 11 #[.val (.int p1), .val (.int p2), .val (.int p3), .val (.int p4), .val (.int fl), .unset, .unset, .unset, .unset, .unset, .unset, .unset, .unset, .unset, .unset] [(.int (2147483647 : Int32)), (.int p2)])
  refine Go.of (fun _ hr => XS.iand X0.here hx rfl (hb hby at_11) rfl hr) ?_
  show Go p e s below _ _ _ _ s₁ (mkF m 12 #[.val (.int p1), .val (.int p2), .val (.int p3), .val (.int p4), .val (.int fl), .unset, .unset, .unset, .unset, .unset, .unset, .unset, .unset, .unset, .unset] [(.int (p2 &&& (2147483647 : Int32)))])
  refine Go.of (fun _ hr => XS.iconst X0.here hx rfl (hb hby at_12) hr) ?_
  show Go p e s below _ _ _ _ s₁ (mkF m 13 #[.val (.int p1), .val (.int p2), .val (.int p3), .val (.int p4), .val (.int fl), .unset, .unset, .unset, .unset, .unset, .unset, .unset, .unset, .unset, .unset] [(.int (3 : Int32)), (.int (p2 &&& (2147483647 : Int32)))])
  refine Go.of (fun _ hr => iremM X0 hx rfl (hb hby at_13) rfl (by decide) hr) ?_
  show Go p e s below _ _ _ _ s₁ (mkF m 14 #[.val (.int p1), .val (.int p2), .val (.int p3), .val (.int p4), .val (.int fl), .unset, .unset, .unset, .unset, .unset, .unset, .unset, .unset, .unset, .unset] [(.int ((p2 &&& (2147483647 : Int32)) % (3 : Int32)))])
  have hm := rem3b p2
  generalize ((p2 &&& (2147483647 : Int32)) % (3 : Int32)) = ml at hm ⊢
  show Go p e s below _ _ _ _ s₁ (mkF m 14 #[.val (.int p1), .val (.int p2), .val (.int p3), .val (.int p4), .val (.int fl), .unset, .unset, .unset, .unset, .unset, .unset, .unset, .unset, .unset, .unset] [(.int ml)])
  refine Go.of (fun _ hr => XS.istore X0.here hx rfl (hb hby at_14) rfl (l' := #[.val (.int p1), .val (.int p2), .val (.int p3), .val (.int p4), .val (.int fl), .val (.int ml), .unset, .unset, .unset, .unset, .unset, .unset, .unset, .unset, .unset]) rfl hr) ?_
  show Go p e s below _ _ _ _ s₁ (mkF m 16 #[.val (.int p1), .val (.int p2), .val (.int p3), .val (.int p4), .val (.int fl), .val (.int ml), .unset, .unset, .unset, .unset, .unset, .unset, .unset, .unset, .unset] [])
  refine Go.of (fun _ hr => XS.iloadN X0.here hx rfl (hb hby at_16) rfl  hr) ?_
  show Go p e s below _ _ _ _ s₁ (mkF m 17 #[.val (.int p1), .val (.int p2), .val (.int p3), .val (.int p4), .val (.int fl), .val (.int ml), .unset, .unset, .unset, .unset, .unset, .unset, .unset, .unset, .unset] [(.int p3)])
  refine Go.of (fun _ hr => X0.ldcInt hx hown (mvT hZ (hw _ (List.mem_of_getElem? (i := 1) rfl))) (g := (mkF m 17 #[.val (.int p1), .val (.int p2), .val (.int p3), .val (.int p4), .val (.int fl), .val (.int ml), .unset, .unset, .unset, .unset, .unset, .unset, .unset, .unset, .unset] [(.int p3)])) rfl (hb hby at_17) _ hr) ?_
  show Go p e s below _ _ _ _ s₁ (mkF m 19 #[.val (.int p1), .val (.int p2), .val (.int p3), .val (.int p4), .val (.int fl), .val (.int ml), .unset, .unset, .unset, .unset, .unset, .unset, .unset, .unset, .unset] [(.int (65535 : Int32)), (.int p3)])
  refine Go.of (fun _ hr => XS.iand X0.here hx rfl (hb hby at_19) rfl hr) ?_
  show Go p e s below _ _ _ _ s₁ (mkF m 20 #[.val (.int p1), .val (.int p2), .val (.int p3), .val (.int p4), .val (.int fl), .val (.int ml), .unset, .unset, .unset, .unset, .unset, .unset, .unset, .unset, .unset] [(.int (p3 &&& (65535 : Int32)))])
  refine Go.of (fun _ hr => XS.i2c X0.here hx rfl (hb hby at_20) rfl hr) ?_
  show Go p e s below _ _ _ _ s₁ (mkF m 21 #[.val (.int p1), .val (.int p2), .val (.int p3), .val (.int p4), .val (.int fl), .val (.int ml), .unset, .unset, .unset, .unset, .unset, .unset, .unset, .unset, .unset] [(.int ((p3 &&& (65535 : Int32)).toUInt32.toUInt16.toUInt32.toInt32))])
  have hq_f0 := chr16 (p3 &&& (65535 : Int32))
  generalize ((p3 &&& (65535 : Int32)).toUInt32.toUInt16.toUInt32.toInt32) = f0 at hq_f0 ⊢
  show Go p e s below _ _ _ _ s₁ (mkF m 21 #[.val (.int p1), .val (.int p2), .val (.int p3), .val (.int p4), .val (.int fl), .val (.int ml), .unset, .unset, .unset, .unset, .unset, .unset, .unset, .unset, .unset] [(.int f0)])
  refine Go.of (fun _ hr => XS.istore X0.here hx rfl (hb hby at_21) rfl (l' := #[.val (.int p1), .val (.int p2), .val (.int p3), .val (.int p4), .val (.int fl), .val (.int ml), .val (.int f0), .unset, .unset, .unset, .unset, .unset, .unset, .unset, .unset]) rfl hr) ?_
  show Go p e s below _ _ _ _ s₁ (mkF m 23 #[.val (.int p1), .val (.int p2), .val (.int p3), .val (.int p4), .val (.int fl), .val (.int ml), .val (.int f0), .unset, .unset, .unset, .unset, .unset, .unset, .unset, .unset] [])
  refine Go.of (fun _ hr => XS.iloadN X0.here hx rfl (hb hby at_23) rfl  hr) ?_
  show Go p e s below _ _ _ _ s₁ (mkF m 24 #[.val (.int p1), .val (.int p2), .val (.int p3), .val (.int p4), .val (.int fl), .val (.int ml), .val (.int f0), .unset, .unset, .unset, .unset, .unset, .unset, .unset, .unset] [(.int p3)])
  refine Go.of (fun _ hr => XS.bipush X0.here hx rfl (hb hby at_24) hr) ?_
  show Go p e s below _ _ _ _ s₁ (mkF m 26 #[.val (.int p1), .val (.int p2), .val (.int p3), .val (.int p4), .val (.int fl), .val (.int ml), .val (.int f0), .unset, .unset, .unset, .unset, .unset, .unset, .unset, .unset] [(.int (16 : Int32)), (.int p3)])
  refine Go.of (fun _ hr => XS.iushr X0.here hx rfl (hb hby at_26) rfl hr) ?_
  show Go p e s below _ _ _ _ s₁ (mkF m 27 #[.val (.int p1), .val (.int p2), .val (.int p3), .val (.int p4), .val (.int fl), .val (.int ml), .val (.int f0), .unset, .unset, .unset, .unset, .unset, .unset, .unset, .unset] [(.int ((p3.toUInt32 >>> ((16 : Int32) &&& 31).toUInt32).toInt32))])
  refine Go.of (fun _ hr => X0.ldcInt hx hown (mvT hZ (hw _ (List.mem_of_getElem? (i := 1) rfl))) (g := (mkF m 27 #[.val (.int p1), .val (.int p2), .val (.int p3), .val (.int p4), .val (.int fl), .val (.int ml), .val (.int f0), .unset, .unset, .unset, .unset, .unset, .unset, .unset, .unset] [(.int ((p3.toUInt32 >>> ((16 : Int32) &&& 31).toUInt32).toInt32))])) rfl (hb hby at_27) _ hr) ?_
  show Go p e s below _ _ _ _ s₁ (mkF m 29 #[.val (.int p1), .val (.int p2), .val (.int p3), .val (.int p4), .val (.int fl), .val (.int ml), .val (.int f0), .unset, .unset, .unset, .unset, .unset, .unset, .unset, .unset] [(.int (65535 : Int32)), (.int ((p3.toUInt32 >>> ((16 : Int32) &&& 31).toUInt32).toInt32))])
  refine Go.of (fun _ hr => XS.iand X0.here hx rfl (hb hby at_29) rfl hr) ?_
  show Go p e s below _ _ _ _ s₁ (mkF m 30 #[.val (.int p1), .val (.int p2), .val (.int p3), .val (.int p4), .val (.int fl), .val (.int ml), .val (.int f0), .unset, .unset, .unset, .unset, .unset, .unset, .unset, .unset] [(.int (((p3.toUInt32 >>> ((16 : Int32) &&& 31).toUInt32).toInt32) &&& (65535 : Int32)))])
  refine Go.of (fun _ hr => XS.i2c X0.here hx rfl (hb hby at_30) rfl hr) ?_
  show Go p e s below _ _ _ _ s₁ (mkF m 31 #[.val (.int p1), .val (.int p2), .val (.int p3), .val (.int p4), .val (.int fl), .val (.int ml), .val (.int f0), .unset, .unset, .unset, .unset, .unset, .unset, .unset, .unset] [(.int ((((p3.toUInt32 >>> ((16 : Int32) &&& 31).toUInt32).toInt32) &&& (65535 : Int32)).toUInt32.toUInt16.toUInt32.toInt32))])
  have hq_f1 := chr16 (((p3.toUInt32 >>> ((16 : Int32) &&& 31).toUInt32).toInt32) &&& (65535 : Int32))
  generalize ((((p3.toUInt32 >>> ((16 : Int32) &&& 31).toUInt32).toInt32) &&& (65535 : Int32)).toUInt32.toUInt16.toUInt32.toInt32) = f1 at hq_f1 ⊢
  show Go p e s below _ _ _ _ s₁ (mkF m 31 #[.val (.int p1), .val (.int p2), .val (.int p3), .val (.int p4), .val (.int fl), .val (.int ml), .val (.int f0), .unset, .unset, .unset, .unset, .unset, .unset, .unset, .unset] [(.int f1)])
  refine Go.of (fun _ hr => XS.istore X0.here hx rfl (hb hby at_31) rfl (l' := #[.val (.int p1), .val (.int p2), .val (.int p3), .val (.int p4), .val (.int fl), .val (.int ml), .val (.int f0), .val (.int f1), .unset, .unset, .unset, .unset, .unset, .unset, .unset]) rfl hr) ?_
  show Go p e s below _ _ _ _ s₁ (mkF m 33 #[.val (.int p1), .val (.int p2), .val (.int p3), .val (.int p4), .val (.int fl), .val (.int ml), .val (.int f0), .val (.int f1), .unset, .unset, .unset, .unset, .unset, .unset, .unset] [])
  refine Go.of (fun _ hr => XS.iloadN X0.here hx rfl (hb hby at_33) rfl  hr) ?_
  show Go p e s below _ _ _ _ s₁ (mkF m 34 #[.val (.int p1), .val (.int p2), .val (.int p3), .val (.int p4), .val (.int fl), .val (.int ml), .val (.int f0), .val (.int f1), .unset, .unset, .unset, .unset, .unset, .unset, .unset] [(.int p4)])
  refine Go.of (fun _ hr => X0.ldcInt hx hown (mvT hZ (hw _ (List.mem_of_getElem? (i := 1) rfl))) (g := (mkF m 34 #[.val (.int p1), .val (.int p2), .val (.int p3), .val (.int p4), .val (.int fl), .val (.int ml), .val (.int f0), .val (.int f1), .unset, .unset, .unset, .unset, .unset, .unset, .unset] [(.int p4)])) rfl (hb hby at_34) _ hr) ?_
  show Go p e s below _ _ _ _ s₁ (mkF m 36 #[.val (.int p1), .val (.int p2), .val (.int p3), .val (.int p4), .val (.int fl), .val (.int ml), .val (.int f0), .val (.int f1), .unset, .unset, .unset, .unset, .unset, .unset, .unset] [(.int (65535 : Int32)), (.int p4)])
  refine Go.of (fun _ hr => XS.iand X0.here hx rfl (hb hby at_36) rfl hr) ?_
  show Go p e s below _ _ _ _ s₁ (mkF m 37 #[.val (.int p1), .val (.int p2), .val (.int p3), .val (.int p4), .val (.int fl), .val (.int ml), .val (.int f0), .val (.int f1), .unset, .unset, .unset, .unset, .unset, .unset, .unset] [(.int (p4 &&& (65535 : Int32)))])
  refine Go.of (fun _ hr => XS.i2c X0.here hx rfl (hb hby at_37) rfl hr) ?_
  show Go p e s below _ _ _ _ s₁ (mkF m 38 #[.val (.int p1), .val (.int p2), .val (.int p3), .val (.int p4), .val (.int fl), .val (.int ml), .val (.int f0), .val (.int f1), .unset, .unset, .unset, .unset, .unset, .unset, .unset] [(.int ((p4 &&& (65535 : Int32)).toUInt32.toUInt16.toUInt32.toInt32))])
  have hq_m0 := chr16 (p4 &&& (65535 : Int32))
  generalize ((p4 &&& (65535 : Int32)).toUInt32.toUInt16.toUInt32.toInt32) = m0 at hq_m0 ⊢
  show Go p e s below _ _ _ _ s₁ (mkF m 38 #[.val (.int p1), .val (.int p2), .val (.int p3), .val (.int p4), .val (.int fl), .val (.int ml), .val (.int f0), .val (.int f1), .unset, .unset, .unset, .unset, .unset, .unset, .unset] [(.int m0)])
  refine Go.of (fun _ hr => XS.istore X0.here hx rfl (hb hby at_38) rfl (l' := #[.val (.int p1), .val (.int p2), .val (.int p3), .val (.int p4), .val (.int fl), .val (.int ml), .val (.int f0), .val (.int f1), .val (.int m0), .unset, .unset, .unset, .unset, .unset, .unset]) rfl hr) ?_
  show Go p e s below _ _ _ _ s₁ (mkF m 40 #[.val (.int p1), .val (.int p2), .val (.int p3), .val (.int p4), .val (.int fl), .val (.int ml), .val (.int f0), .val (.int f1), .val (.int m0), .unset, .unset, .unset, .unset, .unset, .unset] [])
  refine Go.of (fun _ hr => XS.iloadN X0.here hx rfl (hb hby at_40) rfl  hr) ?_
  show Go p e s below _ _ _ _ s₁ (mkF m 41 #[.val (.int p1), .val (.int p2), .val (.int p3), .val (.int p4), .val (.int fl), .val (.int ml), .val (.int f0), .val (.int f1), .val (.int m0), .unset, .unset, .unset, .unset, .unset, .unset] [(.int p4)])
  refine Go.of (fun _ hr => XS.bipush X0.here hx rfl (hb hby at_41) hr) ?_
  show Go p e s below _ _ _ _ s₁ (mkF m 43 #[.val (.int p1), .val (.int p2), .val (.int p3), .val (.int p4), .val (.int fl), .val (.int ml), .val (.int f0), .val (.int f1), .val (.int m0), .unset, .unset, .unset, .unset, .unset, .unset] [(.int (16 : Int32)), (.int p4)])
  refine Go.of (fun _ hr => XS.iushr X0.here hx rfl (hb hby at_43) rfl hr) ?_
  show Go p e s below _ _ _ _ s₁ (mkF m 44 #[.val (.int p1), .val (.int p2), .val (.int p3), .val (.int p4), .val (.int fl), .val (.int ml), .val (.int f0), .val (.int f1), .val (.int m0), .unset, .unset, .unset, .unset, .unset, .unset] [(.int ((p4.toUInt32 >>> ((16 : Int32) &&& 31).toUInt32).toInt32))])
  refine Go.of (fun _ hr => X0.ldcInt hx hown (mvT hZ (hw _ (List.mem_of_getElem? (i := 1) rfl))) (g := (mkF m 44 #[.val (.int p1), .val (.int p2), .val (.int p3), .val (.int p4), .val (.int fl), .val (.int ml), .val (.int f0), .val (.int f1), .val (.int m0), .unset, .unset, .unset, .unset, .unset, .unset] [(.int ((p4.toUInt32 >>> ((16 : Int32) &&& 31).toUInt32).toInt32))])) rfl (hb hby at_44) _ hr) ?_
  show Go p e s below _ _ _ _ s₁ (mkF m 46 #[.val (.int p1), .val (.int p2), .val (.int p3), .val (.int p4), .val (.int fl), .val (.int ml), .val (.int f0), .val (.int f1), .val (.int m0), .unset, .unset, .unset, .unset, .unset, .unset] [(.int (65535 : Int32)), (.int ((p4.toUInt32 >>> ((16 : Int32) &&& 31).toUInt32).toInt32))])
  refine Go.of (fun _ hr => XS.iand X0.here hx rfl (hb hby at_46) rfl hr) ?_
  show Go p e s below _ _ _ _ s₁ (mkF m 47 #[.val (.int p1), .val (.int p2), .val (.int p3), .val (.int p4), .val (.int fl), .val (.int ml), .val (.int f0), .val (.int f1), .val (.int m0), .unset, .unset, .unset, .unset, .unset, .unset] [(.int (((p4.toUInt32 >>> ((16 : Int32) &&& 31).toUInt32).toInt32) &&& (65535 : Int32)))])
  refine Go.of (fun _ hr => XS.i2c X0.here hx rfl (hb hby at_47) rfl hr) ?_
  show Go p e s below _ _ _ _ s₁ (mkF m 48 #[.val (.int p1), .val (.int p2), .val (.int p3), .val (.int p4), .val (.int fl), .val (.int ml), .val (.int f0), .val (.int f1), .val (.int m0), .unset, .unset, .unset, .unset, .unset, .unset] [(.int ((((p4.toUInt32 >>> ((16 : Int32) &&& 31).toUInt32).toInt32) &&& (65535 : Int32)).toUInt32.toUInt16.toUInt32.toInt32))])
  have hq_m1 := chr16 (((p4.toUInt32 >>> ((16 : Int32) &&& 31).toUInt32).toInt32) &&& (65535 : Int32))
  generalize ((((p4.toUInt32 >>> ((16 : Int32) &&& 31).toUInt32).toInt32) &&& (65535 : Int32)).toUInt32.toUInt16.toUInt32.toInt32) = m1 at hq_m1 ⊢
  show Go p e s below _ _ _ _ s₁ (mkF m 48 #[.val (.int p1), .val (.int p2), .val (.int p3), .val (.int p4), .val (.int fl), .val (.int ml), .val (.int f0), .val (.int f1), .val (.int m0), .unset, .unset, .unset, .unset, .unset, .unset] [(.int m1)])
  refine Go.of (fun _ hr => XS.istore X0.here hx rfl (hb hby at_48) rfl (l' := #[.val (.int p1), .val (.int p2), .val (.int p3), .val (.int p4), .val (.int fl), .val (.int ml), .val (.int f0), .val (.int f1), .val (.int m0), .val (.int m1), .unset, .unset, .unset, .unset, .unset]) rfl hr) ?_
  show Go p e s below _ _ _ _ s₁ (mkF m 50 #[.val (.int p1), .val (.int p2), .val (.int p3), .val (.int p4), .val (.int fl), .val (.int ml), .val (.int f0), .val (.int f1), .val (.int m0), .val (.int m1), .unset, .unset, .unset, .unset, .unset] [])
  refine Go.of (fun _ hr => XS.iload X0.here hx rfl (hb hby at_50) rfl  hr) ?_
  show Go p e s below _ _ _ _ s₁ (mkF m 52 #[.val (.int p1), .val (.int p2), .val (.int p3), .val (.int p4), .val (.int fl), .val (.int ml), .val (.int f0), .val (.int f1), .val (.int m0), .val (.int m1), .unset, .unset, .unset, .unset, .unset] [(.int fl)])
  refine Go.of (fun _ hr => XS.iload X0.here hx rfl (hb hby at_52) rfl  hr) ?_
  show Go p e s below _ _ _ _ s₁ (mkF m 54 #[.val (.int p1), .val (.int p2), .val (.int p3), .val (.int p4), .val (.int fl), .val (.int ml), .val (.int f0), .val (.int f1), .val (.int m0), .val (.int m1), .unset, .unset, .unset, .unset, .unset] [(.int f0), (.int fl)])
  refine Go.of (fun _ hr => XS.iload X0.here hx rfl (hb hby at_54) rfl  hr) ?_
  show Go p e s below _ _ _ _ s₁ (mkF m 56 #[.val (.int p1), .val (.int p2), .val (.int p3), .val (.int p4), .val (.int fl), .val (.int ml), .val (.int f0), .val (.int f1), .val (.int m0), .val (.int m1), .unset, .unset, .unset, .unset, .unset] [(.int f1), (.int f0), (.int fl)])
  obtain ⟨_, b101, T101, h101, L101, e101, Cc101, X101, B101, J101, g101, hQ101, st101⟩ := own_callS Cc B0 J0 X0 (hw _ (List.mem_of_getElem? (i := 2) rfl)) (hw _ (List.mem_of_getElem? (i := 3) rfl)) (hw _ (List.mem_of_getElem? (i := 4) rfl)) (hw _ (List.mem_of_getElem? (i := 5) rfl)) (by decide) (rm1 l Z a0 hw [] fl f0 f1 zc _ h0 n0 O0 h0.size (own_ole O0) K0.1 S_D S_H S_L hq_f0 hq_f1 S_C hzc) e0 (g := (mkF m 56 #[.val (.int p1), .val (.int p2), .val (.int p3), .val (.int p4), .val (.int fl), .val (.int ml), .val (.int f0), .val (.int f1), .val (.int m0), .val (.int m1), .unset, .unset, .unset, .unset, .unset] [(.int f1), (.int f0), (.int fl)])) rfl (by rw [hml]; rfl) (argsL := [(.int fl), (.int f0), (.int f1)]) (rest := []) (lenOf pd41 rfl) rfl (W := 0) (by show 2 * 0 + _ ≤ _; exact Nat.le_of_eq rfl) (hb hby at_56) (by decide) (by decide) (by decide) (by decide)
  obtain ⟨r101, t101, kt101, cd101, bb101, rfl, Nq101, Eq101, nr101, nt101, Er101, Fv101, Fc101, So101, Vt101⟩ := hQ101
  have N101 := Fr.app N0 Nq101
  obtain ⟨hx, hZ, hown, hby, hml, hnm, hret, hlk⟩ := id Cc101
  have K101 := K0.ext Eq101
  have O101 := O0.ext Eq101
  refine Go.of st101 ?_
  show Go p e s below _ _ _ _ T101 (mkF m 59 #[.val (.int p1), .val (.int p2), .val (.int p3), .val (.int p4), .val (.int fl), .val (.int ml), .val (.int f0), .val (.int f1), .val (.int m0), .val (.int m1), .unset, .unset, .unset, .unset, .unset] [(.ref r101)])
  refine Go.of (fun _ hr => XS.astore X101.here hx rfl (hb hby at_59) rfl rfl (l' := #[.val (.int p1), .val (.int p2), .val (.int p3), .val (.int p4), .val (.int fl), .val (.int ml), .val (.int f0), .val (.int f1), .val (.int m0), .val (.int m1), .val (.ref r101), .unset, .unset, .unset, .unset]) rfl hr) ?_
  show Go p e s below _ _ _ _ T101 (mkF m 61 #[.val (.int p1), .val (.int p2), .val (.int p3), .val (.int p4), .val (.int fl), .val (.int ml), .val (.int f0), .val (.int f1), .val (.int m0), .val (.int m1), .val (.ref r101), .unset, .unset, .unset, .unset] [])
  refine Go.of (fun _ hr => XS.iload X101.here hx rfl (hb hby at_61) rfl  hr) ?_
  show Go p e s below _ _ _ _ T101 (mkF m 63 #[.val (.int p1), .val (.int p2), .val (.int p3), .val (.int p4), .val (.int fl), .val (.int ml), .val (.int f0), .val (.int f1), .val (.int m0), .val (.int m1), .val (.ref r101), .unset, .unset, .unset, .unset] [(.int ml)])
  refine Go.of (fun _ hr => XS.iload X101.here hx rfl (hb hby at_63) rfl  hr) ?_
  show Go p e s below _ _ _ _ T101 (mkF m 65 #[.val (.int p1), .val (.int p2), .val (.int p3), .val (.int p4), .val (.int fl), .val (.int ml), .val (.int f0), .val (.int f1), .val (.int m0), .val (.int m1), .val (.ref r101), .unset, .unset, .unset, .unset] [(.int m0), (.int ml)])
  refine Go.of (fun _ hr => XS.iload X101.here hx rfl (hb hby at_65) rfl  hr) ?_
  show Go p e s below _ _ _ _ T101 (mkF m 67 #[.val (.int p1), .val (.int p2), .val (.int p3), .val (.int p4), .val (.int fl), .val (.int ml), .val (.int f0), .val (.int f1), .val (.int m0), .val (.int m1), .val (.ref r101), .unset, .unset, .unset, .unset] [(.int m1), (.int m0), (.int ml)])
  obtain ⟨_, b102, T102, h102, L102, e102, Cc102, X102, B102, J102, g102, hQ102, st102⟩ := own_callS Cc101 B101 J101 X101 (hw _ (List.mem_of_getElem? (i := 2) rfl)) (hw _ (List.mem_of_getElem? (i := 3) rfl)) (hw _ (List.mem_of_getElem? (i := 4) rfl)) (hw _ (List.mem_of_getElem? (i := 5) rfl)) (by decide) (rm1 l Z a0 hw [] ml m0 m1 zc _ h101 n0 O101 h0.size (own_ole O0) K101.1 S_D S_H S_L hq_m0 hq_m1 S_C hzc) e101 (g := (mkF m 67 #[.val (.int p1), .val (.int p2), .val (.int p3), .val (.int p4), .val (.int fl), .val (.int ml), .val (.int f0), .val (.int f1), .val (.int m0), .val (.int m1), .val (.ref r101), .unset, .unset, .unset, .unset] [(.int m1), (.int m0), (.int ml)])) rfl (by rw [hml]; rfl) (argsL := [(.int ml), (.int m0), (.int m1)]) (rest := []) (lenOf pd41 rfl) rfl (W := 0) (by show 2 * 0 + _ ≤ _; exact Nat.le_of_eq rfl) (hb hby at_67) (by decide) (by decide) (by decide) (by decide)
  obtain ⟨r102, t102, kt102, cd102, bb102, rfl, Nq102, Eq102, nr102, nt102, Er102, Fv102, Fc102, So102, Vt102⟩ := hQ102
  have N102 := Fr.app N101 Nq102
  obtain ⟨hx, hZ, hown, hby, hml, hnm, hret, hlk⟩ := id Cc102
  have K102 := K101.ext Eq102
  have O102 := O101.ext Eq102
  refine Go.of st102 ?_
  show Go p e s below _ _ _ _ T102 (mkF m 70 #[.val (.int p1), .val (.int p2), .val (.int p3), .val (.int p4), .val (.int fl), .val (.int ml), .val (.int f0), .val (.int f1), .val (.int m0), .val (.int m1), .val (.ref r101), .unset, .unset, .unset, .unset] [(.ref r102)])
  refine Go.of (fun _ hr => XS.astore X102.here hx rfl (hb hby at_70) rfl rfl (l' := #[.val (.int p1), .val (.int p2), .val (.int p3), .val (.int p4), .val (.int fl), .val (.int ml), .val (.int f0), .val (.int f1), .val (.int m0), .val (.int m1), .val (.ref r101), .val (.ref r102), .unset, .unset, .unset]) rfl hr) ?_
  show Go p e s below _ _ _ _ T102 (mkF m 72 #[.val (.int p1), .val (.int p2), .val (.int p3), .val (.int p4), .val (.int fl), .val (.int ml), .val (.int f0), .val (.int f1), .val (.int m0), .val (.int m1), .val (.ref r101), .val (.ref r102), .unset, .unset, .unset] [])
  obtain ⟨T103, h103, X103, e103, E103, A103, D103, -, st103⟩ := newO X102 hx hZ hown (hw _ (List.mem_of_getElem? (i := 14) rfl)) (hw _ (List.mem_of_getElem? (i := 15) rfl)) (hw _ (List.mem_of_getElem? (i := 16) rfl)) e102 (g := (mkF m 72 #[.val (.int p1), .val (.int p2), .val (.int p3), .val (.int p4), .val (.int fl), .val (.int ml), .val (.int f0), .val (.int f1), .val (.int m0), .val (.int m1), .val (.ref r101), .val (.ref r102), .unset, .unset, .unset] [])) rfl (hb hby at_72) (by decide) (by decide)
  obtain ⟨o103, g103⟩ : ∃ z, z = h102.size := ⟨_, rfl⟩
  rw [← g103] at A103 D103 st103
  have f104 := (Er101.ext Eq102)
  have ne_r101_o103 : r101 ≠ o103 := Nat.ne_of_lt (Nat.lt_of_lt_of_le f104.lt (Nat.le_of_eq g103.symm))
  have f105 := (Vt101.ext Eq102)
  have ne_t101_o103 : t101 ≠ o103 := Nat.ne_of_lt (Nat.lt_of_lt_of_le f105.lt (Nat.le_of_eq g103.symm))
  have ne_r102_o103 : r102 ≠ o103 := Nat.ne_of_lt (Nat.lt_of_lt_of_le Er102.lt (Nat.le_of_eq g103.symm))
  have ne_t102_o103 : t102 ≠ o103 := Nat.ne_of_lt (Nat.lt_of_lt_of_le Vt102.lt (Nat.le_of_eq g103.symm))
  have lt103 : o103 < h103.size := A103.lt
  have J103 := J102.add E103 g103 lt103
  have B103 := B102.mono E103.1
  have O103 := O102.ext E103
  have sz103 : h0.size ≤ o103 := Nat.le_trans K102.1 (Nat.le_of_eq g103.symm)
  have fr103 : h0.size ≤ o103 := sz103
  have K103 := K102.ext E103
  have F103_field : Fld Z h103 o103 "com/example/dispatcher/dispatcher/web/FieldError" "field" "Ljava/lang/String;" .null := D103 (Or.inr (hw _ (List.mem_of_getElem? (i := 31) rfl))) (ty := (.object "java/lang/String")) (by decide)
  have F103_message : Fld Z h103 o103 "com/example/dispatcher/dispatcher/web/FieldError" "message" "Ljava/lang/String;" .null := D103 (Or.inr (hw _ (List.mem_of_getElem? (i := 34) rfl))) (ty := (.object "java/lang/String")) (by decide)
  refine Go.of (fun _ hr => st103 _ hr) ?_
  show Go p e s below _ _ _ _ T103 (mkF m 75 #[.val (.int p1), .val (.int p2), .val (.int p3), .val (.int p4), .val (.int fl), .val (.int ml), .val (.int f0), .val (.int f1), .val (.int m0), .val (.int m1), .val (.ref r101), .val (.ref r102), .unset, .unset, .unset] [(.ref o103)])
  refine Go.of (fun _ hr => XS.dup X103.here hx rfl (hb hby at_75) rfl rfl hr) ?_
  show Go p e s below _ _ _ _ T103 (mkF m 76 #[.val (.int p1), .val (.int p2), .val (.int p3), .val (.int p4), .val (.int fl), .val (.int ml), .val (.int f0), .val (.int f1), .val (.int m0), .val (.int m1), .val (.ref r101), .val (.ref r102), .unset, .unset, .unset] [(.ref o103), (.ref o103)])
  refine Go.of (fun _ hr => XS.aload X103.here hx rfl (hb hby at_76) rfl rfl hr) ?_
  show Go p e s below _ _ _ _ T103 (mkF m 78 #[.val (.int p1), .val (.int p2), .val (.int p3), .val (.int p4), .val (.int fl), .val (.int ml), .val (.int f0), .val (.int f1), .val (.int m0), .val (.int m1), .val (.ref r101), .val (.ref r102), .unset, .unset, .unset] [(.ref r101), (.ref o103), (.ref o103)])
  refine Go.of (fun _ hr => XS.aload X103.here hx rfl (hb hby at_78) rfl rfl hr) ?_
  show Go p e s below _ _ _ _ T103 (mkF m 80 #[.val (.int p1), .val (.int p2), .val (.int p3), .val (.int p4), .val (.int fl), .val (.int ml), .val (.int f0), .val (.int f1), .val (.int m0), .val (.int m1), .val (.ref r101), .val (.ref r102), .unset, .unset, .unset] [(.ref r102), (.ref r101), (.ref o103), (.ref o103)])
  have f107 := (f104.ext E103)
  have f108 := (Er102.ext E103)
  obtain ⟨_, b106, T106, h106, L106, e106, Cc106, X106, B106, J106, g106, hQ106, st106⟩ := own_callI Cc102 B103 J103 X103 rfl (hw _ (List.mem_of_getElem? (i := 17) rfl)) (hw _ (List.mem_of_getElem? (i := 18) rfl)) (hw _ (List.mem_of_getElem? (i := 16) rfl)) (hw _ (List.mem_of_getElem? (i := 19) rfl)) (by decide) (rm2 l Z a0 hw [] o103 r101 r102 _ _ _ h103 n0 O103 h0.size (own_ole O0) K103.1 fr103 (List.mem_cons_self ..) A103 F103_field F103_message f107 f108) e103 (g := (mkF m 80 #[.val (.int p1), .val (.int p2), .val (.int p3), .val (.int p4), .val (.int fl), .val (.int ml), .val (.int f0), .val (.int f1), .val (.int m0), .val (.int m1), .val (.ref r101), .val (.ref r102), .unset, .unset, .unset] [(.ref r102), (.ref r101), (.ref o103), (.ref o103)])) rfl (by rw [hml]; rfl) (argsL := [(.ref r101), (.ref r102)]) (rest := [(.ref o103)]) (lenOf pd42 rfl) rfl (W := 1) (by show 2 * 0 + _ ≤ _; exact Nat.le_of_eq rfl) (hb hby at_80) (by decide) (by decide) (by decide) (by decide)
  obtain ⟨rfl, Nq106, Kq106, Ff106, Fm106⟩ := hQ106
  have N106 := Fr.app N102 Nq106
  obtain ⟨hx, hZ, hown, hby, hml, hnm, hret, hlk⟩ := id Cc106
  have K106 := K103.trans Kq106 (allS (Or.inr sz103) all0)
  have O106 := O103.keep Kq106 (allS (Nat.le_trans (own_ole O0) fr103) all0)
  refine Go.of st106 ?_
  show Go p e s below _ _ _ _ T106 (mkF m 83 #[.val (.int p1), .val (.int p2), .val (.int p3), .val (.int p4), .val (.int fl), .val (.int ml), .val (.int f0), .val (.int f1), .val (.int m0), .val (.int m1), .val (.ref r101), .val (.ref r102), .unset, .unset, .unset] [(.ref o103)])
  have f110 := (f107.keep Kq106)
  have f111 := (((Fv101.ext Eq102).ext E103).keep Kq106 (ninS ne_r101_o103 nin0))
  have f112 := (((Fc101.ext Eq102).ext E103).keep Kq106 (ninS ne_r101_o103 nin0))
  have f113 := ((f105.ext E103).keep Kq106 (ninS ne_t101_o103 nin0))
  have f114 := (f108.keep Kq106)
  have f115 := ((Fv102.ext E103).keep Kq106 (ninS ne_r102_o103 nin0))
  have f116 := ((Fc102.ext E103).keep Kq106 (ninS ne_r102_o103 nin0))
  have f117 := ((Vt102.ext E103).keep Kq106 (ninS ne_t102_o103 nin0))
  have f118 := (A103.keep Kq106)
  obtain ⟨_, b109, T109, h109, L109, e109, Cc109, X109, B109, J109, g109, hQ109, st109⟩ := own_callV Cc106 B106 J106 X106 (hw _ (List.mem_of_getElem? (i := 35) rfl)) (hw _ (List.mem_of_getElem? (i := 36) rfl)) (notFace_of_selects (args := #[]) (mvT hZ (hw _ (List.mem_of_getElem? (i := 38) rfl)))) (hw _ (List.mem_of_getElem? (i := 38) rfl)) (hw _ (List.mem_of_getElem? (i := 37) rfl)) (hw _ (List.mem_of_getElem? (i := 16) rfl)) (hw _ (List.mem_of_getElem? (i := 39) rfl)) (by decide) f118 (rm5 l Z a0 hw [] o103 r101 t101 r102 t102 _ _ (mkL fl f0 f1) (mkL ml m0 m1) cd101 cd102 bb101 bb102 zc _ h106 n0 O106 h0.size (own_ole O0) K106.1 fs hfs S_F S_D S_H S_L Ff106 Fm106 f110 f111 f112 So101 f113 (mkL_le2 ..) (mkL_rng hq_f0 hq_f1) f114 f115 f116 So102 f117 (mkL_le2 ..) (mkL_rng hq_m0 hq_m1) S_C hzc) e106 (g := (mkF m 83 #[.val (.int p1), .val (.int p2), .val (.int p3), .val (.int p4), .val (.int fl), .val (.int ml), .val (.int f0), .val (.int f1), .val (.int m0), .val (.int m1), .val (.ref r101), .val (.ref r102), .unset, .unset, .unset] [(.ref o103)])) rfl (by rw [hml]; rfl) (argsL := []) (rest := []) (lenOf pd37 rfl) rfl (W := 0) (by show 2 * 0 + _ ≤ _; exact Nat.le_of_eq rfl) (hb hby at_83) (by decide) (by decide) (by decide) (by decide)
  obtain ⟨r109, t109, kt109, cd109, bb109, rfl, Nq109, Eq109, R_r109, R_t109, Er109, Fv109, Fc109, So109, Vt109⟩ := hQ109
  have N109 := Fr.app N106 Nq109
  obtain ⟨hx, hZ, hown, hby, hml, hnm, hret, hlk⟩ := id Cc109
  have sz_r109 : h0.size ≤ r109 := Nat.le_trans K106.1 R_r109
  have fr_r109 : h0.size ≤ r109 := sz_r109
  have ne_r101_r109 : r101 ≠ r109 := Nat.ne_of_lt (Nat.lt_of_lt_of_le f110.lt R_r109)
  have ne_t101_r109 : t101 ≠ r109 := Nat.ne_of_lt (Nat.lt_of_lt_of_le f113.lt R_r109)
  have ne_r102_r109 : r102 ≠ r109 := Nat.ne_of_lt (Nat.lt_of_lt_of_le f114.lt R_r109)
  have ne_t102_r109 : t102 ≠ r109 := Nat.ne_of_lt (Nat.lt_of_lt_of_le f117.lt R_r109)
  have ne_o103_r109 : o103 ≠ r109 := Nat.ne_of_lt (Nat.lt_of_lt_of_le f118.lt R_r109)
  have sz_t109 : h0.size ≤ t109 := Nat.le_trans K106.1 R_t109
  have fr_t109 : h0.size ≤ t109 := sz_t109
  have ne_r101_t109 : r101 ≠ t109 := Nat.ne_of_lt (Nat.lt_of_lt_of_le f110.lt R_t109)
  have ne_t101_t109 : t101 ≠ t109 := Nat.ne_of_lt (Nat.lt_of_lt_of_le f113.lt R_t109)
  have ne_r102_t109 : r102 ≠ t109 := Nat.ne_of_lt (Nat.lt_of_lt_of_le f114.lt R_t109)
  have ne_t102_t109 : t102 ≠ t109 := Nat.ne_of_lt (Nat.lt_of_lt_of_le f117.lt R_t109)
  have ne_o103_t109 : o103 ≠ t109 := Nat.ne_of_lt (Nat.lt_of_lt_of_le f118.lt R_t109)
  have K109 := K106.ext Eq109
  have O109 := O106.ext Eq109
  refine Go.of st109 ?_
  show Go p e s below _ _ _ _ T109 (mkF m 86 #[.val (.int p1), .val (.int p2), .val (.int p3), .val (.int p4), .val (.int fl), .val (.int ml), .val (.int f0), .val (.int f1), .val (.int m0), .val (.int m1), .val (.ref r101), .val (.ref r102), .unset, .unset, .unset] [(.ref r109)])
  refine Go.of (fun _ hr => XS.astore X109.here hx rfl (hb hby at_86) rfl rfl (l' := #[.val (.int p1), .val (.int p2), .val (.int p3), .val (.int p4), .val (.int fl), .val (.int ml), .val (.int f0), .val (.int f1), .val (.int m0), .val (.int m1), .val (.ref r101), .val (.ref r102), .val (.ref r109), .unset, .unset]) rfl hr) ?_
  show Go p e s below _ _ _ _ T109 (mkF m 88 #[.val (.int p1), .val (.int p2), .val (.int p3), .val (.int p4), .val (.int fl), .val (.int ml), .val (.int f0), .val (.int f1), .val (.int m0), .val (.int m1), .val (.ref r101), .val (.ref r102), .val (.ref r109), .unset, .unset] [])
  refine Go.of (fun _ hr => XS.iload X109.here hx rfl (hb hby at_88) rfl  hr) ?_
  show Go p e s below _ _ _ _ T109 (mkF m 90 #[.val (.int p1), .val (.int p2), .val (.int p3), .val (.int p4), .val (.int fl), .val (.int ml), .val (.int f0), .val (.int f1), .val (.int m0), .val (.int m1), .val (.ref r101), .val (.ref r102), .val (.ref r109), .unset, .unset] [(.int fl)])
  refine Go.of (fun _ hr => XS.iconst X109.here hx rfl (hb hby at_90) hr) ?_
  show Go p e s below _ _ _ _ T109 (mkF m 91 #[.val (.int p1), .val (.int p2), .val (.int p3), .val (.int p4), .val (.int fl), .val (.int ml), .val (.int f0), .val (.int f1), .val (.int m0), .val (.int m1), .val (.ref r101), .val (.ref r102), .val (.ref r109), .unset, .unset] [(.int (2 : Int32)), (.int fl)])
  refine Go.of (fun _ hr => XS.iadd X109.here hx rfl (hb hby at_91) rfl hr) ?_
  show Go p e s below _ _ _ _ T109 (mkF m 92 #[.val (.int p1), .val (.int p2), .val (.int p3), .val (.int p4), .val (.int fl), .val (.int ml), .val (.int f0), .val (.int f1), .val (.int m0), .val (.int m1), .val (.ref r101), .val (.ref r102), .val (.ref r109), .unset, .unset] [(.int (fl + (2 : Int32)))])
  refine Go.of (fun _ hr => XS.iload X109.here hx rfl (hb hby at_92) rfl  hr) ?_
  show Go p e s below _ _ _ _ T109 (mkF m 94 #[.val (.int p1), .val (.int p2), .val (.int p3), .val (.int p4), .val (.int fl), .val (.int ml), .val (.int f0), .val (.int f1), .val (.int m0), .val (.int m1), .val (.ref r101), .val (.ref r102), .val (.ref r109), .unset, .unset] [(.int ml), (.int (fl + (2 : Int32)))])
  refine Go.of (fun _ hr => XS.iadd X109.here hx rfl (hb hby at_94) rfl hr) ?_
  show Go p e s below _ _ _ _ T109 (mkF m 95 #[.val (.int p1), .val (.int p2), .val (.int p3), .val (.int p4), .val (.int fl), .val (.int ml), .val (.int f0), .val (.int f1), .val (.int m0), .val (.int m1), .val (.ref r101), .val (.ref r102), .val (.ref r109), .unset, .unset] [(.int ((fl + (2 : Int32)) + ml))])
  rw [show fl + (2 : Int32) + ml = (Int32.ofNat (allC fl ml f0 f1 m0 m1).length) from allC_len hf hm]
  show Go p e s below _ _ _ _ T109 (mkF m 95 #[.val (.int p1), .val (.int p2), .val (.int p3), .val (.int p4), .val (.int fl), .val (.int ml), .val (.int f0), .val (.int f1), .val (.int m0), .val (.int m1), .val (.ref r101), .val (.ref r102), .val (.ref r109), .unset, .unset] [(.int (Int32.ofNat (allC fl ml f0 f1 m0 m1).length))])
  refine Go.of (fun _ hr => XS.istore X109.here hx rfl (hb hby at_95) rfl (l' := #[.val (.int p1), .val (.int p2), .val (.int p3), .val (.int p4), .val (.int fl), .val (.int ml), .val (.int f0), .val (.int f1), .val (.int m0), .val (.int m1), .val (.ref r101), .val (.ref r102), .val (.ref r109), .val (.int (Int32.ofNat (allC fl ml f0 f1 m0 m1).length)), .unset]) rfl hr) ?_
  show Go p e s below _ _ _ _ T109 (mkF m 97 #[.val (.int p1), .val (.int p2), .val (.int p3), .val (.int p4), .val (.int fl), .val (.int ml), .val (.int f0), .val (.int f1), .val (.int m0), .val (.int m1), .val (.ref r101), .val (.ref r102), .val (.ref r109), .val (.int (Int32.ofNat (allC fl ml f0 f1 m0 m1).length)), .unset] [])
  exact law_tail l Z a0 hw p1 p2 p3 p4 fl ml f0 f1 m0 m1 r101 r102 r109 t109 _ cd109 bb109 zc h109 n0 O109 nb hb0 (Nat.le_trans hnb K109.1) fs hfs S_F S_D S_H S_L hf hm hq_f0 hq_f1 hq_m0 hq_m1 Er109 Fv109 Fc109 So109 Vt109 S_C hzc Cc109 X109 e109 (fun y hy => Nat.le_trans hnb (N109 y hy)) (J109.sub (fun x hx => (List.mem_cons_of_mem _ hx))) B109

set_option maxRecDepth 65536 in
set_option maxHeartbeats 40000000 in
theorem comes_1 {Post : Tables → Env → Array Value → State → Outcome → State → Prop} (hpost : ∀ tb e args s v u, (limb_1_1.after args s (.returned v) u = true ∧ limb_1_2.after args s (.returned v) u = true ∧ True) → ReturnedEndW s (.returned v) u (Jvm.fieldLocs frame_1_writes args s ++ Jvm.arrayLocs frame_1_arrays args s ++ Jvm.staticLocs frame_1_statics s) 48 4416 → Post tb e args s (.returned v) u) :
    ArmFor flags0 classFile x code maxLocals ret World_1 tables_1 room_1 Calls_1 rest_1 Pre_1 Post := by
  intro l hfl _ _ p e ha hc hk s m args below hf hA hF happ hP
  obtain ⟨hcalls, hrest, hpre⟩ := hP
  obtain ⟨-, -, -, hnamed, -, -, -, hat⟩ := (Spec.applies_iff hf).mp happ
  obtain ⟨hg, hn⟩ := and_e (Cond.before_iff.mp (show (Jvm.Cond.and given_1 narrow_1).before args s = true from hpre))
  have hw := fun d (hd : d ∈ tables_1) => atoms_spec (ws := Jvm.Cond.code x code maxLocals ret :: tables_1) hat d (List.mem_cons_of_mem _ hd)
  obtain ⟨hsets, hown0⟩ := atoms_of _ (rest_1_c_eq ▸ (show rest_1_c.before _ s = true from hrest))
  have hfit : Fit s := fun {y c} hc i hi => by
    obtain ⟨ha, rfl⟩ := Array.getElem?_eq_some_iff.mp hc
    have q := List.all_eq_true.mp ((Array.all_eq_true_iff_forall_mem.mp hF) _ (Array.getElem_mem ha)) i (List.mem_range.mpr hi)
    simpa [Array.getElem?_eq_getElem hi] using q
  obtain ⟨hg0, hg⟩ := and_e hg
  obtain ⟨hg1, hg⟩ := and_e hg
  obtain ⟨hg2, hg⟩ := and_e hg
  obtain ⟨hg3, hg⟩ := and_e hg
  obtain ⟨w0, w1, w2, w3, rfl⟩ : ∃ w0 w1 w2 w3 : Value, args = #[w0, w1, w2, w3] := by
    have hs : args.size = 4 := by simpa [Cond.value] using hg0
    obtain ⟨L⟩ := args
    match L, hs with
    | [w0, w1, w2, w3], _ => exact ⟨w0, w1, w2, w3, rfl⟩
  obtain ⟨i0, ev0⟩ := is_v hg1
  obtain rfl : w0 = (.int i0) := Option.some.inj ev0
  obtain ⟨i1, ev1⟩ := is_v hg2
  obtain rfl : w1 = (.int i1) := Option.some.inj ev1
  obtain ⟨i2, ev2⟩ := is_v hg3
  obtain rfl : w2 = (.int i2) := Option.some.inj ev2
  obtain ⟨i3, ev3⟩ := is_v hg
  obtain rfl : w3 = (.int i3) := Option.some.inj ev3
  obtain ⟨zc, evC⟩ := is_v (Cond.before_iff.mp (hsets _ (List.mem_of_getElem? (i := 1) rfl)))
  have S_C : Sta s s.heap "java/lang/String" "COMPACT_STRINGS" "Z" (.int zc) := Sta.start evC (Or.inl (hsets _ (List.mem_of_getElem? (i := 0) rfl)))
  have hzc : ¬ (zc = (0 : Int32)) := gotF (Cond.eq_ints evC (Term.int_eval (0))) (not_v (Cond.before_iff.mp (hsets _ (List.mem_of_getElem? (i := 2) rfl))))
  have hcm : ∀ q ∈ litCs, (q.1, q.2.1) ∈ consts_1 := by decide +kernel
  have hJ : Hd s [] s.vm s.heap := Hd.start ⟨fun q hq => hcalls.1 _ (hcm q hq), fun a0 => own_compact (hsets _ (List.mem_of_getElem? (i := 2) rfl))⟩
  obtain ⟨fs, hfs, evF⟩ := own_isr (Cond.before_iff.mp (hsets _ (List.mem_of_getElem? (i := 8) rfl)))
  have S_F : Sta s s.heap "jdk/internal/util/Preconditions" "SIOOBE_FORMATTER" "Ljava/util/function/BiFunction;" fs := Sta.start evF (Or.inl (hsets _ (List.mem_of_getElem? (i := 7) rfl)))
  have S_D : Sta s s.heap "java/lang/StringUTF16" "$assertionsDisabled" "Z" (.int 1) := Sta.start (own_eqI (Cond.before_iff.mp (hsets _ (List.mem_of_getElem? (i := 12) rfl)))) (Or.inl (hsets _ (List.mem_of_getElem? (i := 11) rfl)))
  have S_H : Sta s s.heap "java/lang/StringUTF16" "HI_BYTE_SHIFT" "I" (.int 0) := Sta.start (own_eqI (Cond.before_iff.mp (hsets _ (List.mem_of_getElem? (i := 15) rfl)))) (Or.inl (hsets _ (List.mem_of_getElem? (i := 14) rfl)))
  have S_L : Sta s s.heap "java/lang/StringUTF16" "LO_BYTE_SHIFT" "I" (.int 8) := Sta.start (own_eqI (Cond.before_iff.mp (hsets _ (List.mem_of_getElem? (i := 18) rfl)))) (Or.inl (hsets _ (List.mem_of_getElem? (i := 17) rfl)))
  obtain ⟨n, o, h1, h2, h3, _, L, rfl, ⟨rfl, N⟩, -, hq⟩ := rm0 l s _ hw tables_1 i0 i1 i2 i3 zc [] s.heap s.heap.size (Old.start s) s.heap.size (Nat.le_refl _) (Nat.le_refl _) fs hfs S_F S_D S_H S_L S_C hzc p e ha hc hk s m _ below hf ((Spec.applies_iff_loose hf).mp happ).1 ⟨rfl, State.Warmed39.refl s, rfl, hJ⟩ trivial
  refine ⟨n, _, h1, h2, h3, hpost _ _ _ _ _ _ ⟨Cond.after_iff.mpr rfl, Cond.after_iff.mpr (eq_i res_at (Term.int_eval (1)) rfl), trivial⟩ ⟨hq.1, hq.2.1, hq.2.2.1, (hq.2.2.2.sift fun y hy => Or.inr (N y hy)).mono (by decide) (by decide)⟩⟩
theorem main_1_1 : Claimed_1_1 := comes_1 fun _ _ _ _ _ _ h hF => ⟨h.1, hF⟩
theorem main_1_2 : Claimed_1_2 := comes_1 fun _ _ _ _ _ _ h hF => ⟨h.2.1, hF⟩

end Jvm.Pilot.@@N@@
namespace Jvm.Pilot.@@N@@
open Jvm Jvm.ClassFile Sem Op Lib Jvm.Free Jvm.Stand Jvm.Pilot.@@N@@.Jvm.D
/-! MADE BY PROGRAM (witnessworld.py) out of the Statement's table words and the real class files: 25 classes; the members and pool entries that the words name. The judged class is class 1, her method 4. -/
namespace start1
open Jvm.ClassFile
def u (s : String) : CpInfo := .utf8 (stringToUtf16 s)
/-- a pool by its gaps: so many unusable entries, then the entry; so many at the end -/
def gap : Nat → List CpInfo → List CpInfo
  | 0, r => r
  | n + 1, r => .unusable :: gap n r
def poolList (es : List (Nat × CpInfo)) (last : Nat) : List CpInfo := es.foldr (fun e r => gap e.1 (e.2 :: r)) (gap last [])
def pool (es : List (Nat × CpInfo)) (last : Nat) : Array CpInfo := ⟨poolList es last⟩
def fileOf (pool : Array CpInfo) (this : Nat) (attrs : Array Attribute := #[]) (ms : Array MethodInfo := #[]) (fl : Nat := 33) (sup : Nat := 0) (ifs : Array Nat := #[]) (fds : Array FieldInfo := #[]) : ClassFile where
  minorVersion := 0
  majorVersion := 65
  constantPool := pool
  accessFlags := fl
  thisClass := this
  superClass := sup
  interfaces := ifs
  fields := fds
  methods := ms
  attributes := attrs
def plain (name : String) (sup : Option ClassId) : Class where
  name := name
  kind := .ordinary
  loader := none
  accessFlags := 33
  super := sup
  interfaces := #[]
  cf := none
  fields := #[]
  methods := #[]
  instanceTypes := #[]
  staticTypes := #[]
  resolved := #[]
  callSites := []
  init := .initialized
  statics := none
  mirror := none

def pool0 : Array CpInfo := pool [(5, u "<init>"), (0, u "()V"), (1, .class_ 10), (1, u "java/lang/Object")] 113

def k0c0 : Code := { maxStack := 0, maxLocals := 1, code := object_method_1_code, exceptionTable := #[], attributes := #[] }
def k0m0 : Method := { name := "<init>", desc := "()V", sig := { parameters := [], returnType := none }, accessFlags := 1, code := some k0c0 }
/-- java/lang/Object -/
def k0 : Class := { plain "java/lang/Object" none with
  accessFlags := 33
  interfaces := #[]
  cf := some (fileOf pool0 8 #[] #[{ accessFlags := 1, nameIndex := 5, descriptorIndex := 6, attributes := #[] }] 33 0 #[] #[])
  fields := #[]
  methods := #[k0m0]
  instanceTypes := #[]
  staticTypes := #[]
  resolved := Array.replicate 124 none
  statics := none }

def pool1 : Array CpInfo := pool [(2, .class_ 4), (1, u "java/lang/Object"), (0, u "<init>"), (0, u "()V"), (0, .string 8), (0, u ""), (0, .methodref 10 11), (0, .class_ 12), (0, .nameAndType 13 14), (0, u "java/lang/String"), (0, u "valueOf"), (0, u "(C)Ljava/lang/String;"), (0, .methodref 10 16), (0, .nameAndType 5 17), (0, u "([C)V"), (0, .methodref 10 19), (0, .nameAndType 20 21), (0, u "charAt"), (0, u "(I)C"), (0, .methodref 23 24), (0, .class_ 25), (0, .nameAndType 26 27), (0, u "com/example/dispatcher/dispatcher/web/FieldErrorToStringPinLaw"), (0, u "at"), (0, u "(IICCCC)C"), (0, .integer 2147483647), (0, .integer 65535), (0, .methodref 23 31), (0, .nameAndType 32 33), (0, u "mk"), (0, u "(ICC)Ljava/lang/String;"), (0, .class_ 35), (0, u "com/example/dispatcher/dispatcher/web/FieldError"), (0, .methodref 34 37), (0, .nameAndType 5 38), (0, u "(Ljava/lang/String;Ljava/lang/String;)V"), (0, .methodref 34 40), (0, .nameAndType 41 42), (0, u "toString"), (0, u "()Ljava/lang/String;"), (0, .methodref 10 44), (0, .nameAndType 45 46), (0, u "length"), (0, u "()I"), (0, .methodref 23 48), (0, .nameAndType 49 50), (0, u "check"), (0, u "(Ljava/lang/String;IIICCCC)Z"), (3, u "law"), (0, u "(IIII)Z")] 2

def k1m0 : Method := { name := "<init>", desc := "()V", sig := { parameters := [], returnType := none }, accessFlags := 1, code := none }
def k1c1 : Code := { maxStack := 6, maxLocals := 3, code := method_2_code, exceptionTable := #[], attributes := #[] }
def k1m1 : Method := { name := "mk", desc := "(ICC)Ljava/lang/String;", sig := { parameters := [.int, .char, .char], returnType := some (.object "java/lang/String") }, accessFlags := 10, code := some k1c1 }
def k1c2 : Code := { maxStack := 3, maxLocals := 7, code := method_3_code, exceptionTable := #[], attributes := #[] }
def k1m2 : Method := { name := "at", desc := "(IICCCC)C", sig := { parameters := [.int, .int, .char, .char, .char, .char], returnType := some .char }, accessFlags := 10, code := some k1c2 }
def k1c3 : Code := { maxStack := 7, maxLocals := 8, code := method_4_code, exceptionTable := #[], attributes := #[] }
def k1m3 : Method := { name := "check", desc := "(Ljava/lang/String;IIICCCC)Z", sig := { parameters := [(.object "java/lang/String"), .int, .int, .int, .char, .char, .char, .char], returnType := some .boolean }, accessFlags := 10, code := some k1c3 }
def k1c4 : Code := { maxStack := 8, maxLocals := 15, code := code, exceptionTable := #[], attributes := #[] }
def k1m4 : Method := { name := "law", desc := "(IIII)Z", sig := { parameters := [.int, .int, .int, .int], returnType := some .boolean }, accessFlags := 9, code := some k1c4 }
/-- com/example/dispatcher/dispatcher/web/FieldErrorToStringPinLaw -/
def k1 : Class := { plain "com/example/dispatcher/dispatcher/web/FieldErrorToStringPinLaw" (some 0) with
  accessFlags := 49
  interfaces := #[]
  cf := some (fileOf pool1 23 #[] #[{ accessFlags := 1, nameIndex := 5, descriptorIndex := 6, attributes := #[] }, { accessFlags := 10, nameIndex := 32, descriptorIndex := 33, attributes := #[] }, { accessFlags := 10, nameIndex := 26, descriptorIndex := 27, attributes := #[] }, { accessFlags := 10, nameIndex := 49, descriptorIndex := 50, attributes := #[] }, { accessFlags := 9, nameIndex := 54, descriptorIndex := 55, attributes := #[] }] 49 2 #[] #[])
  fields := #[]
  methods := #[k1m0, k1m1, k1m2, k1m3, k1m4]
  instanceTypes := #[]
  staticTypes := #[]
  resolved := Array.replicate 58 none
  statics := none }

def pool2 : Array CpInfo := pool [(1, .class_ 2), (0, u "java/io/Serializable"), (0, .class_ 4), (0, u "java/lang/Object")] 2

/-- java/io/Serializable -/
def k2 : Class := { plain "java/io/Serializable" (some 0) with
  accessFlags := 1537
  interfaces := #[]
  cf := some (fileOf pool2 1 #[] #[] 1537 3 #[] #[])
  fields := #[]
  methods := #[]
  instanceTypes := #[]
  staticTypes := #[]
  resolved := Array.replicate 7 none
  statics := none }

def pool3 : Array CpInfo := pool [(1, .class_ 2), (0, u "java/lang/Comparable"), (0, .class_ 4), (0, u "java/lang/Object")] 7

/-- java/lang/Comparable -/
def k3 : Class := { plain "java/lang/Comparable" (some 0) with
  accessFlags := 1537
  interfaces := #[]
  cf := some (fileOf pool3 1 #[] #[] 1537 3 #[] #[])
  fields := #[]
  methods := #[]
  instanceTypes := #[]
  staticTypes := #[]
  resolved := Array.replicate 12 none
  statics := none }

def pool4 : Array CpInfo := pool [(2, .class_ 4), (1, u "java/lang/CharSequence"), (42, .class_ 48), (0, u "java/lang/CharSequence$1CodePointIterator"), (10, .class_ 60), (0, u "java/lang/CharSequence$1CharIterator"), (5, .class_ 67), (0, u "java/lang/Object")] 63

/-- java/lang/CharSequence -/
def k4 : Class := { plain "java/lang/CharSequence" (some 0) with
  accessFlags := 1537
  interfaces := #[]
  cf := some (fileOf pool4 2 #[.nestMembers #[47, 59]] #[] 1537 66 #[] #[])
  fields := #[]
  methods := #[]
  instanceTypes := #[]
  staticTypes := #[]
  resolved := Array.replicate 131 none
  statics := none }

def pool5 : Array CpInfo := pool [(1, .class_ 2), (0, u "java/lang/constant/Constable"), (0, .class_ 4), (0, u "java/lang/Object")] 6

/-- java/lang/constant/Constable -/
def k5 : Class := { plain "java/lang/constant/Constable" (some 0) with
  accessFlags := 1537
  interfaces := #[]
  cf := some (fileOf pool5 1 #[] #[] 1537 3 #[] #[])
  fields := #[]
  methods := #[]
  instanceTypes := #[]
  staticTypes := #[]
  resolved := Array.replicate 11 none
  statics := none }

def pool6 : Array CpInfo := pool [(1, .class_ 2), (0, u "java/lang/constant/ConstantDesc"), (0, .class_ 4), (0, u "java/lang/Object")] 32

/-- java/lang/constant/ConstantDesc -/
def k6 : Class := { plain "java/lang/constant/ConstantDesc" (some 0) with
  accessFlags := 1537
  interfaces := #[]
  cf := some (fileOf pool6 1 #[] #[] 1537 3 #[] #[])
  fields := #[]
  methods := #[]
  instanceTypes := #[]
  staticTypes := #[]
  resolved := Array.replicate 37 none
  statics := none }

def pool7 : Array CpInfo := pool [(1, .methodref 2 3), (0, .class_ 4), (0, .nameAndType 5 6), (0, u "java/lang/Object"), (0, u "<init>"), (0, u "()V"), (2, .fieldref 10 11), (0, .class_ 12), (0, .nameAndType 13 14), (0, u "java/lang/String"), (0, u "value"), (0, u "[B"), (0, .fieldref 10 16), (0, .nameAndType 17 18), (0, u "coder"), (0, u "B"), (2, u "hash"), (0, u "I"), (2, u "hashIsZero"), (0, u "Z"), (0, .methodref 10 28), (0, .nameAndType 5 29), (0, u "([CIILjava/lang/Void;)V"), (6, u "checkBoundsOffCount"), (0, u "(III)I"), (0, .fieldref 10 39), (0, .nameAndType 40 26), (0, u "COMPACT_STRINGS"), (1, .class_ 44), (1, u "java/lang/StringUTF16"), (0, u "compress"), (1, .methodref 42 48), (0, .nameAndType 49 50), (0, u "coderFromArrayLen"), (0, u "([BI)B"), (2, u "toBytes"), (0, .methodref 55 56), (0, .class_ 57), (0, .nameAndType 58 59), (0, u "java/util/Arrays"), (0, u "copyOfRange"), (0, u "([BII)[B"), (46, .methodref 107 108), (0, .class_ 109), (0, .nameAndType 110 111), (0, u "java/lang/StringLatin1"), (0, u "inflate"), (0, u "([BI[BII)V"), (30, u "()Z"), (34, .methodref 42 178), (0, .nameAndType 45 179), (0, u "([CII)[B"), (13, .class_ 195), (1, u "java/lang/System"), (13, .methodref 10 210), (0, .nameAndType 5 211), (0, u "([BB)V"), (0, .methodref 193 213), (0, .nameAndType 214 215), (0, u "arraycopy"), (0, u "(Ljava/lang/Object;ILjava/lang/Object;II)V"), (118, u "()I"), (0, .methodref 10 336), (0, .nameAndType 17 337), (0, u "()B"), (2, u "()[B"), (22, u "([BI)C"), (5, u "(C)Z"), (21, u "(II)V"), (35, u "(I)C"), (61, .methodref 10 490), (0, .nameAndType 5 491), (0, u "(Ljava/lang/AbstractStringBuilder;Ljava/lang/Void;)V"), (0, .methodref 10 493), (0, .nameAndType 494 142), (0, u "isLatin1"), (0, .methodref 107 496), (0, .nameAndType 497 363), (0, u "charAt"), (0, .methodref 42 496), (2, u "checkIndex"), (4, .nameAndType 507 334), (0, u "length"), (24, u "getBytes"), (16, .methodref 550 506), (0, .class_ 551), (0, u "java/lang/AbstractStringBuilder"), (0, .methodref 550 553), (0, .nameAndType 554 340), (0, u "getValue"), (20, .class_ 576), (0, u "java/lang/CharSequence"), (22, u "CASE_INSENSITIVE_ORDER"), (0, u "Ljava/util/Comparator;"), (181, u "valueOf"), (0, u "(C)Ljava/lang/String;"), (37, u "([BIB)V"), (188, u "([C)V"), (4, .methodref 107 1016), (0, .nameAndType 1017 369), (0, u "canEncode"), (0, .methodref 107 1019), (0, .nameAndType 53 1020), (0, u "(C)[B"), (0, .methodref 42 1019), (25, .methodref 550 493), (0, .fieldref 550 1049), (0, .nameAndType 1050 26), (0, u "maybeLatin1"), (2, .fieldref 1054 1055), (0, .class_ 1056), (0, .nameAndType 1057 1058), (0, u "jdk/internal/util/Preconditions"), (0, u "SIOOBE_FORMATTER"), (0, u "Ljava/util/function/BiFunction;"), (0, .methodref 1054 1060), (0, .nameAndType 501 1061), (0, u "(IILjava/util/function/BiFunction;)I"), (2, u "(IIILjava/util/function/BiFunction;)I"), (0, .methodref 1054 1066), (0, .nameAndType 1067 1064), (0, u "checkFromIndexSize"), (33, u "serialPersistentFields"), (0, u "[Ljava/io/ObjectStreamField;"), (0, .class_ 1104), (0, u "java/lang/String$CaseInsensitiveComparator"), (1, .class_ 1107), (0, u "java/io/Serializable"), (0, .class_ 1109), (0, u "java/lang/Comparable"), (0, .class_ 1111), (0, u "java/lang/constant/Constable"), (0, .class_ 1113), (0, u "java/lang/constant/ConstantDesc"), (2, u "serialVersionUID"), (0, u "J"), (3, u "REPL"), (0, u "C"), (2, u "LATIN1"), (1, u "UTF16"), (105, u "(Ljava/lang/StringBuilder;)V")] 217

def k7m0 : Method := { name := "<init>", desc := "()V", sig := { parameters := [], returnType := none }, accessFlags := 1, code := none }
def k7c1 : Code := { maxStack := 5, maxLocals := 2, code := jdk_42_method_3_code, exceptionTable := #[], attributes := #[] }
def k7m1 : Method := { name := "<init>", desc := "([C)V", sig := { parameters := [(.array .char)], returnType := none }, accessFlags := 1, code := some k7c1 }
def k7c2 : Code := { maxStack := 3, maxLocals := 2, code := jdk_42_method_53_code, exceptionTable := #[], attributes := #[] }
def k7m2 : Method := { name := "<init>", desc := "(Ljava/lang/StringBuilder;)V", sig := { parameters := [(.object "java/lang/StringBuilder")], returnType := none }, accessFlags := 1, code := some k7c2 }
def k7c3 : Code := { maxStack := 2, maxLocals := 1, code := jdk_42_method_54_code, exceptionTable := #[], attributes := #[] }
def k7m3 : Method := { name := "length", desc := "()I", sig := { parameters := [], returnType := some .int }, accessFlags := 1, code := some k7c3 }
def k7c4 : Code := { maxStack := 2, maxLocals := 2, code := jdk_42_method_56_code, exceptionTable := #[], attributes := #[] }
def k7m4 : Method := { name := "charAt", desc := "(I)C", sig := { parameters := [.int], returnType := some .char }, accessFlags := 1, code := some k7c4 }
def k7c5 : Code := { maxStack := 4, maxLocals := 1, code := jdk_42_method_139_code, exceptionTable := #[], attributes := #[] }
def k7m5 : Method := { name := "valueOf", desc := "(C)Ljava/lang/String;", sig := { parameters := [.char], returnType := some (.object "java/lang/String") }, accessFlags := 9, code := some k7c5 }
def k7c6 : Code := { maxStack := 5, maxLocals := 4, code := jdk_42_method_147_code, exceptionTable := #[], attributes := #[] }
def k7m6 : Method := { name := "getBytes", desc := "([BIB)V", sig := { parameters := [(.array .byte), .int, .byte], returnType := none }, accessFlags := 0, code := some k7c6 }
def k7c7 : Code := { maxStack := 4, maxLocals := 6, code := jdk_42_method_149_code, exceptionTable := #[], attributes := #[] }
def k7m7 : Method := { name := "<init>", desc := "([CIILjava/lang/Void;)V", sig := { parameters := [(.array .char), .int, .int, (.object "java/lang/Void")], returnType := none }, accessFlags := 2, code := some k7c7 }
def k7c8 : Code := { maxStack := 5, maxLocals := 5, code := jdk_42_method_150_code, exceptionTable := #[], attributes := #[] }
def k7m8 : Method := { name := "<init>", desc := "(Ljava/lang/AbstractStringBuilder;Ljava/lang/Void;)V", sig := { parameters := [(.object "java/lang/AbstractStringBuilder"), (.object "java/lang/Void")], returnType := none }, accessFlags := 0, code := some k7c8 }
def k7c9 : Code := { maxStack := 2, maxLocals := 3, code := jdk_42_method_151_code, exceptionTable := #[], attributes := #[] }
def k7m9 : Method := { name := "<init>", desc := "([BB)V", sig := { parameters := [(.array .byte), .byte], returnType := none }, accessFlags := 0, code := some k7c9 }
def k7c10 : Code := { maxStack := 1, maxLocals := 1, code := jdk_42_method_152_code, exceptionTable := #[], attributes := #[] }
def k7m10 : Method := { name := "coder", desc := "()B", sig := { parameters := [], returnType := some .byte }, accessFlags := 0, code := some k7c10 }
def k7c11 : Code := { maxStack := 1, maxLocals := 1, code := jdk_42_method_154_code, exceptionTable := #[], attributes := #[] }
def k7m11 : Method := { name := "isLatin1", desc := "()Z", sig := { parameters := [], returnType := some .boolean }, accessFlags := 0, code := some k7c11 }
def k7c12 : Code := { maxStack := 3, maxLocals := 2, code := jdk_42_method_155_code, exceptionTable := #[], attributes := #[] }
def k7m12 : Method := { name := "checkIndex", desc := "(II)V", sig := { parameters := [.int, .int], returnType := none }, accessFlags := 8, code := some k7c12 }
def k7c13 : Code := { maxStack := 4, maxLocals := 3, code := jdk_42_method_157_code, exceptionTable := #[], attributes := #[] }
def k7m13 : Method := { name := "checkBoundsOffCount", desc := "(III)I", sig := { parameters := [.int, .int, .int], returnType := some .int }, accessFlags := 8, code := some k7c13 }
/-- java/lang/String -/
def k7 : Class := { plain "java/lang/String" (some 0) with
  accessFlags := 49
  interfaces := #[2, 3, 4, 5, 6]
  cf := some (fileOf pool7 10 #[.nestMembers #[1103]] #[{ accessFlags := 1, nameIndex := 5, descriptorIndex := 6, attributes := #[] }, { accessFlags := 1, nameIndex := 5, descriptorIndex := 1010, attributes := #[] }, { accessFlags := 1, nameIndex := 5, descriptorIndex := 1233, attributes := #[] }, { accessFlags := 1, nameIndex := 507, descriptorIndex := 334, attributes := #[] }, { accessFlags := 1, nameIndex := 497, descriptorIndex := 427, attributes := #[] }, { accessFlags := 9, nameIndex := 782, descriptorIndex := 783, attributes := #[] }, { accessFlags := 0, nameIndex := 532, descriptorIndex := 821, attributes := #[] }, { accessFlags := 2, nameIndex := 5, descriptorIndex := 29, attributes := #[] }, { accessFlags := 0, nameIndex := 5, descriptorIndex := 491, attributes := #[] }, { accessFlags := 0, nameIndex := 5, descriptorIndex := 211, attributes := #[] }, { accessFlags := 0, nameIndex := 17, descriptorIndex := 337, attributes := #[] }, { accessFlags := 0, nameIndex := 494, descriptorIndex := 142, attributes := #[] }, { accessFlags := 8, nameIndex := 501, descriptorIndex := 391, attributes := #[] }, { accessFlags := 8, nameIndex := 36, descriptorIndex := 37, attributes := #[] }] 49 2 #[1106, 1108, 575, 1110, 1112] #[{ accessFlags := 18, nameIndex := 13, descriptorIndex := 14, attributes := #[] }, { accessFlags := 18, nameIndex := 17, descriptorIndex := 18, attributes := #[] }, { accessFlags := 2, nameIndex := 21, descriptorIndex := 22, attributes := #[] }, { accessFlags := 2, nameIndex := 25, descriptorIndex := 26, attributes := #[] }, { accessFlags := 26, nameIndex := 1116, descriptorIndex := 1117, attributes := #[] }, { accessFlags := 24, nameIndex := 40, descriptorIndex := 26, attributes := #[] }, { accessFlags := 26, nameIndex := 1101, descriptorIndex := 1102, attributes := #[] }, { accessFlags := 26, nameIndex := 1121, descriptorIndex := 1122, attributes := #[] }, { accessFlags := 25, nameIndex := 599, descriptorIndex := 600, attributes := #[] }, { accessFlags := 24, nameIndex := 1125, descriptorIndex := 18, attributes := #[] }, { accessFlags := 24, nameIndex := 1127, descriptorIndex := 18, attributes := #[] }])
  fields := #[{ name := "value", type := (.array .byte), accessFlags := 18, slot := 0, constantValue := 0 }, { name := "coder", type := .byte, accessFlags := 18, slot := 1, constantValue := 0 }, { name := "hash", type := .int, accessFlags := 2, slot := 2, constantValue := 0 }, { name := "hashIsZero", type := .boolean, accessFlags := 2, slot := 3, constantValue := 0 }, { name := "serialVersionUID", type := .long, accessFlags := 26, slot := 0, constantValue := 0 }, { name := "COMPACT_STRINGS", type := .boolean, accessFlags := 24, slot := 1, constantValue := 0 }, { name := "serialPersistentFields", type := (.array (.object "java/io/ObjectStreamField")), accessFlags := 26, slot := 2, constantValue := 0 }, { name := "REPL", type := .char, accessFlags := 26, slot := 3, constantValue := 0 }, { name := "CASE_INSENSITIVE_ORDER", type := (.object "java/util/Comparator"), accessFlags := 25, slot := 4, constantValue := 0 }, { name := "LATIN1", type := .byte, accessFlags := 24, slot := 5, constantValue := 0 }, { name := "UTF16", type := .byte, accessFlags := 24, slot := 6, constantValue := 0 }]
  methods := #[k7m0, k7m1, k7m2, k7m3, k7m4, k7m5, k7m6, k7m7, k7m8, k7m9, k7m10, k7m11, k7m12, k7m13]
  instanceTypes := #[(.array .byte), .byte, .int, .boolean]
  staticTypes := #[.long, .boolean, (.array (.object "java/io/ObjectStreamField")), .char, (.object "java/util/Comparator"), .byte, .byte]
  resolved := Array.replicate 1451 none
  statics := some 0 }

def pool8 : Array CpInfo := pool [(1, .methodref 2 3), (0, .class_ 4), (0, .nameAndType 5 6), (0, u "java/lang/Object"), (0, u "<init>"), (0, u "()V"), (0, .string 8), (0, u "field"), (0, .methodref 10 11), (0, .class_ 12), (0, .nameAndType 13 14), (0, u "java/util/Objects"), (0, u "requireNonNull"), (0, u "(Ljava/lang/Object;Ljava/lang/String;)Ljava/lang/Object;"), (0, .class_ 16), (0, u "java/lang/String"), (0, .fieldref 18 19), (0, .class_ 20), (0, .nameAndType 8 21), (0, u "com/example/dispatcher/dispatcher/web/FieldError"), (0, u "Ljava/lang/String;"), (0, .string 23), (0, u "message"), (0, .fieldref 18 25), (0, .nameAndType 23 21), (0, .class_ 27), (0, u "java/lang/StringBuilder"), (0, .methodref 26 3), (0, .methodref 26 30), (0, .nameAndType 31 32), (0, u "append"), (0, u "(Ljava/lang/String;)Ljava/lang/StringBuilder;"), (0, .string 34), (0, u ": "), (0, .methodref 26 36), (0, .nameAndType 37 38), (0, u "toString"), (0, u "()Ljava/lang/String;"), (0, u "(Ljava/lang/String;Ljava/lang/String;)V")] 6

def k8c0 : Code := { maxStack := 3, maxLocals := 3, code := prog_71_method_1_code, exceptionTable := #[], attributes := #[] }
def k8m0 : Method := { name := "<init>", desc := "(Ljava/lang/String;Ljava/lang/String;)V", sig := { parameters := [(.object "java/lang/String"), (.object "java/lang/String")], returnType := none }, accessFlags := 1, code := some k8c0 }
def k8c1 : Code := { maxStack := 2, maxLocals := 1, code := prog_71_method_4_code, exceptionTable := #[], attributes := #[] }
def k8m1 : Method := { name := "toString", desc := "()Ljava/lang/String;", sig := { parameters := [], returnType := some (.object "java/lang/String") }, accessFlags := 1, code := some k8c1 }
/-- com/example/dispatcher/dispatcher/web/FieldError -/
def k8 : Class := { plain "com/example/dispatcher/dispatcher/web/FieldError" (some 0) with
  accessFlags := 49
  interfaces := #[]
  cf := some (fileOf pool8 18 #[] #[{ accessFlags := 1, nameIndex := 5, descriptorIndex := 39, attributes := #[] }, { accessFlags := 1, nameIndex := 37, descriptorIndex := 38, attributes := #[] }] 49 2 #[] #[{ accessFlags := 18, nameIndex := 8, descriptorIndex := 21, attributes := #[] }, { accessFlags := 18, nameIndex := 23, descriptorIndex := 21, attributes := #[] }])
  fields := #[{ name := "field", type := (.object "java/lang/String"), accessFlags := 18, slot := 0, constantValue := 0 }, { name := "message", type := (.object "java/lang/String"), accessFlags := 18, slot := 1, constantValue := 0 }]
  methods := #[k8m0, k8m1]
  instanceTypes := #[(.object "java/lang/String"), (.object "java/lang/String")]
  staticTypes := #[]
  resolved := Array.replicate 46 none
  statics := none }

def pool9 : Array CpInfo := pool [(2, .class_ 4), (1, u "java/lang/Object"), (0, u "<init>"), (0, u "()V"), (35, .class_ 44), (1, u "java/util/Objects"), (0, u "requireNonNull"), (48, u "(Ljava/lang/Object;Ljava/lang/String;)Ljava/lang/Object;")] 89

def k9m0 : Method := { name := "<init>", desc := "()V", sig := { parameters := [], returnType := none }, accessFlags := 2, code := none }
def k9c1 : Code := { maxStack := 3, maxLocals := 2, code := jdk_31_method_11_code, exceptionTable := #[], attributes := #[] }
def k9m1 : Method := { name := "requireNonNull", desc := "(Ljava/lang/Object;Ljava/lang/String;)Ljava/lang/Object;", sig := { parameters := [(.object "java/lang/Object"), (.object "java/lang/String")], returnType := some (.object "java/lang/Object") }, accessFlags := 9, code := some k9c1 }
/-- java/util/Objects -/
def k9 : Class := { plain "java/util/Objects" (some 0) with
  accessFlags := 49
  interfaces := #[]
  cf := some (fileOf pool9 42 #[] #[{ accessFlags := 2, nameIndex := 5, descriptorIndex := 6, attributes := #[] }, { accessFlags := 9, nameIndex := 45, descriptorIndex := 94, attributes := #[] }] 49 2 #[] #[])
  fields := #[]
  methods := #[k9m0, k9m1]
  instanceTypes := #[]
  staticTypes := #[]
  resolved := Array.replicate 184 none
  statics := none }

def pool10 : Array CpInfo := pool [(1, .class_ 2), (0, u "java/lang/Appendable"), (0, .class_ 4), (0, u "java/lang/Object")] 9

/-- java/lang/Appendable -/
def k10 : Class := { plain "java/lang/Appendable" (some 0) with
  accessFlags := 1537
  interfaces := #[]
  cf := some (fileOf pool10 1 #[] #[] 1537 3 #[] #[])
  fields := #[]
  methods := #[]
  instanceTypes := #[]
  staticTypes := #[]
  resolved := Array.replicate 14 none
  statics := none }

def pool11 : Array CpInfo := pool [(1, .class_ 2), (0, u "java/lang/String"), (0, .methodref 4 5), (0, .class_ 6), (0, .nameAndType 7 8), (0, u "java/lang/Object"), (0, u "<init>"), (0, u "()V"), (1, .class_ 12), (1, u "java/lang/AbstractStringBuilder"), (0, u "EMPTYVALUE"), (0, u "[B"), (0, .fieldref 10 16), (0, .nameAndType 17 14), (0, u "value"), (0, .fieldref 1 19), (0, .nameAndType 20 21), (0, u "COMPACT_STRINGS"), (0, u "Z"), (0, .fieldref 10 23), (0, .nameAndType 24 25), (0, u "coder"), (0, u "B"), (0, .methodref 27 28), (0, .class_ 29), (0, .nameAndType 30 31), (0, u "java/lang/StringUTF16"), (0, u "newBytesFor"), (0, u "(I)[B"), (0, .methodref 1 33), (0, .nameAndType 34 35), (0, u "length"), (0, u "()I"), (4, .methodref 1 41), (0, .nameAndType 24 42), (0, u "()B"), (2, u "append"), (0, u "(Ljava/lang/String;)Ljava/lang/AbstractStringBuilder;"), (1, .class_ 49), (0, u "java/lang/CharSequence"), (19, u "(Ljava/lang/String;)V"), (5, u "maybeLatin1"), (3, .fieldref 10 80), (0, .nameAndType 81 82), (0, u "count"), (0, u "I"), (0, .methodref 10 84), (0, .nameAndType 85 86), (0, u "isLatin1"), (0, u "()Z"), (1, .class_ 90), (1, u "java/lang/StringLatin1"), (9, .methodref 10 101), (0, .nameAndType 102 103), (0, u "ensureCapacityInternal"), (0, u "(I)V"), (21, .methodref 88 126), (0, .nameAndType 127 128), (0, u "inflate"), (0, u "([BI[BII)V"), (66, .methodref 10 196), (0, .nameAndType 127 8), (11, .methodref 10 209), (0, .nameAndType 210 211), (0, u "putStringAt"), (0, u "(ILjava/lang/String;)V"), (5, u "inflateIfNeededFor"), (2, .nameAndType 221 222), (0, u "getBytes"), (0, u "([BIB)V"), (174, .methodref 10 398), (0, .nameAndType 217 69), (0, .methodref 1 220), (3, u "()[B"), (40, .class_ 445), (0, u "java/lang/Appendable"), (106, u "getValue")] 56

def k11m0 : Method := { name := "<init>", desc := "()V", sig := { parameters := [], returnType := none }, accessFlags := 0, code := none }
def k11c1 : Code := { maxStack := 2, maxLocals := 2, code := jdk_68_method_2_code, exceptionTable := #[], attributes := #[] }
def k11m1 : Method := { name := "<init>", desc := "(I)V", sig := { parameters := [.int], returnType := none }, accessFlags := 0, code := some k11c1 }
def k11c2 : Code := { maxStack := 1, maxLocals := 1, code := jdk_68_method_6_code, exceptionTable := #[], attributes := #[] }
def k11m2 : Method := { name := "length", desc := "()I", sig := { parameters := [], returnType := some .int }, accessFlags := 1, code := some k11c2 }
def k11c3 : Code := { maxStack := 4, maxLocals := 3, code := jdk_68_method_9_code, exceptionTable := #[], attributes := #[] }
def k11m3 : Method := { name := "ensureCapacityInternal", desc := "(I)V", sig := { parameters := [.int], returnType := none }, accessFlags := 2, code := some k11c3 }
def k11c4 : Code := { maxStack := 5, maxLocals := 2, code := jdk_68_method_11_code, exceptionTable := #[], attributes := #[] }
def k11m4 : Method := { name := "inflate", desc := "()V", sig := { parameters := [], returnType := none }, accessFlags := 2, code := some k11c4 }
def k11c5 : Code := { maxStack := 3, maxLocals := 3, code := jdk_68_method_22_code, exceptionTable := #[], attributes := #[] }
def k11m5 : Method := { name := "append", desc := "(Ljava/lang/String;)Ljava/lang/AbstractStringBuilder;", sig := { parameters := [(.object "java/lang/String")], returnType := some (.object "java/lang/AbstractStringBuilder") }, accessFlags := 1, code := some k11c5 }
def k11c6 : Code := { maxStack := 1, maxLocals := 1, code := jdk_68_method_64_code, exceptionTable := #[], attributes := #[] }
def k11m6 : Method := { name := "getValue", desc := "()[B", sig := { parameters := [], returnType := some (.array .byte) }, accessFlags := 16, code := some k11c6 }
def k11c7 : Code := { maxStack := 1, maxLocals := 1, code := jdk_68_method_68_code, exceptionTable := #[], attributes := #[] }
def k11m7 : Method := { name := "isLatin1", desc := "()Z", sig := { parameters := [], returnType := some .boolean }, accessFlags := 16, code := some k11c7 }
def k11c8 : Code := { maxStack := 2, maxLocals := 2, code := jdk_68_method_71_code, exceptionTable := #[], attributes := #[] }
def k11m8 : Method := { name := "inflateIfNeededFor", desc := "(Ljava/lang/String;)V", sig := { parameters := [(.object "java/lang/String")], returnType := none }, accessFlags := 2, code := some k11c8 }
def k11c9 : Code := { maxStack := 4, maxLocals := 3, code := jdk_68_method_73_code, exceptionTable := #[], attributes := #[] }
def k11m9 : Method := { name := "putStringAt", desc := "(ILjava/lang/String;)V", sig := { parameters := [.int, (.object "java/lang/String")], returnType := none }, accessFlags := 2, code := some k11c9 }
/-- java/lang/AbstractStringBuilder -/
def k11 : Class := { plain "java/lang/AbstractStringBuilder" (some 0) with
  accessFlags := 1056
  interfaces := #[10, 4]
  cf := some (fileOf pool11 10 #[] #[{ accessFlags := 0, nameIndex := 7, descriptorIndex := 8, attributes := #[] }, { accessFlags := 0, nameIndex := 7, descriptorIndex := 103, attributes := #[] }, { accessFlags := 1, nameIndex := 34, descriptorIndex := 35, attributes := #[] }, { accessFlags := 2, nameIndex := 102, descriptorIndex := 103, attributes := #[] }, { accessFlags := 2, nameIndex := 127, descriptorIndex := 8, attributes := #[] }, { accessFlags := 1, nameIndex := 45, descriptorIndex := 46, attributes := #[] }, { accessFlags := 16, nameIndex := 552, descriptorIndex := 403, attributes := #[] }, { accessFlags := 16, nameIndex := 85, descriptorIndex := 86, attributes := #[] }, { accessFlags := 2, nameIndex := 217, descriptorIndex := 69, attributes := #[] }, { accessFlags := 2, nameIndex := 210, descriptorIndex := 211, attributes := #[] }] 1056 4 #[444, 48] #[{ accessFlags := 0, nameIndex := 17, descriptorIndex := 14, attributes := #[] }, { accessFlags := 0, nameIndex := 24, descriptorIndex := 25, attributes := #[] }, { accessFlags := 0, nameIndex := 75, descriptorIndex := 21, attributes := #[] }, { accessFlags := 0, nameIndex := 81, descriptorIndex := 82, attributes := #[] }, { accessFlags := 26, nameIndex := 13, descriptorIndex := 14, attributes := #[] }])
  fields := #[{ name := "value", type := (.array .byte), accessFlags := 0, slot := 0, constantValue := 0 }, { name := "coder", type := .byte, accessFlags := 0, slot := 1, constantValue := 0 }, { name := "maybeLatin1", type := .boolean, accessFlags := 0, slot := 2, constantValue := 0 }, { name := "count", type := .int, accessFlags := 0, slot := 3, constantValue := 0 }, { name := "EMPTYVALUE", type := (.array .byte), accessFlags := 26, slot := 0, constantValue := 0 }]
  methods := #[k11m0, k11m1, k11m2, k11m3, k11m4, k11m5, k11m6, k11m7, k11m8, k11m9]
  instanceTypes := #[(.array .byte), .byte, .boolean, .int]
  staticTypes := #[(.array .byte)]
  resolved := Array.replicate 609 none
  statics := none }

def pool12 : Array CpInfo := pool [(1, .methodref 2 3), (0, .class_ 4), (0, .nameAndType 5 6), (0, u "java/lang/AbstractStringBuilder"), (0, u "<init>"), (0, u "(I)V"), (11, .class_ 20), (1, u "java/lang/String"), (3, .class_ 26), (1, u "java/lang/StringBuilder"), (0, u "append"), (0, u "(Ljava/lang/String;)Ljava/lang/StringBuilder;"), (0, .methodref 2 30), (0, .nameAndType 27 31), (0, u "(Ljava/lang/String;)Ljava/lang/AbstractStringBuilder;"), (105, .methodref 18 138), (0, .nameAndType 5 139), (0, u "(Ljava/lang/StringBuilder;)V"), (5, u "()V"), (10, u "()I"), (186, .methodref 2 344), (0, .nameAndType 345 156), (0, u "length"), (3, .class_ 350), (0, u "java/lang/Appendable"), (0, .class_ 352), (0, u "java/io/Serializable"), (0, .class_ 354), (0, u "java/lang/Comparable"), (0, .class_ 356), (0, u "java/lang/CharSequence"), (0, u "serialVersionUID"), (0, u "J"), (40, u "toString"), (0, u "()Ljava/lang/String;")] 21

def k12c0 : Code := { maxStack := 2, maxLocals := 1, code := jdk_67_method_1_code, exceptionTable := #[], attributes := #[] }
def k12m0 : Method := { name := "<init>", desc := "()V", sig := { parameters := [], returnType := none }, accessFlags := 1, code := some k12c0 }
def k12c1 : Code := { maxStack := 2, maxLocals := 2, code := jdk_67_method_7_code, exceptionTable := #[], attributes := #[] }
def k12m1 : Method := { name := "append", desc := "(Ljava/lang/String;)Ljava/lang/StringBuilder;", sig := { parameters := [(.object "java/lang/String")], returnType := some (.object "java/lang/StringBuilder") }, accessFlags := 1, code := some k12c1 }
def k12c2 : Code := { maxStack := 3, maxLocals := 1, code := jdk_67_method_42_code, exceptionTable := #[], attributes := #[] }
def k12m2 : Method := { name := "toString", desc := "()Ljava/lang/String;", sig := { parameters := [], returnType := some (.object "java/lang/String") }, accessFlags := 1, code := some k12c2 }
def k12c3 : Code := { maxStack := 1, maxLocals := 1, code := jdk_67_method_93_code, exceptionTable := #[], attributes := #[] }
def k12m3 : Method := { name := "length", desc := "()I", sig := { parameters := [], returnType := some .int }, accessFlags := 4161, code := some k12c3 }
/-- java/lang/StringBuilder -/
def k12 : Class := { plain "java/lang/StringBuilder" (some 11) with
  accessFlags := 49
  interfaces := #[10, 2, 3, 4]
  cf := some (fileOf pool12 24 #[] #[{ accessFlags := 1, nameIndex := 5, descriptorIndex := 145, attributes := #[] }, { accessFlags := 1, nameIndex := 27, descriptorIndex := 28, attributes := #[] }, { accessFlags := 1, nameIndex := 399, descriptorIndex := 400, attributes := #[] }, { accessFlags := 4161, nameIndex := 345, descriptorIndex := 156, attributes := #[] }] 49 2 #[349, 351, 353, 355] #[{ accessFlags := 24, nameIndex := 357, descriptorIndex := 358, attributes := #[] }])
  fields := #[{ name := "serialVersionUID", type := .long, accessFlags := 24, slot := 0, constantValue := 0 }]
  methods := #[k12m0, k12m1, k12m2, k12m3]
  instanceTypes := #[(.array .byte), .byte, .boolean, .int]
  staticTypes := #[.long]
  resolved := Array.replicate 422 none
  statics := none }

def pool13 : Array CpInfo := pool [(2, .class_ 4), (1, u "java/lang/Object"), (0, u "<init>"), (0, u "()V"), (1, .class_ 10), (1, u "java/lang/System"), (0, u "allowSecurityManager"), (0, u "I"), (16, u "cons"), (0, u "Ljava/io/Console;"), (77, .class_ 110), (1, u "java/lang/System$CallersHolder"), (43, u "initialErrStream"), (0, u "Ljava/io/PrintStream;"), (19, u "security"), (0, u "Ljava/lang/SecurityManager;"), (31, .class_ 209), (0, u "java/lang/System$1"), (7, u "props"), (0, u "Ljava/util/Properties;"), (2, u "lineSeparator"), (0, u "Ljava/lang/String;"), (96, .class_ 321), (1, u "java/lang/System$LoggerFinder"), (5, .class_ 328), (0, u "java/lang/System$Logger"), (67, u "err"), (2, u "out"), (91, u "notSupportedJnuEncoding"), (15, u "in"), (17, u "initialIn"), (0, u "Ljava/io/InputStream;"), (35, u "bootLayer"), (0, u "Ljava/lang/ModuleLayer;"), (99, .class_ 664), (0, u "java/lang/System$2"), (9, u "NEVER"), (2, u "MAYBE"), (49, u "arraycopy"), (0, u "(Ljava/lang/Object;ILjava/lang/Object;II)V"), (72, .class_ 802), (0, u "java/lang/System$Logger$Level")] 31

def k13m0 : Method := { name := "<init>", desc := "()V", sig := { parameters := [], returnType := none }, accessFlags := 2, code := none }
def k13m1 : Method := { name := "arraycopy", desc := "(Ljava/lang/Object;ILjava/lang/Object;II)V", sig := { parameters := [(.object "java/lang/Object"), .int, (.object "java/lang/Object"), .int, .int], returnType := none }, accessFlags := 265, code := none }
/-- java/lang/System -/
def k13 : Class := { plain "java/lang/System" (some 0) with
  accessFlags := 49
  interfaces := #[]
  cf := some (fileOf pool13 8 #[.nestMembers #[319, 327, 801, 108, 663, 208]] #[{ accessFlags := 2, nameIndex := 5, descriptorIndex := 6, attributes := #[] }, { accessFlags := 265, nameIndex := 727, descriptorIndex := 728, attributes := #[] }] 49 2 #[] #[{ accessFlags := 25, nameIndex := 507, descriptorIndex := 526, attributes := #[] }, { accessFlags := 25, nameIndex := 399, descriptorIndex := 155, attributes := #[] }, { accessFlags := 25, nameIndex := 396, descriptorIndex := 155, attributes := #[] }, { accessFlags := 10, nameIndex := 525, descriptorIndex := 526, attributes := #[] }, { accessFlags := 26, nameIndex := 674, descriptorIndex := 12, attributes := #[] }, { accessFlags := 26, nameIndex := 677, descriptorIndex := 12, attributes := #[] }, { accessFlags := 10, nameIndex := 11, descriptorIndex := 12, attributes := #[] }, { accessFlags := 74, nameIndex := 175, descriptorIndex := 176, attributes := #[] }, { accessFlags := 10, nameIndex := 491, descriptorIndex := 222, attributes := #[] }, { accessFlags := 74, nameIndex := 29, descriptorIndex := 30, attributes := #[] }, { accessFlags := 74, nameIndex := 154, descriptorIndex := 155, attributes := #[] }, { accessFlags := 10, nameIndex := 217, descriptorIndex := 218, attributes := #[] }, { accessFlags := 10, nameIndex := 221, descriptorIndex := 222, attributes := #[] }, { accessFlags := 8, nameIndex := 562, descriptorIndex := 563, attributes := #[] }])
  fields := #[{ name := "in", type := (.object "java/io/InputStream"), accessFlags := 25, slot := 0, constantValue := 0 }, { name := "out", type := (.object "java/io/PrintStream"), accessFlags := 25, slot := 1, constantValue := 0 }, { name := "err", type := (.object "java/io/PrintStream"), accessFlags := 25, slot := 2, constantValue := 0 }, { name := "initialIn", type := (.object "java/io/InputStream"), accessFlags := 10, slot := 3, constantValue := 0 }, { name := "NEVER", type := .int, accessFlags := 26, slot := 4, constantValue := 0 }, { name := "MAYBE", type := .int, accessFlags := 26, slot := 5, constantValue := 0 }, { name := "allowSecurityManager", type := .int, accessFlags := 10, slot := 6, constantValue := 0 }, { name := "security", type := (.object "java/lang/SecurityManager"), accessFlags := 74, slot := 7, constantValue := 0 }, { name := "notSupportedJnuEncoding", type := (.object "java/lang/String"), accessFlags := 10, slot := 8, constantValue := 0 }, { name := "cons", type := (.object "java/io/Console"), accessFlags := 74, slot := 9, constantValue := 0 }, { name := "initialErrStream", type := (.object "java/io/PrintStream"), accessFlags := 74, slot := 10, constantValue := 0 }, { name := "props", type := (.object "java/util/Properties"), accessFlags := 10, slot := 11, constantValue := 0 }, { name := "lineSeparator", type := (.object "java/lang/String"), accessFlags := 10, slot := 12, constantValue := 0 }, { name := "bootLayer", type := (.object "java/lang/ModuleLayer"), accessFlags := 8, slot := 13, constantValue := 0 }]
  methods := #[k13m0, k13m1]
  instanceTypes := #[]
  staticTypes := #[(.object "java/io/InputStream"), (.object "java/io/PrintStream"), (.object "java/io/PrintStream"), (.object "java/io/InputStream"), .int, .int, .int, (.object "java/lang/SecurityManager"), (.object "java/lang/String"), (.object "java/io/Console"), (.object "java/io/PrintStream"), (.object "java/util/Properties"), (.object "java/lang/String"), (.object "java/lang/ModuleLayer")]
  resolved := Array.replicate 834 none
  statics := none }

def pool14 : Array CpInfo := pool [(2, .class_ 4), (1, u "java/lang/Object"), (0, u "<init>"), (0, u "()V"), (7, .class_ 16), (1, u "java/util/Arrays"), (57, .class_ 76), (1, u "java/util/Arrays$NaturalOrder"), (36, .class_ 115), (1, u "java/util/Arrays$LegacyMergeSort"), (1, u "Z"), (21, u "copyOfRange"), (10, .methodref 151 152), (0, .class_ 153), (0, .nameAndType 154 155), (0, u "java/lang/System"), (0, u "arraycopy"), (0, u "(Ljava/lang/Object;ILjava/lang/Object;II)V"), (148, .methodref 305 306), (0, .class_ 307), (0, .nameAndType 308 309), (0, u "java/lang/Math"), (0, u "min"), (0, u "(II)I"), (29, .methodref 14 340), (0, .nameAndType 341 342), (0, u "copyOfRangeByte"), (0, u "([BII)[B"), (0, .methodref 14 344), (0, .nameAndType 345 346), (0, u "checkLength"), (0, u "(II)V"), (28, .class_ 376), (0, u "java/util/Arrays$ArrayList"), (68, u "$assertionsDisabled"), (269, u "MIN_ARRAY_SORT_GRAN"), (0, u "I"), (2, u "INSERTIONSORT_THRESHOLD"), (255, .class_ 976), (0, u "java/util/Arrays$ArrayItr")] 52

def k14m0 : Method := { name := "<init>", desc := "()V", sig := { parameters := [], returnType := none }, accessFlags := 2, code := none }
def k14c1 : Code := { maxStack := 4, maxLocals := 2, code := jdk_65_method_131_code, exceptionTable := #[], attributes := #[] }
def k14m1 : Method := { name := "checkLength", desc := "(II)V", sig := { parameters := [.int, .int], returnType := none }, accessFlags := 10, code := some k14c1 }
def k14c2 : Code := { maxStack := 3, maxLocals := 3, code := jdk_65_method_132_code, exceptionTable := #[], attributes := #[] }
def k14m2 : Method := { name := "copyOfRange", desc := "([BII)[B", sig := { parameters := [(.array .byte), .int, .int], returnType := some (.array .byte) }, accessFlags := 9, code := some k14c2 }
def k14c3 : Code := { maxStack := 6, maxLocals := 5, code := jdk_65_method_133_code, exceptionTable := #[], attributes := #[] }
def k14m3 : Method := { name := "copyOfRangeByte", desc := "([BII)[B", sig := { parameters := [(.array .byte), .int, .int], returnType := some (.array .byte) }, accessFlags := 10, code := some k14c3 }
/-- java/util/Arrays -/
def k14 : Class := { plain "java/util/Arrays" (some 0) with
  accessFlags := 49
  interfaces := #[]
  cf := some (fileOf pool14 14 #[.nestMembers #[975, 375, 113, 74]] #[{ accessFlags := 2, nameIndex := 5, descriptorIndex := 6, attributes := #[] }, { accessFlags := 10, nameIndex := 345, descriptorIndex := 346, attributes := #[] }, { accessFlags := 9, nameIndex := 139, descriptorIndex := 342, attributes := #[] }, { accessFlags := 10, nameIndex := 341, descriptorIndex := 342, attributes := #[] }] 49 2 #[] #[{ accessFlags := 26, nameIndex := 715, descriptorIndex := 716, attributes := #[] }, { accessFlags := 26, nameIndex := 719, descriptorIndex := 716, attributes := #[] }, { accessFlags := 4120, nameIndex := 445, descriptorIndex := 117, attributes := #[] }])
  fields := #[{ name := "MIN_ARRAY_SORT_GRAN", type := .int, accessFlags := 26, slot := 0, constantValue := 0 }, { name := "INSERTIONSORT_THRESHOLD", type := .int, accessFlags := 26, slot := 1, constantValue := 0 }, { name := "$assertionsDisabled", type := .boolean, accessFlags := 4120, slot := 2, constantValue := 0 }]
  methods := #[k14m0, k14m1, k14m2, k14m3]
  instanceTypes := #[]
  staticTypes := #[.int, .int, .boolean]
  resolved := Array.replicate 1029 none
  statics := none }

def pool15 : Array CpInfo := pool [(1, .class_ 2), (0, u "java/lang/Math"), (1, .class_ 6), (1, u "java/lang/Object"), (0, u "<init>"), (0, u "()V"), (89, .class_ 100), (1, u "java/lang/Math$RandomNumberGeneratorHolder"), (71, u "negativeZeroFloatBits"), (0, u "J"), (2, u "negativeZeroDoubleBits"), (24, u "min"), (43, u "$assertionsDisabled"), (0, u "Z"), (88, u "(II)I"), (2, u "twoToTheDoubleScaleDown"), (0, u "D"), (4, u "twoToTheDoubleScaleUp"), (9, u "E"), (3, u "PI"), (2, u "TAU"), (2, u "DEGREES_TO_RADIANS"), (0, u "RADIANS_TO_DEGREES")] 94

def k15m0 : Method := { name := "<init>", desc := "()V", sig := { parameters := [], returnType := none }, accessFlags := 2, code := none }
def k15c1 : Code := { maxStack := 2, maxLocals := 2, code := jdk_29_method_69_code, exceptionTable := #[], attributes := #[] }
def k15m1 : Method := { name := "min", desc := "(II)I", sig := { parameters := [.int, .int], returnType := some .int }, accessFlags := 9, code := some k15c1 }
/-- java/lang/Math -/
def k15 : Class := { plain "java/lang/Math" (some 0) with
  accessFlags := 49
  interfaces := #[]
  cf := some (fileOf pool15 1 #[.nestMembers #[98]] #[{ accessFlags := 2, nameIndex := 7, descriptorIndex := 8, attributes := #[] }, { accessFlags := 9, nameIndex := 201, descriptorIndex := 335, attributes := #[] }] 49 4 #[] #[{ accessFlags := 25, nameIndex := 354, descriptorIndex := 339, attributes := #[] }, { accessFlags := 25, nameIndex := 358, descriptorIndex := 339, attributes := #[] }, { accessFlags := 25, nameIndex := 361, descriptorIndex := 339, attributes := #[] }, { accessFlags := 26, nameIndex := 364, descriptorIndex := 339, attributes := #[] }, { accessFlags := 26, nameIndex := 365, descriptorIndex := 339, attributes := #[] }, { accessFlags := 26, nameIndex := 172, descriptorIndex := 173, attributes := #[] }, { accessFlags := 26, nameIndex := 176, descriptorIndex := 173, attributes := #[] }, { accessFlags := 8, nameIndex := 344, descriptorIndex := 339, attributes := #[] }, { accessFlags := 8, nameIndex := 338, descriptorIndex := 339, attributes := #[] }, { accessFlags := 4120, nameIndex := 245, descriptorIndex := 246, attributes := #[] }])
  fields := #[{ name := "E", type := .double, accessFlags := 25, slot := 0, constantValue := 0 }, { name := "PI", type := .double, accessFlags := 25, slot := 1, constantValue := 0 }, { name := "TAU", type := .double, accessFlags := 25, slot := 2, constantValue := 0 }, { name := "DEGREES_TO_RADIANS", type := .double, accessFlags := 26, slot := 3, constantValue := 0 }, { name := "RADIANS_TO_DEGREES", type := .double, accessFlags := 26, slot := 4, constantValue := 0 }, { name := "negativeZeroFloatBits", type := .long, accessFlags := 26, slot := 5, constantValue := 0 }, { name := "negativeZeroDoubleBits", type := .long, accessFlags := 26, slot := 6, constantValue := 0 }, { name := "twoToTheDoubleScaleUp", type := .double, accessFlags := 8, slot := 7, constantValue := 0 }, { name := "twoToTheDoubleScaleDown", type := .double, accessFlags := 8, slot := 8, constantValue := 0 }, { name := "$assertionsDisabled", type := .boolean, accessFlags := 4120, slot := 9, constantValue := 0 }]
  methods := #[k15m0, k15m1]
  instanceTypes := #[]
  staticTypes := #[.double, .double, .double, .double, .double, .long, .long, .double, .double, .boolean]
  resolved := Array.replicate 460 none
  statics := none }

def pool16 : Array CpInfo := pool [(1, .class_ 2), (0, u "java/lang/String"), (1, .class_ 6), (1, u "java/lang/Object"), (0, u "<init>"), (0, u "()V"), (0, .methodref 1 10), (0, .nameAndType 11 12), (0, u "checkIndex"), (0, u "(II)V"), (1, .class_ 16), (1, u "java/lang/StringLatin1"), (0, u "inflate"), (2, .class_ 22), (1, u "java/lang/StringUTF16"), (3, .nameAndType 17 27), (0, u "([BI[BII)V"), (25, u "([BI)C"), (36, u "canEncode"), (14, u "(C)Z"), (15, u "$assertionsDisabled"), (0, u "Z"), (98, .class_ 223), (1, u "java/lang/StringLatin1$LinesSpliterator"), (16, .methodref 20 26), (11, u "charAt"), (127, u "toBytes"), (1, u "(C)[B"), (7, .class_ 391), (0, u "java/lang/StringLatin1$CharsSpliterator")] 3

def k16m0 : Method := { name := "<init>", desc := "()V", sig := { parameters := [], returnType := none }, accessFlags := 0, code := none }
def k16c1 : Code := { maxStack := 2, maxLocals := 2, code := jdk_43_method_2_code, exceptionTable := #[], attributes := #[] }
def k16m1 : Method := { name := "charAt", desc := "([BI)C", sig := { parameters := [(.array .byte), .int], returnType := some .char }, accessFlags := 9, code := some k16c1 }
def k16c2 : Code := { maxStack := 2, maxLocals := 1, code := jdk_43_method_3_code, exceptionTable := #[], attributes := #[] }
def k16m2 : Method := { name := "canEncode", desc := "(C)Z", sig := { parameters := [.char], returnType := some .boolean }, accessFlags := 9, code := some k16c2 }
def k16c3 : Code := { maxStack := 4, maxLocals := 1, code := jdk_43_method_46_code, exceptionTable := #[], attributes := #[] }
def k16m3 : Method := { name := "toBytes", desc := "(C)[B", sig := { parameters := [.char], returnType := some (.array .byte) }, accessFlags := 9, code := some k16c3 }
def k16c4 : Code := { maxStack := 5, maxLocals := 5, code := jdk_43_method_50_code, exceptionTable := #[], attributes := #[] }
def k16m4 : Method := { name := "inflate", desc := "([BI[BII)V", sig := { parameters := [(.array .byte), .int, (.array .byte), .int, .int], returnType := none }, accessFlags := 9, code := some k16c4 }
/-- java/lang/StringLatin1 -/
def k16 : Class := { plain "java/lang/StringLatin1" (some 0) with
  accessFlags := 48
  interfaces := #[]
  cf := some (fileOf pool16 14 #[.nestMembers #[390, 221]] #[{ accessFlags := 0, nameIndex := 7, descriptorIndex := 8, attributes := #[] }, { accessFlags := 9, nameIndex := 252, descriptorIndex := 53, attributes := #[] }, { accessFlags := 9, nameIndex := 90, descriptorIndex := 105, attributes := #[] }, { accessFlags := 9, nameIndex := 380, descriptorIndex := 382, attributes := #[] }, { accessFlags := 9, nameIndex := 17, descriptorIndex := 27, attributes := #[] }] 48 4 #[] #[{ accessFlags := 4120, nameIndex := 121, descriptorIndex := 122, attributes := #[] }])
  fields := #[{ name := "$assertionsDisabled", type := .boolean, accessFlags := 4120, slot := 0, constantValue := 0 }]
  methods := #[k16m0, k16m1, k16m2, k16m3, k16m4]
  instanceTypes := #[]
  staticTypes := #[.boolean]
  resolved := Array.replicate 395 none
  statics := none }

def pool17 : Array CpInfo := pool [(2, .class_ 4), (1, u "java/lang/Object"), (0, u "<init>"), (0, u "()V"), (17, .class_ 26), (1, u "jdk/internal/util/Preconditions"), (6, u "checkIndex"), (15, u "checkFromIndexSize"), (5, .class_ 56), (0, u "jdk/internal/util/Preconditions$4"), (57, .class_ 115), (0, u "jdk/internal/util/Preconditions$1"), (7, u "SIOOBE_FORMATTER"), (0, u "Ljava/util/function/BiFunction;"), (0, .class_ 126), (0, u "jdk/internal/util/Preconditions$2"), (3, u "AIOOBE_FORMATTER"), (0, .class_ 132), (0, u "jdk/internal/util/Preconditions$3"), (3, u "IOOBE_FORMATTER"), (41, u "(IILjava/util/function/BiFunction;)I"), (4, u "(IIILjava/util/function/BiFunction;)I")] 10

def k17m0 : Method := { name := "<init>", desc := "()V", sig := { parameters := [], returnType := none }, accessFlags := 1, code := none }
def k17c1 : Code := { maxStack := 3, maxLocals := 3, code := jdk_41_method_11_code, exceptionTable := #[], attributes := #[] }
def k17m1 : Method := { name := "checkIndex", desc := "(IILjava/util/function/BiFunction;)I", sig := { parameters := [.int, .int, (.object "java/util/function/BiFunction")], returnType := some .int }, accessFlags := 9, code := some k17c1 }
def k17c2 : Code := { maxStack := 4, maxLocals := 4, code := jdk_41_method_13_code, exceptionTable := #[], attributes := #[] }
def k17m2 : Method := { name := "checkFromIndexSize", desc := "(IIILjava/util/function/BiFunction;)I", sig := { parameters := [.int, .int, .int, (.object "java/util/function/BiFunction")], returnType := some .int }, accessFlags := 9, code := some k17c2 }
/-- jdk/internal/util/Preconditions -/
def k17 : Class := { plain "jdk/internal/util/Preconditions" (some 0) with
  accessFlags := 33
  interfaces := #[]
  cf := some (fileOf pool17 24 #[.nestMembers #[55, 131, 125, 114]] #[{ accessFlags := 1, nameIndex := 5, descriptorIndex := 6, attributes := #[] }, { accessFlags := 9, nameIndex := 33, descriptorIndex := 178, attributes := #[] }, { accessFlags := 9, nameIndex := 49, descriptorIndex := 183, attributes := #[] }] 33 2 #[] #[{ accessFlags := 25, nameIndex := 123, descriptorIndex := 124, attributes := #[] }, { accessFlags := 25, nameIndex := 130, descriptorIndex := 124, attributes := #[] }, { accessFlags := 25, nameIndex := 136, descriptorIndex := 124, attributes := #[] }])
  fields := #[{ name := "SIOOBE_FORMATTER", type := (.object "java/util/function/BiFunction"), accessFlags := 25, slot := 0, constantValue := 0 }, { name := "AIOOBE_FORMATTER", type := (.object "java/util/function/BiFunction"), accessFlags := 25, slot := 1, constantValue := 0 }, { name := "IOOBE_FORMATTER", type := (.object "java/util/function/BiFunction"), accessFlags := 25, slot := 2, constantValue := 0 }]
  methods := #[k17m0, k17m1, k17m2]
  instanceTypes := #[]
  staticTypes := #[(.object "java/util/function/BiFunction"), (.object "java/util/function/BiFunction"), (.object "java/util/function/BiFunction")]
  resolved := Array.replicate 194 none
  statics := some 1 }

def pool18 : Array CpInfo := pool [(3, .class_ 4), (0, u "java/lang/String"), (1, .class_ 8), (1, u "java/lang/Object"), (0, u "<init>"), (0, u "()V"), (0, .methodref 12 13), (0, .class_ 14), (0, .nameAndType 15 16), (0, u "java/lang/StringUTF16"), (0, u "newBytesLength"), (0, u "(I)I"), (3, .integer 1073741823), (23, .fieldref 12 45), (0, .nameAndType 46 47), (0, u "$assertionsDisabled"), (0, u "Z"), (0, .methodref 12 49), (0, .nameAndType 50 51), (0, u "length"), (0, u "([B)I"), (7, .fieldref 12 60), (0, .nameAndType 61 62), (0, u "HI_BYTE_SHIFT"), (0, u "I"), (0, .fieldref 12 64), (0, .nameAndType 65 62), (0, u "LO_BYTE_SHIFT"), (1, .methodref 12 68), (0, .nameAndType 69 70), (0, u "checkIndex"), (0, u "(I[B)V"), (0, .methodref 12 72), (0, .nameAndType 73 74), (0, u "getChar"), (0, u "([BI)C"), (24, u "(II[B)V"), (7, .methodref 12 108), (0, .nameAndType 109 110), (0, u "newBytesFor"), (0, u "(I)[B"), (0, .methodref 12 112), (0, .nameAndType 113 114), (0, u "putChar"), (0, u "([BII)V"), (0, .methodref 12 116), (0, .nameAndType 117 118), (0, u "compress"), (0, u "([CI[BII)I"), (0, .methodref 12 120), (0, .nameAndType 121 122), (0, u "toBytes"), (0, u "([CII)[B"), (17, u "inflate"), (0, u "([BI[BII)V"), (31, .methodref 12 174), (0, .nameAndType 175 99), (0, u "checkBoundsOffCount"), (85, u "coderFromArrayLen"), (0, u "([BI)B"), (18, u "(III)I"), (87, .class_ 371), (1, u "java/lang/StringUTF16$LinesSpliterator"), (20, u "charAt"), (21, .methodref 3 415), (0, .nameAndType 69 416), (0, u "(II)V"), (2, .methodref 3 420), (0, .nameAndType 175 281), (9, u "MAX_LENGTH"), (44, u "(C)[B"), (151, .class_ 628), (0, u "java/lang/StringUTF16$CodePointsSpliterator"), (0, .class_ 630), (0, u "java/lang/StringUTF16$CharsSpliterator")] 4

def k18m0 : Method := { name := "<init>", desc := "()V", sig := { parameters := [], returnType := none }, accessFlags := 0, code := none }
def k18c1 : Code := { maxStack := 1, maxLocals := 1, code := jdk_52_method_2_code, exceptionTable := #[], attributes := #[] }
def k18m1 : Method := { name := "newBytesFor", desc := "(I)[B", sig := { parameters := [.int], returnType := some (.array .byte) }, accessFlags := 9, code := some k18c1 }
def k18c2 : Code := { maxStack := 4, maxLocals := 1, code := jdk_52_method_3_code, exceptionTable := #[], attributes := #[] }
def k18m2 : Method := { name := "newBytesLength", desc := "(I)I", sig := { parameters := [.int], returnType := some .int }, accessFlags := 9, code := some k18c2 }
def k18c3 : Code := { maxStack := 4, maxLocals := 3, code := jdk_52_method_4_code, exceptionTable := #[], attributes := #[] }
def k18m3 : Method := { name := "putChar", desc := "([BII)V", sig := { parameters := [(.array .byte), .int, .int], returnType := none }, accessFlags := 8, code := some k18c3 }
def k18c4 : Code := { maxStack := 3, maxLocals := 2, code := jdk_52_method_5_code, exceptionTable := #[], attributes := #[] }
def k18m4 : Method := { name := "getChar", desc := "([BI)C", sig := { parameters := [(.array .byte), .int], returnType := some .char }, accessFlags := 8, code := some k18c4 }
def k18c5 : Code := { maxStack := 2, maxLocals := 1, code := jdk_52_method_6_code, exceptionTable := #[], attributes := #[] }
def k18m5 : Method := { name := "length", desc := "([B)I", sig := { parameters := [(.array .byte)], returnType := some .int }, accessFlags := 9, code := some k18c5 }
def k18c6 : Code := { maxStack := 4, maxLocals := 5, code := jdk_52_method_14_code, exceptionTable := #[], attributes := #[] }
def k18m6 : Method := { name := "toBytes", desc := "([CII)[B", sig := { parameters := [(.array .char), .int, .int], returnType := some (.array .byte) }, accessFlags := 9, code := some k18c6 }
def k18c7 : Code := { maxStack := 2, maxLocals := 2, code := jdk_52_method_15_code, exceptionTable := #[], attributes := #[] }
def k18m7 : Method := { name := "coderFromArrayLen", desc := "([BI)B", sig := { parameters := [(.array .byte), .int], returnType := some .byte }, accessFlags := 8, code := some k18c7 }
def k18c8 : Code := { maxStack := 5, maxLocals := 6, code := jdk_52_method_16_code, exceptionTable := #[], attributes := #[] }
def k18m8 : Method := { name := "compress", desc := "([CII)[B", sig := { parameters := [(.array .char), .int, .int], returnType := some (.array .byte) }, accessFlags := 9, code := some k18c8 }
def k18c9 : Code := { maxStack := 3, maxLocals := 7, code := jdk_52_method_21_code, exceptionTable := #[], attributes := #[] }
def k18m9 : Method := { name := "compress", desc := "([CI[BII)I", sig := { parameters := [(.array .char), .int, (.array .byte), .int, .int], returnType := some .int }, accessFlags := 9, code := some k18c9 }
def k18c10 : Code := { maxStack := 3, maxLocals := 2, code := jdk_52_method_24_code, exceptionTable := #[], attributes := #[] }
def k18m10 : Method := { name := "toBytes", desc := "(C)[B", sig := { parameters := [.char], returnType := some (.array .byte) }, accessFlags := 9, code := some k18c10 }
def k18c11 : Code := { maxStack := 2, maxLocals := 2, code := jdk_52_method_83_code, exceptionTable := #[], attributes := #[] }
def k18m11 : Method := { name := "charAt", desc := "([BI)C", sig := { parameters := [(.array .byte), .int], returnType := some .char }, accessFlags := 9, code := some k18c11 }
def k18c12 : Code := { maxStack := 4, maxLocals := 6, code := jdk_52_method_86_code, exceptionTable := #[], attributes := #[] }
def k18m12 : Method := { name := "inflate", desc := "([BI[BII)V", sig := { parameters := [(.array .byte), .int, (.array .byte), .int, .int], returnType := none }, accessFlags := 9, code := some k18c12 }
def k18c13 : Code := { maxStack := 2, maxLocals := 2, code := jdk_52_method_91_code, exceptionTable := #[], attributes := #[] }
def k18m13 : Method := { name := "checkIndex", desc := "(I[B)V", sig := { parameters := [.int, (.array .byte)], returnType := none }, accessFlags := 9, code := some k18c13 }
def k18c14 : Code := { maxStack := 3, maxLocals := 3, code := jdk_52_method_94_code, exceptionTable := #[], attributes := #[] }
def k18m14 : Method := { name := "checkBoundsOffCount", desc := "(II[B)V", sig := { parameters := [.int, .int, (.array .byte)], returnType := none }, accessFlags := 9, code := some k18c14 }
/-- java/lang/StringUTF16 -/
def k18 : Class := { plain "java/lang/StringUTF16" (some 0) with
  accessFlags := 48
  interfaces := #[]
  cf := some (fileOf pool18 12 #[.nestMembers #[627, 629, 369]] #[{ accessFlags := 0, nameIndex := 9, descriptorIndex := 10, attributes := #[] }, { accessFlags := 9, nameIndex := 109, descriptorIndex := 110, attributes := #[] }, { accessFlags := 9, nameIndex := 15, descriptorIndex := 16, attributes := #[] }, { accessFlags := 8, nameIndex := 113, descriptorIndex := 114, attributes := #[] }, { accessFlags := 8, nameIndex := 73, descriptorIndex := 74, attributes := #[] }, { accessFlags := 9, nameIndex := 50, descriptorIndex := 51, attributes := #[] }, { accessFlags := 9, nameIndex := 121, descriptorIndex := 122, attributes := #[] }, { accessFlags := 8, nameIndex := 261, descriptorIndex := 262, attributes := #[] }, { accessFlags := 9, nameIndex := 117, descriptorIndex := 122, attributes := #[] }, { accessFlags := 9, nameIndex := 117, descriptorIndex := 118, attributes := #[] }, { accessFlags := 9, nameIndex := 121, descriptorIndex := 475, attributes := #[] }, { accessFlags := 9, nameIndex := 392, descriptorIndex := 74, attributes := #[] }, { accessFlags := 9, nameIndex := 140, descriptorIndex := 141, attributes := #[] }, { accessFlags := 9, nameIndex := 69, descriptorIndex := 70, attributes := #[] }, { accessFlags := 9, nameIndex := 175, descriptorIndex := 99, attributes := #[] }] 48 6 #[] #[{ accessFlags := 26, nameIndex := 61, descriptorIndex := 62, attributes := #[] }, { accessFlags := 26, nameIndex := 65, descriptorIndex := 62, attributes := #[] }, { accessFlags := 24, nameIndex := 430, descriptorIndex := 62, attributes := #[] }, { accessFlags := 4120, nameIndex := 46, descriptorIndex := 47, attributes := #[] }])
  fields := #[{ name := "HI_BYTE_SHIFT", type := .int, accessFlags := 26, slot := 0, constantValue := 0 }, { name := "LO_BYTE_SHIFT", type := .int, accessFlags := 26, slot := 1, constantValue := 0 }, { name := "MAX_LENGTH", type := .int, accessFlags := 24, slot := 2, constantValue := 0 }, { name := "$assertionsDisabled", type := .boolean, accessFlags := 4120, slot := 3, constantValue := 0 }]
  methods := #[k18m0, k18m1, k18m2, k18m3, k18m4, k18m5, k18m6, k18m7, k18m8, k18m9, k18m10, k18m11, k18m12, k18m13, k18m14]
  instanceTypes := #[]
  staticTypes := #[.int, .int, .int, .boolean]
  resolved := Array.replicate 635 none
  statics := some 2 }

def pool19 : Array CpInfo := pool [(9, u "<init>"), (6, .class_ 18), (1, u "java/lang/Object"), (0, u "()V"), (1, .class_ 23), (1, u "jdk/internal/util/ArraysSupport"), (0, u "LOG2_ARRAY_LONG_INDEX_SCALE"), (0, u "I"), (2, u "U"), (0, u "Ljdk/internal/misc/Unsafe;"), (8, u "BIG_ENDIAN"), (0, u "Z"), (8, u "LOG2_BYTE_BIT_SIZE"), (4, u "LOG2_ARRAY_INT_INDEX_SCALE"), (54, u "JLA"), (0, u "Ljdk/internal/access/JavaLangAccess;"), (11, u "LOG2_ARRAY_BOOLEAN_INDEX_SCALE"), (9, u "LOG2_ARRAY_BYTE_INDEX_SCALE"), (5, u "LOG2_ARRAY_CHAR_INDEX_SCALE"), (5, u "LOG2_ARRAY_SHORT_INDEX_SCALE"), (18, u "LOG2_ARRAY_FLOAT_INDEX_SCALE"), (24, u "LOG2_ARRAY_DOUBLE_INDEX_SCALE"), (89, u "T_BOOLEAN"), (2, u "T_CHAR"), (1, u "T_FLOAT"), (1, u "T_DOUBLE"), (1, u "T_BYTE"), (1, u "T_SHORT"), (1, u "T_INT"), (1, u "T_LONG"), (1, u "SOFT_MAX_ARRAY_LENGTH")] 83

def k19m0 : Method := { name := "<init>", desc := "()V", sig := { parameters := [], returnType := none }, accessFlags := 2, code := none }
/-- jdk/internal/util/ArraysSupport -/
def k19 : Class := { plain "jdk/internal/util/ArraysSupport" (some 0) with
  accessFlags := 33
  interfaces := #[]
  cf := some (fileOf pool19 21 #[] #[{ accessFlags := 2, nameIndex := 9, descriptorIndex := 19, attributes := #[] }] 33 16 #[] #[{ accessFlags := 24, nameIndex := 28, descriptorIndex := 29, attributes := #[] }, { accessFlags := 26, nameIndex := 38, descriptorIndex := 39, attributes := #[] }, { accessFlags := 25, nameIndex := 121, descriptorIndex := 25, attributes := #[] }, { accessFlags := 25, nameIndex := 131, descriptorIndex := 25, attributes := #[] }, { accessFlags := 25, nameIndex := 137, descriptorIndex := 25, attributes := #[] }, { accessFlags := 25, nameIndex := 143, descriptorIndex := 25, attributes := #[] }, { accessFlags := 25, nameIndex := 53, descriptorIndex := 25, attributes := #[] }, { accessFlags := 25, nameIndex := 24, descriptorIndex := 25, attributes := #[] }, { accessFlags := 25, nameIndex := 162, descriptorIndex := 25, attributes := #[] }, { accessFlags := 25, nameIndex := 187, descriptorIndex := 25, attributes := #[] }, { accessFlags := 26, nameIndex := 48, descriptorIndex := 25, attributes := #[] }, { accessFlags := 25, nameIndex := 277, descriptorIndex := 25, attributes := #[] }, { accessFlags := 25, nameIndex := 280, descriptorIndex := 25, attributes := #[] }, { accessFlags := 25, nameIndex := 282, descriptorIndex := 25, attributes := #[] }, { accessFlags := 25, nameIndex := 284, descriptorIndex := 25, attributes := #[] }, { accessFlags := 25, nameIndex := 286, descriptorIndex := 25, attributes := #[] }, { accessFlags := 25, nameIndex := 288, descriptorIndex := 25, attributes := #[] }, { accessFlags := 25, nameIndex := 290, descriptorIndex := 25, attributes := #[] }, { accessFlags := 25, nameIndex := 292, descriptorIndex := 25, attributes := #[] }, { accessFlags := 26, nameIndex := 108, descriptorIndex := 109, attributes := #[] }, { accessFlags := 25, nameIndex := 294, descriptorIndex := 25, attributes := #[] }])
  fields := #[{ name := "U", type := (.object "jdk/internal/misc/Unsafe"), accessFlags := 24, slot := 0, constantValue := 0 }, { name := "BIG_ENDIAN", type := .boolean, accessFlags := 26, slot := 1, constantValue := 0 }, { name := "LOG2_ARRAY_BOOLEAN_INDEX_SCALE", type := .int, accessFlags := 25, slot := 2, constantValue := 0 }, { name := "LOG2_ARRAY_BYTE_INDEX_SCALE", type := .int, accessFlags := 25, slot := 3, constantValue := 0 }, { name := "LOG2_ARRAY_CHAR_INDEX_SCALE", type := .int, accessFlags := 25, slot := 4, constantValue := 0 }, { name := "LOG2_ARRAY_SHORT_INDEX_SCALE", type := .int, accessFlags := 25, slot := 5, constantValue := 0 }, { name := "LOG2_ARRAY_INT_INDEX_SCALE", type := .int, accessFlags := 25, slot := 6, constantValue := 0 }, { name := "LOG2_ARRAY_LONG_INDEX_SCALE", type := .int, accessFlags := 25, slot := 7, constantValue := 0 }, { name := "LOG2_ARRAY_FLOAT_INDEX_SCALE", type := .int, accessFlags := 25, slot := 8, constantValue := 0 }, { name := "LOG2_ARRAY_DOUBLE_INDEX_SCALE", type := .int, accessFlags := 25, slot := 9, constantValue := 0 }, { name := "LOG2_BYTE_BIT_SIZE", type := .int, accessFlags := 26, slot := 10, constantValue := 0 }, { name := "T_BOOLEAN", type := .int, accessFlags := 25, slot := 11, constantValue := 0 }, { name := "T_CHAR", type := .int, accessFlags := 25, slot := 12, constantValue := 0 }, { name := "T_FLOAT", type := .int, accessFlags := 25, slot := 13, constantValue := 0 }, { name := "T_DOUBLE", type := .int, accessFlags := 25, slot := 14, constantValue := 0 }, { name := "T_BYTE", type := .int, accessFlags := 25, slot := 15, constantValue := 0 }, { name := "T_SHORT", type := .int, accessFlags := 25, slot := 16, constantValue := 0 }, { name := "T_INT", type := .int, accessFlags := 25, slot := 17, constantValue := 0 }, { name := "T_LONG", type := .int, accessFlags := 25, slot := 18, constantValue := 0 }, { name := "JLA", type := (.object "jdk/internal/access/JavaLangAccess"), accessFlags := 26, slot := 19, constantValue := 0 }, { name := "SOFT_MAX_ARRAY_LENGTH", type := .int, accessFlags := 25, slot := 20, constantValue := 0 }]
  methods := #[k19m0]
  instanceTypes := #[]
  staticTypes := #[(.object "jdk/internal/misc/Unsafe"), .boolean, .int, .int, .int, .int, .int, .int, .int, .int, .int, .int, .int, .int, .int, .int, .int, .int, .int, (.object "jdk/internal/access/JavaLangAccess"), .int]
  resolved := Array.replicate 378 none
  statics := none }

def pool20 : Array CpInfo := pool [(1, u "java/lang/Cloneable"), (0, .class_ 1), (0, u "java/lang/Object"), (0, .class_ 3)] 3

/-- java/lang/Cloneable -/
def k20 : Class := { plain "java/lang/Cloneable" (some 0) with
  accessFlags := 1537
  interfaces := #[]
  cf := some (fileOf pool20 2 #[] #[] 1537 4 #[] #[])
  fields := #[]
  methods := #[]
  instanceTypes := #[]
  staticTypes := #[]
  resolved := Array.replicate 8 none
  statics := none }

/-- the primitive byte -/
def k21 : Class := { plain "byte" none with kind := .primitive 'B', accessFlags := 0x411 }
/-- [B -/
def k22 : Class := { plain "[B" (some 0) with kind := .array 21 .byte, interfaces := #[20, 2], accessFlags := 1041 }

/-- the primitive char -/
def k23 : Class := { plain "char" none with kind := .primitive 'C', accessFlags := 0x411 }
/-- [C -/
def k24 : Class := { plain "[C" (some 0) with kind := .array 23 .char, interfaces := #[20, 2], accessFlags := 1041 }

def heap : Heap := #[{ cls := 7, slots := #[.long 0, .int 1, .null, .int 0, .null, .int 0, .int 0], vm := .statics 7 },
  { cls := 17, slots := #[.null, .null, .null], vm := .statics 17 },
  { cls := 18, slots := #[.int 0, .int 8, .int 0, .int 1], vm := .statics 18 },
  { cls := 19, slots := #[], vm := .none }]
def classes : Array Class := #[k0, k1, k2, k3, k4, k5, k6, k7, k8, k9, k10, k11, k12, k13, k14, k15, k16, k17, k18, k19, k20, k21, k22, k23, k24]
def interned : List (Array UInt16 × Addr) := []
def slotsUsed : Nat := 14
def theMethod : MethodId := ⟨1, 4⟩
def args0 : Array Value := #[.int 5, .int 6, .int 7, .int 8]
def aboutOver (below : List Frame) : State where
  vm := { classes := classes, interned := interned.toArray }
  heap := heap
  slotsUsed := slotsUsed
  threads := #[{ frames := .invoking theMethod args0 :: below }]
def below0 : List Frame := [.native { method := ⟨0, 0⟩, args := #[] }]
def about1 : State := aboutOver below0
def p0 : Program := .bare "" "" ""
def e0 : Env := launch0.env 0 0 0
theorem w_frames : about1.frames = Frame.invoking theMethod args0 :: below0 := rfl
set_option maxRecDepth 65536 in
theorem w_args : argsFit about1.vm theMethod args0 = true := by decide +kernel
set_option maxRecDepth 65536 in
theorem w_heap : heapFits about1 = true := by decide +kernel
set_option maxRecDepth 65536 in
theorem w_runnable : about1.curStatus? = some .runnable := by decide +kernel
set_option maxRecDepth 65536 in
theorem w_alone : about1.alone = true := by decide +kernel
set_option maxRecDepth 65536 in
theorem w_named : about1.methodNamed? x = some theMethod := by decide +kernel
set_option maxRecDepth 65536 in
theorem w_hears : about1.hears theMethod below0 = true := by decide +kernel
set_option maxRecDepth 65536 in
theorem w_ripe : about1.ripe theMethod args0 below0 = true := by decide +kernel
theorem w_running : about1.status = .running := rfl
set_option maxRecDepth 65536 in
theorem w_room : about1.hasRoom e0.platform room_1 = true :=
  launch0.hasRoom_least _ room_1 (by decide +kernel) (by decide +kernel) (by decide +kernel) (by decide +kernel) (by decide +kernel) (by decide +kernel)
theorem allAtoms_all (ts : List Jvm.Cond) (a : Array Jvm.Value) (st : Jvm.State) : (allAtoms ts).before a st = ts.all (fun c => c.before a st) := by
  induction ts with
  | nil => rfl
  | cons c t ih =>
    show (Jvm.Cond.and c (allAtoms t)).before a st = _
    rw [Jvm.Cond.before_and, ih, List.all_cons]
def words1 : List Jvm.Cond := Jvm.Cond.code x code maxLocals ret :: tables_1
/-- a 'code' word, met by the world's own term for the bytes: nothing is compared byte by byte -/
theorem code_word {y : MethodName} {bytes : ByteArray} {mx : Nat} {rt : Option FieldType} {a : Array Value} {s : State} {m : MethodId} {meth : Method} {c : Code} (h1 : s.methodNamed? y = some m) (h2 : s.vm.method? m = some meth) (h3 : meth.code = some c) (h4 : c.code = bytes)
    (h5 : (c.maxLocals == mx && c.exceptionTable.isEmpty && decide (c.maxStack ≤ mostOperands) && decide (meth.sig.returnType = rt) && !meth.locks && decide (parseMethodDescriptor y.desc = some meth.sig)) = true) : (Jvm.Cond.code y bytes mx rt).before a s = true := by
  simp only [Bool.and_eq_true, beq_iff_eq, Bool.not_eq_true', decide_eq_true_eq] at h5
  obtain ⟨⟨⟨⟨⟨g1, g2⟩, g3⟩, g4⟩, g5⟩, g6⟩ := h5
  simp [Cond.before, Cond.holds, Cond.value, h1, h2, h3, h4, g1, g2, g3, g4, g5, g6]
def isCode : Jvm.Cond → Bool
  | .code _ _ _ _ => true
  | _ => false
theorem all_split {L : List Jvm.Cond} {P : Jvm.Cond → Bool} (h1 : L.all (fun c => isCode c || P c) = true) (h2 : ∀ c ∈ L.filter isCode, P c = true) : L.all P = true := by
  refine List.all_eq_true.mpr fun c hc => ?_
  have h := List.all_eq_true.mp h1 c hc
  rcases Bool.eq_false_or_eq_true (isCode c) with hi | hi
  · exact h2 c (List.mem_filter.mpr ⟨hc, hi⟩)
  · simpa [hi] using h
set_option maxRecDepth 65536 in
theorem w_c0 : (Jvm.Cond.code x code maxLocals ret).before args0 about1 = true := code_word (m := ⟨1, 4⟩) (meth := k1m4) (c := k1c4) (by decide +kernel) rfl rfl rfl (by decide +kernel)
set_option maxRecDepth 65536 in
theorem w_c1 : (Jvm.Cond.code ({ cls := "com/example/dispatcher/dispatcher/web/FieldErrorToStringPinLaw", name := "mk", desc := "(ICC)Ljava/lang/String;" } : Jvm.MethodName) method_2_code (3 : Nat) (Option.some (Jvm.ClassFile.FieldType.object "java/lang/String"))).before args0 about1 = true := code_word (m := ⟨1, 1⟩) (meth := k1m1) (c := k1c1) (by decide +kernel) rfl rfl rfl (by decide +kernel)
set_option maxRecDepth 65536 in
theorem w_c2 : (Jvm.Cond.code ({ cls := "com/example/dispatcher/dispatcher/web/FieldError", name := "<init>", desc := "(Ljava/lang/String;Ljava/lang/String;)V" } : Jvm.MethodName) prog_71_method_1_code (3 : Nat) (Option.none : Option Jvm.ClassFile.FieldType)).before args0 about1 = true := code_word (m := ⟨8, 0⟩) (meth := k8m0) (c := k8c0) (by decide +kernel) rfl rfl rfl (by decide +kernel)
set_option maxRecDepth 65536 in
theorem w_c3 : (Jvm.Cond.code ({ cls := "java/lang/Object", name := "<init>", desc := "()V" } : Jvm.MethodName) object_method_1_code (1 : Nat) (Option.none : Option Jvm.ClassFile.FieldType)).before args0 about1 = true := code_word (m := ⟨0, 0⟩) (meth := k0m0) (c := k0c0) (by decide +kernel) rfl rfl rfl (by decide +kernel)
set_option maxRecDepth 65536 in
theorem w_c4 : (Jvm.Cond.code ({ cls := "java/util/Objects", name := "requireNonNull", desc := "(Ljava/lang/Object;Ljava/lang/String;)Ljava/lang/Object;" } : Jvm.MethodName) jdk_31_method_11_code (2 : Nat) (Option.some (Jvm.ClassFile.FieldType.object "java/lang/Object"))).before args0 about1 = true := code_word (m := ⟨9, 1⟩) (meth := k9m1) (c := k9c1) (by decide +kernel) rfl rfl rfl (by decide +kernel)
set_option maxRecDepth 65536 in
theorem w_c5 : (Jvm.Cond.code ({ cls := "com/example/dispatcher/dispatcher/web/FieldError", name := "toString", desc := "()Ljava/lang/String;" } : Jvm.MethodName) prog_71_method_4_code (1 : Nat) (Option.some (Jvm.ClassFile.FieldType.object "java/lang/String"))).before args0 about1 = true := code_word (m := ⟨8, 1⟩) (meth := k8m1) (c := k8c1) (by decide +kernel) rfl rfl rfl (by decide +kernel)
set_option maxRecDepth 65536 in
theorem w_c6 : (Jvm.Cond.code ({ cls := "java/lang/StringBuilder", name := "<init>", desc := "()V" } : Jvm.MethodName) jdk_67_method_1_code (1 : Nat) (Option.none : Option Jvm.ClassFile.FieldType)).before args0 about1 = true := code_word (m := ⟨12, 0⟩) (meth := k12m0) (c := k12c0) (by decide +kernel) rfl rfl rfl (by decide +kernel)
set_option maxRecDepth 65536 in
theorem w_c7 : (Jvm.Cond.code ({ cls := "java/lang/AbstractStringBuilder", name := "<init>", desc := "(I)V" } : Jvm.MethodName) jdk_68_method_2_code (2 : Nat) (Option.none : Option Jvm.ClassFile.FieldType)).before args0 about1 = true := code_word (m := ⟨11, 1⟩) (meth := k11m1) (c := k11c1) (by decide +kernel) rfl rfl rfl (by decide +kernel)
set_option maxRecDepth 65536 in
theorem w_c8 : (Jvm.Cond.code ({ cls := "java/lang/StringBuilder", name := "append", desc := "(Ljava/lang/String;)Ljava/lang/StringBuilder;" } : Jvm.MethodName) jdk_67_method_7_code (2 : Nat) (Option.some (Jvm.ClassFile.FieldType.object "java/lang/StringBuilder"))).before args0 about1 = true := code_word (m := ⟨12, 1⟩) (meth := k12m1) (c := k12c1) (by decide +kernel) rfl rfl rfl (by decide +kernel)
set_option maxRecDepth 65536 in
theorem w_c9 : (Jvm.Cond.code ({ cls := "java/lang/AbstractStringBuilder", name := "append", desc := "(Ljava/lang/String;)Ljava/lang/AbstractStringBuilder;" } : Jvm.MethodName) jdk_68_method_22_code (3 : Nat) (Option.some (Jvm.ClassFile.FieldType.object "java/lang/AbstractStringBuilder"))).before args0 about1 = true := code_word (m := ⟨11, 5⟩) (meth := k11m5) (c := k11c5) (by decide +kernel) rfl rfl rfl (by decide +kernel)
set_option maxRecDepth 65536 in
theorem w_c10 : (Jvm.Cond.code ({ cls := "java/lang/String", name := "length", desc := "()I" } : Jvm.MethodName) jdk_42_method_54_code (1 : Nat) (Option.some Jvm.ClassFile.FieldType.int)).before args0 about1 = true := code_word (m := ⟨7, 3⟩) (meth := k7m3) (c := k7c3) (by decide +kernel) rfl rfl rfl (by decide +kernel)
set_option maxRecDepth 65536 in
theorem w_c11 : (Jvm.Cond.code ({ cls := "java/lang/String", name := "coder", desc := "()B" } : Jvm.MethodName) jdk_42_method_152_code (1 : Nat) (Option.some Jvm.ClassFile.FieldType.byte)).before args0 about1 = true := code_word (m := ⟨7, 10⟩) (meth := k7m10) (c := k7c10) (by decide +kernel) rfl rfl rfl (by decide +kernel)
set_option maxRecDepth 65536 in
theorem w_c12 : (Jvm.Cond.code ({ cls := "java/lang/AbstractStringBuilder", name := "ensureCapacityInternal", desc := "(I)V" } : Jvm.MethodName) jdk_68_method_9_code (3 : Nat) (Option.none : Option Jvm.ClassFile.FieldType)).before args0 about1 = true := code_word (m := ⟨11, 3⟩) (meth := k11m3) (c := k11c3) (by decide +kernel) rfl rfl rfl (by decide +kernel)
set_option maxRecDepth 65536 in
theorem w_c13 : (Jvm.Cond.code ({ cls := "java/lang/AbstractStringBuilder", name := "putStringAt", desc := "(ILjava/lang/String;)V" } : Jvm.MethodName) jdk_68_method_73_code (3 : Nat) (Option.none : Option Jvm.ClassFile.FieldType)).before args0 about1 = true := code_word (m := ⟨11, 9⟩) (meth := k11m9) (c := k11c9) (by decide +kernel) rfl rfl rfl (by decide +kernel)
set_option maxRecDepth 65536 in
theorem w_c14 : (Jvm.Cond.code ({ cls := "java/lang/AbstractStringBuilder", name := "inflateIfNeededFor", desc := "(Ljava/lang/String;)V" } : Jvm.MethodName) jdk_68_method_71_code (2 : Nat) (Option.none : Option Jvm.ClassFile.FieldType)).before args0 about1 = true := code_word (m := ⟨11, 8⟩) (meth := k11m8) (c := k11c8) (by decide +kernel) rfl rfl rfl (by decide +kernel)
set_option maxRecDepth 65536 in
theorem w_c15 : (Jvm.Cond.code ({ cls := "java/lang/String", name := "getBytes", desc := "([BIB)V" } : Jvm.MethodName) jdk_42_method_147_code (4 : Nat) (Option.none : Option Jvm.ClassFile.FieldType)).before args0 about1 = true := code_word (m := ⟨7, 6⟩) (meth := k7m6) (c := k7c6) (by decide +kernel) rfl rfl rfl (by decide +kernel)
set_option maxRecDepth 65536 in
theorem w_c16 : (Jvm.Cond.code ({ cls := "java/lang/StringBuilder", name := "toString", desc := "()Ljava/lang/String;" } : Jvm.MethodName) jdk_67_method_42_code (1 : Nat) (Option.some (Jvm.ClassFile.FieldType.object "java/lang/String"))).before args0 about1 = true := code_word (m := ⟨12, 2⟩) (meth := k12m2) (c := k12c2) (by decide +kernel) rfl rfl rfl (by decide +kernel)
set_option maxRecDepth 65536 in
theorem w_c17 : (Jvm.Cond.code ({ cls := "java/lang/String", name := "<init>", desc := "(Ljava/lang/StringBuilder;)V" } : Jvm.MethodName) jdk_42_method_53_code (2 : Nat) (Option.none : Option Jvm.ClassFile.FieldType)).before args0 about1 = true := code_word (m := ⟨7, 2⟩) (meth := k7m2) (c := k7c2) (by decide +kernel) rfl rfl rfl (by decide +kernel)
set_option maxRecDepth 65536 in
theorem w_c18 : (Jvm.Cond.code ({ cls := "java/lang/String", name := "<init>", desc := "(Ljava/lang/AbstractStringBuilder;Ljava/lang/Void;)V" } : Jvm.MethodName) jdk_42_method_150_code (5 : Nat) (Option.none : Option Jvm.ClassFile.FieldType)).before args0 about1 = true := code_word (m := ⟨7, 8⟩) (meth := k7m8) (c := k7c8) (by decide +kernel) rfl rfl rfl (by decide +kernel)
set_option maxRecDepth 65536 in
theorem w_c19 : (Jvm.Cond.code ({ cls := "java/lang/AbstractStringBuilder", name := "getValue", desc := "()[B" } : Jvm.MethodName) jdk_68_method_64_code (1 : Nat) (Option.some (Jvm.ClassFile.FieldType.array Jvm.ClassFile.FieldType.byte))).before args0 about1 = true := code_word (m := ⟨11, 6⟩) (meth := k11m6) (c := k11c6) (by decide +kernel) rfl rfl rfl (by decide +kernel)
set_option maxRecDepth 65536 in
theorem w_c20 : (Jvm.Cond.code ({ cls := "java/lang/StringBuilder", name := "length", desc := "()I" } : Jvm.MethodName) jdk_67_method_93_code (1 : Nat) (Option.some Jvm.ClassFile.FieldType.int)).before args0 about1 = true := code_word (m := ⟨12, 3⟩) (meth := k12m3) (c := k12c3) (by decide +kernel) rfl rfl rfl (by decide +kernel)
set_option maxRecDepth 65536 in
theorem w_c21 : (Jvm.Cond.code ({ cls := "java/lang/AbstractStringBuilder", name := "length", desc := "()I" } : Jvm.MethodName) jdk_68_method_6_code (1 : Nat) (Option.some Jvm.ClassFile.FieldType.int)).before args0 about1 = true := code_word (m := ⟨11, 2⟩) (meth := k11m2) (c := k11c2) (by decide +kernel) rfl rfl rfl (by decide +kernel)
set_option maxRecDepth 65536 in
theorem w_c22 : (Jvm.Cond.code ({ cls := "java/lang/AbstractStringBuilder", name := "isLatin1", desc := "()Z" } : Jvm.MethodName) jdk_68_method_68_code (1 : Nat) (Option.some Jvm.ClassFile.FieldType.boolean)).before args0 about1 = true := code_word (m := ⟨11, 7⟩) (meth := k11m7) (c := k11c7) (by decide +kernel) rfl rfl rfl (by decide +kernel)
set_option maxRecDepth 65536 in
theorem w_c23 : (Jvm.Cond.code ({ cls := "java/util/Arrays", name := "copyOfRange", desc := "([BII)[B" } : Jvm.MethodName) jdk_65_method_132_code (3 : Nat) (Option.some (Jvm.ClassFile.FieldType.array Jvm.ClassFile.FieldType.byte))).before args0 about1 = true := code_word (m := ⟨14, 2⟩) (meth := k14m2) (c := k14c2) (by decide +kernel) rfl rfl rfl (by decide +kernel)
set_option maxRecDepth 65536 in
theorem w_c24 : (Jvm.Cond.code ({ cls := "java/util/Arrays", name := "copyOfRangeByte", desc := "([BII)[B" } : Jvm.MethodName) jdk_65_method_133_code (5 : Nat) (Option.some (Jvm.ClassFile.FieldType.array Jvm.ClassFile.FieldType.byte))).before args0 about1 = true := code_word (m := ⟨14, 3⟩) (meth := k14m3) (c := k14c3) (by decide +kernel) rfl rfl rfl (by decide +kernel)
set_option maxRecDepth 65536 in
theorem w_c25 : (Jvm.Cond.code ({ cls := "java/util/Arrays", name := "checkLength", desc := "(II)V" } : Jvm.MethodName) jdk_65_method_131_code (2 : Nat) (Option.none : Option Jvm.ClassFile.FieldType)).before args0 about1 = true := code_word (m := ⟨14, 1⟩) (meth := k14m1) (c := k14c1) (by decide +kernel) rfl rfl rfl (by decide +kernel)
set_option maxRecDepth 65536 in
theorem w_c26 : (Jvm.Cond.code ({ cls := "java/lang/Math", name := "min", desc := "(II)I" } : Jvm.MethodName) jdk_29_method_69_code (2 : Nat) (Option.some Jvm.ClassFile.FieldType.int)).before args0 about1 = true := code_word (m := ⟨15, 1⟩) (meth := k15m1) (c := k15c1) (by decide +kernel) rfl rfl rfl (by decide +kernel)
set_option maxRecDepth 65536 in
theorem w_c27 : (Jvm.Cond.code ({ cls := "com/example/dispatcher/dispatcher/web/FieldErrorToStringPinLaw", name := "check", desc := "(Ljava/lang/String;IIICCCC)Z" } : Jvm.MethodName) method_4_code (8 : Nat) (Option.some Jvm.ClassFile.FieldType.boolean)).before args0 about1 = true := code_word (m := ⟨1, 3⟩) (meth := k1m3) (c := k1c3) (by decide +kernel) rfl rfl rfl (by decide +kernel)
set_option maxRecDepth 65536 in
theorem w_c28 : (Jvm.Cond.code ({ cls := "java/lang/String", name := "charAt", desc := "(I)C" } : Jvm.MethodName) jdk_42_method_56_code (2 : Nat) (Option.some Jvm.ClassFile.FieldType.char)).before args0 about1 = true := code_word (m := ⟨7, 4⟩) (meth := k7m4) (c := k7c4) (by decide +kernel) rfl rfl rfl (by decide +kernel)
set_option maxRecDepth 65536 in
theorem w_c29 : (Jvm.Cond.code ({ cls := "java/lang/String", name := "isLatin1", desc := "()Z" } : Jvm.MethodName) jdk_42_method_154_code (1 : Nat) (Option.some Jvm.ClassFile.FieldType.boolean)).before args0 about1 = true := code_word (m := ⟨7, 11⟩) (meth := k7m11) (c := k7c11) (by decide +kernel) rfl rfl rfl (by decide +kernel)
set_option maxRecDepth 65536 in
theorem w_c30 : (Jvm.Cond.code ({ cls := "java/lang/StringLatin1", name := "charAt", desc := "([BI)C" } : Jvm.MethodName) jdk_43_method_2_code (2 : Nat) (Option.some Jvm.ClassFile.FieldType.char)).before args0 about1 = true := code_word (m := ⟨16, 1⟩) (meth := k16m1) (c := k16c1) (by decide +kernel) rfl rfl rfl (by decide +kernel)
set_option maxRecDepth 65536 in
theorem w_c31 : (Jvm.Cond.code ({ cls := "java/lang/String", name := "checkIndex", desc := "(II)V" } : Jvm.MethodName) jdk_42_method_155_code (2 : Nat) (Option.none : Option Jvm.ClassFile.FieldType)).before args0 about1 = true := code_word (m := ⟨7, 12⟩) (meth := k7m12) (c := k7c12) (by decide +kernel) rfl rfl rfl (by decide +kernel)
set_option maxRecDepth 65536 in
theorem w_c32 : (Jvm.Cond.code ({ cls := "jdk/internal/util/Preconditions", name := "checkIndex", desc := "(IILjava/util/function/BiFunction;)I" } : Jvm.MethodName) jdk_41_method_11_code (3 : Nat) (Option.some Jvm.ClassFile.FieldType.int)).before args0 about1 = true := code_word (m := ⟨17, 1⟩) (meth := k17m1) (c := k17c1) (by decide +kernel) rfl rfl rfl (by decide +kernel)
set_option maxRecDepth 65536 in
theorem w_c33 : (Jvm.Cond.code ({ cls := "com/example/dispatcher/dispatcher/web/FieldErrorToStringPinLaw", name := "at", desc := "(IICCCC)C" } : Jvm.MethodName) method_3_code (7 : Nat) (Option.some Jvm.ClassFile.FieldType.char)).before args0 about1 = true := code_word (m := ⟨1, 2⟩) (meth := k1m2) (c := k1c2) (by decide +kernel) rfl rfl rfl (by decide +kernel)
set_option maxRecDepth 65536 in
theorem w_c34 : (Jvm.Cond.code ({ cls := "java/lang/String", name := "valueOf", desc := "(C)Ljava/lang/String;" } : Jvm.MethodName) jdk_42_method_139_code (1 : Nat) (Option.some (Jvm.ClassFile.FieldType.object "java/lang/String"))).before args0 about1 = true := code_word (m := ⟨7, 5⟩) (meth := k7m5) (c := k7c5) (by decide +kernel) rfl rfl rfl (by decide +kernel)
set_option maxRecDepth 65536 in
theorem w_c35 : (Jvm.Cond.code ({ cls := "java/lang/StringLatin1", name := "canEncode", desc := "(C)Z" } : Jvm.MethodName) jdk_43_method_3_code (1 : Nat) (Option.some Jvm.ClassFile.FieldType.boolean)).before args0 about1 = true := code_word (m := ⟨16, 2⟩) (meth := k16m2) (c := k16c2) (by decide +kernel) rfl rfl rfl (by decide +kernel)
set_option maxRecDepth 65536 in
theorem w_c36 : (Jvm.Cond.code ({ cls := "java/lang/StringLatin1", name := "toBytes", desc := "(C)[B" } : Jvm.MethodName) jdk_43_method_46_code (1 : Nat) (Option.some (Jvm.ClassFile.FieldType.array Jvm.ClassFile.FieldType.byte))).before args0 about1 = true := code_word (m := ⟨16, 3⟩) (meth := k16m3) (c := k16c3) (by decide +kernel) rfl rfl rfl (by decide +kernel)
set_option maxRecDepth 65536 in
theorem w_c37 : (Jvm.Cond.code ({ cls := "java/lang/String", name := "<init>", desc := "([BB)V" } : Jvm.MethodName) jdk_42_method_151_code (3 : Nat) (Option.none : Option Jvm.ClassFile.FieldType)).before args0 about1 = true := code_word (m := ⟨7, 9⟩) (meth := k7m9) (c := k7c9) (by decide +kernel) rfl rfl rfl (by decide +kernel)
set_option maxRecDepth 65536 in
theorem w_c38 : (Jvm.Cond.code ({ cls := "java/lang/StringUTF16", name := "toBytes", desc := "(C)[B" } : Jvm.MethodName) jdk_52_method_24_code (2 : Nat) (Option.some (Jvm.ClassFile.FieldType.array Jvm.ClassFile.FieldType.byte))).before args0 about1 = true := code_word (m := ⟨18, 10⟩) (meth := k18m10) (c := k18c10) (by decide +kernel) rfl rfl rfl (by decide +kernel)
set_option maxRecDepth 65536 in
theorem w_c39 : (Jvm.Cond.code ({ cls := "java/lang/StringUTF16", name := "putChar", desc := "([BII)V" } : Jvm.MethodName) jdk_52_method_4_code (3 : Nat) (Option.none : Option Jvm.ClassFile.FieldType)).before args0 about1 = true := code_word (m := ⟨18, 3⟩) (meth := k18m3) (c := k18c3) (by decide +kernel) rfl rfl rfl (by decide +kernel)
set_option maxRecDepth 65536 in
theorem w_c40 : (Jvm.Cond.code ({ cls := "java/lang/AbstractStringBuilder", name := "inflate", desc := "()V" } : Jvm.MethodName) jdk_68_method_11_code (2 : Nat) (Option.none : Option Jvm.ClassFile.FieldType)).before args0 about1 = true := code_word (m := ⟨11, 4⟩) (meth := k11m4) (c := k11c4) (by decide +kernel) rfl rfl rfl (by decide +kernel)
set_option maxRecDepth 65536 in
theorem w_c41 : (Jvm.Cond.code ({ cls := "java/lang/StringUTF16", name := "newBytesFor", desc := "(I)[B" } : Jvm.MethodName) jdk_52_method_2_code (1 : Nat) (Option.some (Jvm.ClassFile.FieldType.array Jvm.ClassFile.FieldType.byte))).before args0 about1 = true := code_word (m := ⟨18, 1⟩) (meth := k18m1) (c := k18c1) (by decide +kernel) rfl rfl rfl (by decide +kernel)
set_option maxRecDepth 65536 in
theorem w_c42 : (Jvm.Cond.code ({ cls := "java/lang/StringUTF16", name := "newBytesLength", desc := "(I)I" } : Jvm.MethodName) jdk_52_method_3_code (1 : Nat) (Option.some Jvm.ClassFile.FieldType.int)).before args0 about1 = true := code_word (m := ⟨18, 2⟩) (meth := k18m2) (c := k18c2) (by decide +kernel) rfl rfl rfl (by decide +kernel)
set_option maxRecDepth 65536 in
theorem w_c43 : (Jvm.Cond.code ({ cls := "java/lang/StringLatin1", name := "inflate", desc := "([BI[BII)V" } : Jvm.MethodName) jdk_43_method_50_code (5 : Nat) (Option.none : Option Jvm.ClassFile.FieldType)).before args0 about1 = true := code_word (m := ⟨16, 4⟩) (meth := k16m4) (c := k16c4) (by decide +kernel) rfl rfl rfl (by decide +kernel)
set_option maxRecDepth 65536 in
theorem w_c44 : (Jvm.Cond.code ({ cls := "java/lang/StringUTF16", name := "inflate", desc := "([BI[BII)V" } : Jvm.MethodName) jdk_52_method_86_code (6 : Nat) (Option.none : Option Jvm.ClassFile.FieldType)).before args0 about1 = true := code_word (m := ⟨18, 12⟩) (meth := k18m12) (c := k18c12) (by decide +kernel) rfl rfl rfl (by decide +kernel)
set_option maxRecDepth 65536 in
theorem w_c45 : (Jvm.Cond.code ({ cls := "java/lang/StringUTF16", name := "checkBoundsOffCount", desc := "(II[B)V" } : Jvm.MethodName) jdk_52_method_94_code (3 : Nat) (Option.none : Option Jvm.ClassFile.FieldType)).before args0 about1 = true := code_word (m := ⟨18, 14⟩) (meth := k18m14) (c := k18c14) (by decide +kernel) rfl rfl rfl (by decide +kernel)
set_option maxRecDepth 65536 in
theorem w_c46 : (Jvm.Cond.code ({ cls := "java/lang/StringUTF16", name := "length", desc := "([B)I" } : Jvm.MethodName) jdk_52_method_6_code (1 : Nat) (Option.some Jvm.ClassFile.FieldType.int)).before args0 about1 = true := code_word (m := ⟨18, 5⟩) (meth := k18m5) (c := k18c5) (by decide +kernel) rfl rfl rfl (by decide +kernel)
set_option maxRecDepth 65536 in
theorem w_c47 : (Jvm.Cond.code ({ cls := "java/lang/String", name := "checkBoundsOffCount", desc := "(III)I" } : Jvm.MethodName) jdk_42_method_157_code (3 : Nat) (Option.some Jvm.ClassFile.FieldType.int)).before args0 about1 = true := code_word (m := ⟨7, 13⟩) (meth := k7m13) (c := k7c13) (by decide +kernel) rfl rfl rfl (by decide +kernel)
set_option maxRecDepth 65536 in
theorem w_c48 : (Jvm.Cond.code ({ cls := "jdk/internal/util/Preconditions", name := "checkFromIndexSize", desc := "(IIILjava/util/function/BiFunction;)I" } : Jvm.MethodName) jdk_41_method_13_code (4 : Nat) (Option.some Jvm.ClassFile.FieldType.int)).before args0 about1 = true := code_word (m := ⟨17, 2⟩) (meth := k17m2) (c := k17c2) (by decide +kernel) rfl rfl rfl (by decide +kernel)
set_option maxRecDepth 65536 in
theorem w_c49 : (Jvm.Cond.code ({ cls := "java/lang/StringUTF16", name := "charAt", desc := "([BI)C" } : Jvm.MethodName) jdk_52_method_83_code (2 : Nat) (Option.some Jvm.ClassFile.FieldType.char)).before args0 about1 = true := code_word (m := ⟨18, 11⟩) (meth := k18m11) (c := k18c11) (by decide +kernel) rfl rfl rfl (by decide +kernel)
set_option maxRecDepth 65536 in
theorem w_c50 : (Jvm.Cond.code ({ cls := "java/lang/StringUTF16", name := "checkIndex", desc := "(I[B)V" } : Jvm.MethodName) jdk_52_method_91_code (2 : Nat) (Option.none : Option Jvm.ClassFile.FieldType)).before args0 about1 = true := code_word (m := ⟨18, 13⟩) (meth := k18m13) (c := k18c13) (by decide +kernel) rfl rfl rfl (by decide +kernel)
set_option maxRecDepth 65536 in
theorem w_c51 : (Jvm.Cond.code ({ cls := "java/lang/StringUTF16", name := "getChar", desc := "([BI)C" } : Jvm.MethodName) jdk_52_method_5_code (2 : Nat) (Option.some Jvm.ClassFile.FieldType.char)).before args0 about1 = true := code_word (m := ⟨18, 4⟩) (meth := k18m4) (c := k18c4) (by decide +kernel) rfl rfl rfl (by decide +kernel)
set_option maxRecDepth 65536 in
theorem w_c52 : (Jvm.Cond.code ({ cls := "java/lang/String", name := "<init>", desc := "([C)V" } : Jvm.MethodName) jdk_42_method_3_code (2 : Nat) (Option.none : Option Jvm.ClassFile.FieldType)).before args0 about1 = true := code_word (m := ⟨7, 1⟩) (meth := k7m1) (c := k7c1) (by decide +kernel) rfl rfl rfl (by decide +kernel)
set_option maxRecDepth 65536 in
theorem w_c53 : (Jvm.Cond.code ({ cls := "java/lang/String", name := "<init>", desc := "([CIILjava/lang/Void;)V" } : Jvm.MethodName) jdk_42_method_149_code (6 : Nat) (Option.none : Option Jvm.ClassFile.FieldType)).before args0 about1 = true := code_word (m := ⟨7, 7⟩) (meth := k7m7) (c := k7c7) (by decide +kernel) rfl rfl rfl (by decide +kernel)
set_option maxRecDepth 65536 in
theorem w_c54 : (Jvm.Cond.code ({ cls := "java/lang/StringUTF16", name := "compress", desc := "([CII)[B" } : Jvm.MethodName) jdk_52_method_16_code (6 : Nat) (Option.some (Jvm.ClassFile.FieldType.array Jvm.ClassFile.FieldType.byte))).before args0 about1 = true := code_word (m := ⟨18, 8⟩) (meth := k18m8) (c := k18c8) (by decide +kernel) rfl rfl rfl (by decide +kernel)
set_option maxRecDepth 65536 in
theorem w_c55 : (Jvm.Cond.code ({ cls := "java/lang/StringUTF16", name := "compress", desc := "([CI[BII)I" } : Jvm.MethodName) jdk_52_method_21_code (7 : Nat) (Option.some Jvm.ClassFile.FieldType.int)).before args0 about1 = true := code_word (m := ⟨18, 9⟩) (meth := k18m9) (c := k18c9) (by decide +kernel) rfl rfl rfl (by decide +kernel)
set_option maxRecDepth 65536 in
theorem w_c56 : (Jvm.Cond.code ({ cls := "java/lang/StringUTF16", name := "coderFromArrayLen", desc := "([BI)B" } : Jvm.MethodName) jdk_52_method_15_code (2 : Nat) (Option.some Jvm.ClassFile.FieldType.byte)).before args0 about1 = true := code_word (m := ⟨18, 7⟩) (meth := k18m7) (c := k18c7) (by decide +kernel) rfl rfl rfl (by decide +kernel)
set_option maxRecDepth 65536 in
theorem w_c57 : (Jvm.Cond.code ({ cls := "java/lang/StringUTF16", name := "toBytes", desc := "([CII)[B" } : Jvm.MethodName) jdk_52_method_14_code (5 : Nat) (Option.some (Jvm.ClassFile.FieldType.array Jvm.ClassFile.FieldType.byte))).before args0 about1 = true := code_word (m := ⟨18, 6⟩) (meth := k18m6) (c := k18c6) (by decide +kernel) rfl rfl rfl (by decide +kernel)
def codes1 : List Jvm.Cond := [Jvm.Cond.code x code maxLocals ret, Jvm.Cond.code ({ cls := "com/example/dispatcher/dispatcher/web/FieldErrorToStringPinLaw", name := "mk", desc := "(ICC)Ljava/lang/String;" } : Jvm.MethodName) method_2_code (3 : Nat) (Option.some (Jvm.ClassFile.FieldType.object "java/lang/String")), Jvm.Cond.code ({ cls := "com/example/dispatcher/dispatcher/web/FieldError", name := "<init>", desc := "(Ljava/lang/String;Ljava/lang/String;)V" } : Jvm.MethodName) prog_71_method_1_code (3 : Nat) (Option.none : Option Jvm.ClassFile.FieldType), Jvm.Cond.code ({ cls := "java/lang/Object", name := "<init>", desc := "()V" } : Jvm.MethodName) object_method_1_code (1 : Nat) (Option.none : Option Jvm.ClassFile.FieldType), Jvm.Cond.code ({ cls := "java/util/Objects", name := "requireNonNull", desc := "(Ljava/lang/Object;Ljava/lang/String;)Ljava/lang/Object;" } : Jvm.MethodName) jdk_31_method_11_code (2 : Nat) (Option.some (Jvm.ClassFile.FieldType.object "java/lang/Object")), Jvm.Cond.code ({ cls := "com/example/dispatcher/dispatcher/web/FieldError", name := "toString", desc := "()Ljava/lang/String;" } : Jvm.MethodName) prog_71_method_4_code (1 : Nat) (Option.some (Jvm.ClassFile.FieldType.object "java/lang/String")), Jvm.Cond.code ({ cls := "java/lang/StringBuilder", name := "<init>", desc := "()V" } : Jvm.MethodName) jdk_67_method_1_code (1 : Nat) (Option.none : Option Jvm.ClassFile.FieldType), Jvm.Cond.code ({ cls := "java/lang/AbstractStringBuilder", name := "<init>", desc := "(I)V" } : Jvm.MethodName) jdk_68_method_2_code (2 : Nat) (Option.none : Option Jvm.ClassFile.FieldType), Jvm.Cond.code ({ cls := "java/lang/StringBuilder", name := "append", desc := "(Ljava/lang/String;)Ljava/lang/StringBuilder;" } : Jvm.MethodName) jdk_67_method_7_code (2 : Nat) (Option.some (Jvm.ClassFile.FieldType.object "java/lang/StringBuilder")), Jvm.Cond.code ({ cls := "java/lang/AbstractStringBuilder", name := "append", desc := "(Ljava/lang/String;)Ljava/lang/AbstractStringBuilder;" } : Jvm.MethodName) jdk_68_method_22_code (3 : Nat) (Option.some (Jvm.ClassFile.FieldType.object "java/lang/AbstractStringBuilder")), Jvm.Cond.code ({ cls := "java/lang/String", name := "length", desc := "()I" } : Jvm.MethodName) jdk_42_method_54_code (1 : Nat) (Option.some Jvm.ClassFile.FieldType.int), Jvm.Cond.code ({ cls := "java/lang/String", name := "coder", desc := "()B" } : Jvm.MethodName) jdk_42_method_152_code (1 : Nat) (Option.some Jvm.ClassFile.FieldType.byte), Jvm.Cond.code ({ cls := "java/lang/AbstractStringBuilder", name := "ensureCapacityInternal", desc := "(I)V" } : Jvm.MethodName) jdk_68_method_9_code (3 : Nat) (Option.none : Option Jvm.ClassFile.FieldType), Jvm.Cond.code ({ cls := "java/lang/AbstractStringBuilder", name := "putStringAt", desc := "(ILjava/lang/String;)V" } : Jvm.MethodName) jdk_68_method_73_code (3 : Nat) (Option.none : Option Jvm.ClassFile.FieldType), Jvm.Cond.code ({ cls := "java/lang/AbstractStringBuilder", name := "inflateIfNeededFor", desc := "(Ljava/lang/String;)V" } : Jvm.MethodName) jdk_68_method_71_code (2 : Nat) (Option.none : Option Jvm.ClassFile.FieldType), Jvm.Cond.code ({ cls := "java/lang/String", name := "getBytes", desc := "([BIB)V" } : Jvm.MethodName) jdk_42_method_147_code (4 : Nat) (Option.none : Option Jvm.ClassFile.FieldType), Jvm.Cond.code ({ cls := "java/lang/StringBuilder", name := "toString", desc := "()Ljava/lang/String;" } : Jvm.MethodName) jdk_67_method_42_code (1 : Nat) (Option.some (Jvm.ClassFile.FieldType.object "java/lang/String")), Jvm.Cond.code ({ cls := "java/lang/String", name := "<init>", desc := "(Ljava/lang/StringBuilder;)V" } : Jvm.MethodName) jdk_42_method_53_code (2 : Nat) (Option.none : Option Jvm.ClassFile.FieldType), Jvm.Cond.code ({ cls := "java/lang/String", name := "<init>", desc := "(Ljava/lang/AbstractStringBuilder;Ljava/lang/Void;)V" } : Jvm.MethodName) jdk_42_method_150_code (5 : Nat) (Option.none : Option Jvm.ClassFile.FieldType), Jvm.Cond.code ({ cls := "java/lang/AbstractStringBuilder", name := "getValue", desc := "()[B" } : Jvm.MethodName) jdk_68_method_64_code (1 : Nat) (Option.some (Jvm.ClassFile.FieldType.array Jvm.ClassFile.FieldType.byte)), Jvm.Cond.code ({ cls := "java/lang/StringBuilder", name := "length", desc := "()I" } : Jvm.MethodName) jdk_67_method_93_code (1 : Nat) (Option.some Jvm.ClassFile.FieldType.int), Jvm.Cond.code ({ cls := "java/lang/AbstractStringBuilder", name := "length", desc := "()I" } : Jvm.MethodName) jdk_68_method_6_code (1 : Nat) (Option.some Jvm.ClassFile.FieldType.int), Jvm.Cond.code ({ cls := "java/lang/AbstractStringBuilder", name := "isLatin1", desc := "()Z" } : Jvm.MethodName) jdk_68_method_68_code (1 : Nat) (Option.some Jvm.ClassFile.FieldType.boolean), Jvm.Cond.code ({ cls := "java/util/Arrays", name := "copyOfRange", desc := "([BII)[B" } : Jvm.MethodName) jdk_65_method_132_code (3 : Nat) (Option.some (Jvm.ClassFile.FieldType.array Jvm.ClassFile.FieldType.byte)), Jvm.Cond.code ({ cls := "java/util/Arrays", name := "copyOfRangeByte", desc := "([BII)[B" } : Jvm.MethodName) jdk_65_method_133_code (5 : Nat) (Option.some (Jvm.ClassFile.FieldType.array Jvm.ClassFile.FieldType.byte)), Jvm.Cond.code ({ cls := "java/util/Arrays", name := "checkLength", desc := "(II)V" } : Jvm.MethodName) jdk_65_method_131_code (2 : Nat) (Option.none : Option Jvm.ClassFile.FieldType), Jvm.Cond.code ({ cls := "java/lang/Math", name := "min", desc := "(II)I" } : Jvm.MethodName) jdk_29_method_69_code (2 : Nat) (Option.some Jvm.ClassFile.FieldType.int), Jvm.Cond.code ({ cls := "com/example/dispatcher/dispatcher/web/FieldErrorToStringPinLaw", name := "check", desc := "(Ljava/lang/String;IIICCCC)Z" } : Jvm.MethodName) method_4_code (8 : Nat) (Option.some Jvm.ClassFile.FieldType.boolean), Jvm.Cond.code ({ cls := "java/lang/String", name := "charAt", desc := "(I)C" } : Jvm.MethodName) jdk_42_method_56_code (2 : Nat) (Option.some Jvm.ClassFile.FieldType.char), Jvm.Cond.code ({ cls := "java/lang/String", name := "isLatin1", desc := "()Z" } : Jvm.MethodName) jdk_42_method_154_code (1 : Nat) (Option.some Jvm.ClassFile.FieldType.boolean), Jvm.Cond.code ({ cls := "java/lang/StringLatin1", name := "charAt", desc := "([BI)C" } : Jvm.MethodName) jdk_43_method_2_code (2 : Nat) (Option.some Jvm.ClassFile.FieldType.char), Jvm.Cond.code ({ cls := "java/lang/String", name := "checkIndex", desc := "(II)V" } : Jvm.MethodName) jdk_42_method_155_code (2 : Nat) (Option.none : Option Jvm.ClassFile.FieldType), Jvm.Cond.code ({ cls := "jdk/internal/util/Preconditions", name := "checkIndex", desc := "(IILjava/util/function/BiFunction;)I" } : Jvm.MethodName) jdk_41_method_11_code (3 : Nat) (Option.some Jvm.ClassFile.FieldType.int), Jvm.Cond.code ({ cls := "com/example/dispatcher/dispatcher/web/FieldErrorToStringPinLaw", name := "at", desc := "(IICCCC)C" } : Jvm.MethodName) method_3_code (7 : Nat) (Option.some Jvm.ClassFile.FieldType.char), Jvm.Cond.code ({ cls := "java/lang/String", name := "valueOf", desc := "(C)Ljava/lang/String;" } : Jvm.MethodName) jdk_42_method_139_code (1 : Nat) (Option.some (Jvm.ClassFile.FieldType.object "java/lang/String")), Jvm.Cond.code ({ cls := "java/lang/StringLatin1", name := "canEncode", desc := "(C)Z" } : Jvm.MethodName) jdk_43_method_3_code (1 : Nat) (Option.some Jvm.ClassFile.FieldType.boolean), Jvm.Cond.code ({ cls := "java/lang/StringLatin1", name := "toBytes", desc := "(C)[B" } : Jvm.MethodName) jdk_43_method_46_code (1 : Nat) (Option.some (Jvm.ClassFile.FieldType.array Jvm.ClassFile.FieldType.byte)), Jvm.Cond.code ({ cls := "java/lang/String", name := "<init>", desc := "([BB)V" } : Jvm.MethodName) jdk_42_method_151_code (3 : Nat) (Option.none : Option Jvm.ClassFile.FieldType), Jvm.Cond.code ({ cls := "java/lang/StringUTF16", name := "toBytes", desc := "(C)[B" } : Jvm.MethodName) jdk_52_method_24_code (2 : Nat) (Option.some (Jvm.ClassFile.FieldType.array Jvm.ClassFile.FieldType.byte)), Jvm.Cond.code ({ cls := "java/lang/StringUTF16", name := "putChar", desc := "([BII)V" } : Jvm.MethodName) jdk_52_method_4_code (3 : Nat) (Option.none : Option Jvm.ClassFile.FieldType), Jvm.Cond.code ({ cls := "java/lang/AbstractStringBuilder", name := "inflate", desc := "()V" } : Jvm.MethodName) jdk_68_method_11_code (2 : Nat) (Option.none : Option Jvm.ClassFile.FieldType), Jvm.Cond.code ({ cls := "java/lang/StringUTF16", name := "newBytesFor", desc := "(I)[B" } : Jvm.MethodName) jdk_52_method_2_code (1 : Nat) (Option.some (Jvm.ClassFile.FieldType.array Jvm.ClassFile.FieldType.byte)), Jvm.Cond.code ({ cls := "java/lang/StringUTF16", name := "newBytesLength", desc := "(I)I" } : Jvm.MethodName) jdk_52_method_3_code (1 : Nat) (Option.some Jvm.ClassFile.FieldType.int), Jvm.Cond.code ({ cls := "java/lang/StringLatin1", name := "inflate", desc := "([BI[BII)V" } : Jvm.MethodName) jdk_43_method_50_code (5 : Nat) (Option.none : Option Jvm.ClassFile.FieldType), Jvm.Cond.code ({ cls := "java/lang/StringUTF16", name := "inflate", desc := "([BI[BII)V" } : Jvm.MethodName) jdk_52_method_86_code (6 : Nat) (Option.none : Option Jvm.ClassFile.FieldType), Jvm.Cond.code ({ cls := "java/lang/StringUTF16", name := "checkBoundsOffCount", desc := "(II[B)V" } : Jvm.MethodName) jdk_52_method_94_code (3 : Nat) (Option.none : Option Jvm.ClassFile.FieldType), Jvm.Cond.code ({ cls := "java/lang/StringUTF16", name := "length", desc := "([B)I" } : Jvm.MethodName) jdk_52_method_6_code (1 : Nat) (Option.some Jvm.ClassFile.FieldType.int), Jvm.Cond.code ({ cls := "java/lang/String", name := "checkBoundsOffCount", desc := "(III)I" } : Jvm.MethodName) jdk_42_method_157_code (3 : Nat) (Option.some Jvm.ClassFile.FieldType.int), Jvm.Cond.code ({ cls := "jdk/internal/util/Preconditions", name := "checkFromIndexSize", desc := "(IIILjava/util/function/BiFunction;)I" } : Jvm.MethodName) jdk_41_method_13_code (4 : Nat) (Option.some Jvm.ClassFile.FieldType.int), Jvm.Cond.code ({ cls := "java/lang/StringUTF16", name := "charAt", desc := "([BI)C" } : Jvm.MethodName) jdk_52_method_83_code (2 : Nat) (Option.some Jvm.ClassFile.FieldType.char), Jvm.Cond.code ({ cls := "java/lang/StringUTF16", name := "checkIndex", desc := "(I[B)V" } : Jvm.MethodName) jdk_52_method_91_code (2 : Nat) (Option.none : Option Jvm.ClassFile.FieldType), Jvm.Cond.code ({ cls := "java/lang/StringUTF16", name := "getChar", desc := "([BI)C" } : Jvm.MethodName) jdk_52_method_5_code (2 : Nat) (Option.some Jvm.ClassFile.FieldType.char), Jvm.Cond.code ({ cls := "java/lang/String", name := "<init>", desc := "([C)V" } : Jvm.MethodName) jdk_42_method_3_code (2 : Nat) (Option.none : Option Jvm.ClassFile.FieldType), Jvm.Cond.code ({ cls := "java/lang/String", name := "<init>", desc := "([CIILjava/lang/Void;)V" } : Jvm.MethodName) jdk_42_method_149_code (6 : Nat) (Option.none : Option Jvm.ClassFile.FieldType), Jvm.Cond.code ({ cls := "java/lang/StringUTF16", name := "compress", desc := "([CII)[B" } : Jvm.MethodName) jdk_52_method_16_code (6 : Nat) (Option.some (Jvm.ClassFile.FieldType.array Jvm.ClassFile.FieldType.byte)), Jvm.Cond.code ({ cls := "java/lang/StringUTF16", name := "compress", desc := "([CI[BII)I" } : Jvm.MethodName) jdk_52_method_21_code (7 : Nat) (Option.some Jvm.ClassFile.FieldType.int), Jvm.Cond.code ({ cls := "java/lang/StringUTF16", name := "coderFromArrayLen", desc := "([BI)B" } : Jvm.MethodName) jdk_52_method_15_code (2 : Nat) (Option.some Jvm.ClassFile.FieldType.byte), Jvm.Cond.code ({ cls := "java/lang/StringUTF16", name := "toBytes", desc := "([CII)[B" } : Jvm.MethodName) jdk_52_method_14_code (5 : Nat) (Option.some (Jvm.ClassFile.FieldType.array Jvm.ClassFile.FieldType.byte))]
set_option maxRecDepth 65536 in
theorem codes_eq : words1.filter isCode = codes1 := rfl
theorem w_codes : ∀ c ∈ words1.filter isCode, c.before args0 about1 = true := by
  rw [codes_eq]
  intro c hc
  simp only [codes1, List.mem_cons, List.not_mem_nil, or_false] at hc
  rcases hc with rfl | rfl | rfl | rfl | rfl | rfl | rfl | rfl | rfl | rfl | rfl | rfl | rfl | rfl | rfl | rfl | rfl | rfl | rfl | rfl | rfl | rfl | rfl | rfl | rfl | rfl | rfl | rfl | rfl | rfl | rfl | rfl | rfl | rfl | rfl | rfl | rfl | rfl | rfl | rfl | rfl | rfl | rfl | rfl | rfl | rfl | rfl | rfl | rfl | rfl | rfl | rfl | rfl | rfl | rfl | rfl | rfl | rfl
  · exact w_c0
  · exact w_c1
  · exact w_c2
  · exact w_c3
  · exact w_c4
  · exact w_c5
  · exact w_c6
  · exact w_c7
  · exact w_c8
  · exact w_c9
  · exact w_c10
  · exact w_c11
  · exact w_c12
  · exact w_c13
  · exact w_c14
  · exact w_c15
  · exact w_c16
  · exact w_c17
  · exact w_c18
  · exact w_c19
  · exact w_c20
  · exact w_c21
  · exact w_c22
  · exact w_c23
  · exact w_c24
  · exact w_c25
  · exact w_c26
  · exact w_c27
  · exact w_c28
  · exact w_c29
  · exact w_c30
  · exact w_c31
  · exact w_c32
  · exact w_c33
  · exact w_c34
  · exact w_c35
  · exact w_c36
  · exact w_c37
  · exact w_c38
  · exact w_c39
  · exact w_c40
  · exact w_c41
  · exact w_c42
  · exact w_c43
  · exact w_c44
  · exact w_c45
  · exact w_c46
  · exact w_c47
  · exact w_c48
  · exact w_c49
  · exact w_c50
  · exact w_c51
  · exact w_c52
  · exact w_c53
  · exact w_c54
  · exact w_c55
  · exact w_c56
  · exact w_c57
set_option maxRecDepth 65536 in
theorem w_t1 : (words1.take 24).all (fun c => isCode c || c.before args0 about1) = true := by decide +kernel
set_option maxRecDepth 65536 in
theorem w_t2 : ((words1.drop 24).take 24).all (fun c => isCode c || c.before args0 about1) = true := by decide +kernel
set_option maxRecDepth 65536 in
theorem w_t3 : (((words1.drop 24).drop 24).take 24).all (fun c => isCode c || c.before args0 about1) = true := by decide +kernel
set_option maxRecDepth 65536 in
theorem w_t4 : ((((words1.drop 24).drop 24).drop 24).take 24).all (fun c => isCode c || c.before args0 about1) = true := by decide +kernel
set_option maxRecDepth 65536 in
theorem w_t5 : (((((words1.drop 24).drop 24).drop 24).drop 24).take 24).all (fun c => isCode c || c.before args0 about1) = true := by decide +kernel
set_option maxRecDepth 65536 in
theorem w_t6 : ((((((words1.drop 24).drop 24).drop 24).drop 24).drop 24).take 24).all (fun c => isCode c || c.before args0 about1) = true := by decide +kernel
set_option maxRecDepth 65536 in
theorem w_t7 : (((((((words1.drop 24).drop 24).drop 24).drop 24).drop 24).drop 24).take 24).all (fun c => isCode c || c.before args0 about1) = true := by decide +kernel
set_option maxRecDepth 65536 in
theorem w_t8 : ((((((((words1.drop 24).drop 24).drop 24).drop 24).drop 24).drop 24).drop 24).take 24).all (fun c => isCode c || c.before args0 about1) = true := by decide +kernel
set_option maxRecDepth 65536 in
theorem w_t9 : (((((((((words1.drop 24).drop 24).drop 24).drop 24).drop 24).drop 24).drop 24).drop 24).take 24).all (fun c => isCode c || c.before args0 about1) = true := by decide +kernel
set_option maxRecDepth 65536 in
theorem w_t10 : ((((((((((words1.drop 24).drop 24).drop 24).drop 24).drop 24).drop 24).drop 24).drop 24).drop 24).take 24).all (fun c => isCode c || c.before args0 about1) = true := by decide +kernel
set_option maxRecDepth 65536 in
theorem w_t11 : (((((((((((words1.drop 24).drop 24).drop 24).drop 24).drop 24).drop 24).drop 24).drop 24).drop 24).drop 24).take 24).all (fun c => isCode c || c.before args0 about1) = true := by decide +kernel
set_option maxRecDepth 65536 in
theorem w_t12 : (((((((((((words1.drop 24).drop 24).drop 24).drop 24).drop 24).drop 24).drop 24).drop 24).drop 24).drop 24).drop 24).all (fun c => isCode c || c.before args0 about1) = true := by decide +kernel
theorem w_tables : (allAtoms (Jvm.Cond.code x code maxLocals ret :: tables_1)).before args0 about1 = true := by
  rw [allAtoms_all]
  show words1.all (fun c => c.before args0 about1) = true
  refine all_split ?_ w_codes
  rw [← List.take_append_drop 24 words1, List.all_append, w_t1, ← List.take_append_drop 24 (words1.drop 24), List.all_append, w_t2, ← List.take_append_drop 24 ((words1.drop 24).drop 24), List.all_append, w_t3, ← List.take_append_drop 24 (((words1.drop 24).drop 24).drop 24), List.all_append, w_t4, ← List.take_append_drop 24 ((((words1.drop 24).drop 24).drop 24).drop 24), List.all_append, w_t5, ← List.take_append_drop 24 (((((words1.drop 24).drop 24).drop 24).drop 24).drop 24), List.all_append, w_t6, ← List.take_append_drop 24 ((((((words1.drop 24).drop 24).drop 24).drop 24).drop 24).drop 24), List.all_append, w_t7, ← List.take_append_drop 24 (((((((words1.drop 24).drop 24).drop 24).drop 24).drop 24).drop 24).drop 24), List.all_append, w_t8, ← List.take_append_drop 24 ((((((((words1.drop 24).drop 24).drop 24).drop 24).drop 24).drop 24).drop 24).drop 24), List.all_append, w_t9, ← List.take_append_drop 24 (((((((((words1.drop 24).drop 24).drop 24).drop 24).drop 24).drop 24).drop 24).drop 24).drop 24), List.all_append, w_t10, ← List.take_append_drop 24 ((((((((((words1.drop 24).drop 24).drop 24).drop 24).drop 24).drop 24).drop 24).drop 24).drop 24).drop 24), List.all_append, w_t11, w_t12]
  rfl
set_option maxRecDepth 65536 in
theorem w_rest : rest_1_c.before args0 about1 = true := by decide +kernel
set_option maxRecDepth 65536 in
theorem w_case : (Jvm.Cond.and given_1 narrow_1).before args0 about1 = true := by decide +kernel
set_option maxRecDepth 65536 in
theorem w_consts : constsHeld consts_1 about1 := Jvm.Lit.constsHeldB_iff.mp (by decide +kernel)
theorem w_applies : (headSpec (Jvm.Cond.code x code maxLocals ret :: tables_1) room_1).applies x e0.platform about1 = true :=
  (Spec.applies_iff w_frames).mpr ⟨w_running, w_runnable, w_alone, w_named, w_hears, w_ripe, w_room, w_tables⟩
theorem atStart : AtStart classFile x code maxLocals ret World_1 tables_1 room_1 Calls_1 rest_1 Pre_1 launch0 p0 e0 about1 theMethod args0 below0 :=
  ⟨lists_1, trivial, launch0.admits_env _ _ _, launch0.least_env, fairChoices_fair.cas, fairChoices_fair.clock, w_frames, w_args, w_heap, w_applies, ⟨w_consts, trivial⟩, w_rest, w_case⟩
end start1
theorem witness_1 : WitnessClaimed_1 := ⟨start1.p0, start1.e0, start1.about1, start1.theMethod, start1.args0, start1.below0, start1.atStart⟩
end Jvm.Pilot.@@N@@
